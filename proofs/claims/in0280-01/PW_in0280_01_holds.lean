import PyProof.Rows.All
import Wide.All
import OpenK.AllK
import Wide.FinOn
import Lean
import PySem.Challenge.RW_in0280_01
set_option Elab.async false
set_option linter.all false
namespace Mine
section
open PySem PySem.W PyProof.Rows
noncomputable def q0 : Nat := 0
theorem jk9 (_h : OpenRow.Holds { (OpenLaw.row PySem.Challenge.rw_in0280_01) with writes := true }) : q0 = 0 := rfl
set_option maxHeartbeats 8000000 in
theorem getK : q0 = 0 ∧ True := by
  simp (disch := k_head) only [jk9, and_true]
  rfl
end
section
open PySem PySem.W PySem.Spec PySem.Calls PyProof.Rows
theorem mu1 (h : True) : True := by
  k_unmd
  ktn_open
  ktr_unf
  have _a : True := by kd_mem
  have _a : True := by kst_mem
  have _a : True := by l_ints
  have _a : True := by f_list
  have _a : True := by lge_topk
  have _a : True := by f_are
  have _a : True := by tbn_below
  have _a : True := by ints_of
  have _a : True := by kt_len
  have _a : True := by ktr_rel
  kjx_bare
  law_clear
  trivial
theorem mu6 (a : Addr) (o : Obj) (p : Addr × Obj) : (a, o) ∈ [p, p, p, p, (a, o)] := by
  news_mem
theorem mu7 (a : Nat) : HEq a a := by
  rfl
theorem mu10 : (("a" : String) : Str) = "a" := by
  have _h : (("a" : String) : Str) = "a" := rfl
  rfl
theorem mu11 {p : Program} {loose : List Str} {mean : ExcName → Option Value} {mg mb : Str → Option Value} {h : Heap} (_T : PyProof.Rows.Top p loose mean mg mb h) : True := by
  top_here
  trivial
theorem mu13 : ∀ z : Nat, True → True → z = z := by
  k_same2
theorem mu16 (a b : Nat) (h : a < b) : a + 1 ≤ b := by
  omega
theorem mu18 : ∀ a b : Nat, a = b → a = b := by
  kt_keeps
theorem mu19 (a : Nat) : a = a := by
  kn_among
theorem mu20 (b : Bool) (P Q : Prop) (h : if b = true then P else Q) : if b = true then P else Q := by
  k_openite
  exact h
theorem mu21 {M : Model} {A : Around} {env : Env} {P : Value → Prop} {K : Value → Shared → Prop} {E₁ : Value → Shared → Prop} :
    PassesOwn M A env (fun e s' => P e ∧ wpAny M A (noteFrame e env) (fun _ s'' => K e s'') E₁ s') := by
  passes_own
theorem mu22 {K : Frag} {M : Model} {A : Around} {E : Value → Shared → Prop} {s : Shared} {h₀ : Heap} {L D n : Nat} {v w f : Value} {Q : Value → Shared → Prop} (_X : K.In h₀) (N : News h₀ L s.heap [(D, W.listOf ((List.toArray [v]).push w) n)])
    (_P : NewPlain s.heap [] D #[]) (h : wpAny M A (call f []) Q E s) : wpAny M A (call f []) Q E s := by
  gn_other
  kgr_look
  gp_look
  exact h
end
section
theorem zh9 {P : Prop} (h : ∀ G : Prop, (P → G) → G) : P := h P id
theorem ex1 {α : Type} {p : α → Prop} {G : Prop} (h : ∃ x0, p x0) (k : ∀ x0, p x0 → G) : G := h.elim k
theorem ex2 {α β : Type} {p : α → β → Prop} {G : Prop} (h : ∃ x0 x1, p x0 x1) (k : ∀ x0 x1, p x0 x1 → G) : G := h.elim fun x0 h => ex1 h (k x0)
theorem ex3 {α β γ : Type} {p : α → β → γ → Prop} {G : Prop} (h : ∃ x0 x1 x2, p x0 x1 x2) (k : ∀ x0 x1 x2, p x0 x1 x2 → G) : G := h.elim fun x0 h => ex2 h (k x0)
theorem ex4 {α β γ δ : Type} {p : α → β → γ → δ → Prop} {G : Prop} (h : ∃ x0 x1 x2 x3, p x0 x1 x2 x3) (k : ∀ x0 x1 x2 x3, p x0 x1 x2 x3 → G) : G := h.elim fun x0 h => ex3 h (k x0)
theorem ex5 {α β γ δ ε : Type} {p : α → β → γ → δ → ε → Prop} {G : Prop} (h : ∃ x0 x1 x2 x3 x4, p x0 x1 x2 x3 x4) (k : ∀ x0 x1 x2 x3 x4, p x0 x1 x2 x3 x4 → G) : G := h.elim fun x0 h => ex4 h (k x0)
theorem ex6 {α β γ δ ε ζ : Type} {p : α → β → γ → δ → ε → ζ → Prop} {G : Prop} (h : ∃ x0 x1 x2 x3 x4 x5, p x0 x1 x2 x3 x4 x5) (k : ∀ x0 x1 x2 x3 x4 x5, p x0 x1 x2 x3 x4 x5 → G) : G := h.elim fun x0 h => ex5 h (k x0)
theorem ex7 {α β γ δ ε ζ η : Type} {p : α → β → γ → δ → ε → ζ → η → Prop} {G : Prop} (h : ∃ x0 x1 x2 x3 x4 x5 x6, p x0 x1 x2 x3 x4 x5 x6) (k : ∀ x0 x1 x2 x3 x4 x5 x6, p x0 x1 x2 x3 x4 x5 x6 → G) : G := h.elim fun x0 h => ex6 h (k x0)
theorem ex8 {α β γ δ ε ζ η θ : Type} {p : α → β → γ → δ → ε → ζ → η → θ → Prop} {G : Prop} (h : ∃ x0 x1 x2 x3 x4 x5 x6 x7, p x0 x1 x2 x3 x4 x5 x6 x7) (k : ∀ x0 x1 x2 x3 x4 x5 x6 x7, p x0 x1 x2 x3 x4 x5 x6 x7 → G) : G := h.elim fun x0 h => ex7 h (k x0)
theorem ex9 {α β γ δ ε ζ η θ ι : Type} {p : α → β → γ → δ → ε → ζ → η → θ → ι → Prop} {G : Prop} (h : ∃ x0 x1 x2 x3 x4 x5 x6 x7 x8, p x0 x1 x2 x3 x4 x5 x6 x7 x8) (k : ∀ x0 x1 x2 x3 x4 x5 x6 x7 x8, p x0 x1 x2 x3 x4 x5 x6 x7 x8 → G) : G := h.elim fun x0 h => ex8 h (k x0)
theorem ex10 {α β γ δ ε ζ η θ ι κ : Type} {p : α → β → γ → δ → ε → ζ → η → θ → ι → κ → Prop} {G : Prop} (h : ∃ x0 x1 x2 x3 x4 x5 x6 x7 x8 x9, p x0 x1 x2 x3 x4 x5 x6 x7 x8 x9) (k : ∀ x0 x1 x2 x3 x4 x5 x6 x7 x8 x9, p x0 x1 x2 x3 x4 x5 x6 x7 x8 x9 → G) : G := h.elim fun x0 h => ex9 h (k x0)
theorem ex11 {α β γ δ ε ζ η θ ι κ μ : Type} {p : α → β → γ → δ → ε → ζ → η → θ → ι → κ → μ → Prop} {G : Prop} (h : ∃ x0 x1 x2 x3 x4 x5 x6 x7 x8 x9 x10, p x0 x1 x2 x3 x4 x5 x6 x7 x8 x9 x10) (k : ∀ x0 x1 x2 x3 x4 x5 x6 x7 x8 x9 x10, p x0 x1 x2 x3 x4 x5 x6 x7 x8 x9 x10 → G) : G := h.elim fun x0 h => ex10 h (k x0)
theorem ex12 {α β γ δ ε ζ η θ ι κ μ ν : Type} {p : α → β → γ → δ → ε → ζ → η → θ → ι → κ → μ → ν → Prop} {G : Prop} (h : ∃ x0 x1 x2 x3 x4 x5 x6 x7 x8 x9 x10 x11, p x0 x1 x2 x3 x4 x5 x6 x7 x8 x9 x10 x11) (k : ∀ x0 x1 x2 x3 x4 x5 x6 x7 x8 x9 x10 x11, p x0 x1 x2 x3 x4 x5 x6 x7 x8 x9 x10 x11 → G) : G := h.elim fun x0 h => ex11 h (k x0)
theorem ix1 {α : Type} {p : α → Prop} (x0 : α) (z : p x0) : ∃ x0, p x0 := ⟨x0, z⟩
theorem ix2 {α β : Type} {p : α → β → Prop} (x0 : α) (x1 : β) (z : p x0 x1) : ∃ x0 x1, p x0 x1 := ⟨x0, x1, z⟩
theorem ix3 {α β γ : Type} {p : α → β → γ → Prop} (x0 : α) (x1 : β) (x2 : γ) (z : p x0 x1 x2) : ∃ x0 x1 x2, p x0 x1 x2 := ⟨x0, ix2 x1 x2 z⟩
theorem ix4 {α β γ δ : Type} {p : α → β → γ → δ → Prop} (x0 : α) (x1 : β) (x2 : γ) (x3 : δ) (z : p x0 x1 x2 x3) : ∃ x0 x1 x2 x3, p x0 x1 x2 x3 := ⟨x0, ix3 x1 x2 x3 z⟩
theorem ix5 {α β γ δ ε : Type} {p : α → β → γ → δ → ε → Prop} (x0 : α) (x1 : β) (x2 : γ) (x3 : δ) (x4 : ε) (z : p x0 x1 x2 x3 x4) : ∃ x0 x1 x2 x3 x4, p x0 x1 x2 x3 x4 := ⟨x0, ix4 x1 x2 x3 x4 z⟩
theorem ix6 {α β γ δ ε ζ : Type} {p : α → β → γ → δ → ε → ζ → Prop} (x0 : α) (x1 : β) (x2 : γ) (x3 : δ) (x4 : ε) (x5 : ζ) (z : p x0 x1 x2 x3 x4 x5) : ∃ x0 x1 x2 x3 x4 x5, p x0 x1 x2 x3 x4 x5 := ⟨x0, ix5 x1 x2 x3 x4 x5 z⟩
theorem ix7 {α β γ δ ε ζ η : Type} {p : α → β → γ → δ → ε → ζ → η → Prop} (x0 : α) (x1 : β) (x2 : γ) (x3 : δ) (x4 : ε) (x5 : ζ) (x6 : η) (z : p x0 x1 x2 x3 x4 x5 x6) : ∃ x0 x1 x2 x3 x4 x5 x6, p x0 x1 x2 x3 x4 x5 x6 := ⟨x0, ix6 x1 x2 x3 x4 x5 x6 z⟩
theorem ix8 {α β γ δ ε ζ η θ : Type} {p : α → β → γ → δ → ε → ζ → η → θ → Prop} (x0 : α) (x1 : β) (x2 : γ) (x3 : δ) (x4 : ε) (x5 : ζ) (x6 : η) (x7 : θ) (z : p x0 x1 x2 x3 x4 x5 x6 x7) : ∃ x0 x1 x2 x3 x4 x5 x6 x7, p x0 x1 x2 x3 x4 x5 x6 x7 := ⟨x0, ix7 x1 x2 x3 x4 x5 x6 x7 z⟩
theorem ix9 {α β γ δ ε ζ η θ ι : Type} {p : α → β → γ → δ → ε → ζ → η → θ → ι → Prop} (x0 : α) (x1 : β) (x2 : γ) (x3 : δ) (x4 : ε) (x5 : ζ) (x6 : η) (x7 : θ) (x8 : ι) (z : p x0 x1 x2 x3 x4 x5 x6 x7 x8) : ∃ x0 x1 x2 x3 x4 x5 x6 x7 x8, p x0 x1 x2 x3 x4 x5 x6 x7 x8 := ⟨x0, ix8 x1 x2 x3 x4 x5 x6 x7 x8 z⟩
theorem ix10 {α β γ δ ε ζ η θ ι κ : Type} {p : α → β → γ → δ → ε → ζ → η → θ → ι → κ → Prop} (x0 : α) (x1 : β) (x2 : γ) (x3 : δ) (x4 : ε) (x5 : ζ) (x6 : η) (x7 : θ) (x8 : ι) (x9 : κ) (z : p x0 x1 x2 x3 x4 x5 x6 x7 x8 x9) : ∃ x0 x1 x2 x3 x4 x5 x6 x7 x8 x9, p x0 x1 x2 x3 x4 x5 x6 x7 x8 x9 := ⟨x0, ix9 x1 x2 x3 x4 x5 x6 x7 x8 x9 z⟩
theorem ix11 {α β γ δ ε ζ η θ ι κ μ : Type} {p : α → β → γ → δ → ε → ζ → η → θ → ι → κ → μ → Prop} (x0 : α) (x1 : β) (x2 : γ) (x3 : δ) (x4 : ε) (x5 : ζ) (x6 : η) (x7 : θ) (x8 : ι) (x9 : κ) (x10 : μ) (z : p x0 x1 x2 x3 x4 x5 x6 x7 x8 x9 x10) : ∃ x0 x1 x2 x3 x4 x5 x6 x7 x8 x9 x10, p x0 x1 x2 x3 x4 x5 x6 x7 x8 x9 x10 := ⟨x0, ix10 x1 x2 x3 x4 x5 x6 x7 x8 x9 x10 z⟩
theorem ix12 {α β γ δ ε ζ η θ ι κ μ ν : Type} {p : α → β → γ → δ → ε → ζ → η → θ → ι → κ → μ → ν → Prop} (x0 : α) (x1 : β) (x2 : γ) (x3 : δ) (x4 : ε) (x5 : ζ) (x6 : η) (x7 : θ) (x8 : ι) (x9 : κ) (x10 : μ) (x11 : ν) (z : p x0 x1 x2 x3 x4 x5 x6 x7 x8 x9 x10 x11) : ∃ x0 x1 x2 x3 x4 x5 x6 x7 x8 x9 x10 x11, p x0 x1 x2 x3 x4 x5 x6 x7 x8 x9 x10 x11 := ⟨x0, ix11 x1 x2 x3 x4 x5 x6 x7 x8 x9 x10 x11 z⟩
theorem an1 {a0 a1 G : Prop} (h : a0 ∧ a1) (k : a0 → a1 → G) : G := k h.1 h.2
theorem an2 {a0 a1 a2 G : Prop} (h : a0 ∧ a1 ∧ a2) (k : a0 → a1 → a2 → G) : G := an1 h.2 (k h.1)
theorem an3 {a0 a1 a2 a3 G : Prop} (h : a0 ∧ a1 ∧ a2 ∧ a3) (k : a0 → a1 → a2 → a3 → G) : G := an2 h.2 (k h.1)
theorem an4 {a0 a1 a2 a3 a4 G : Prop} (h : a0 ∧ a1 ∧ a2 ∧ a3 ∧ a4) (k : a0 → a1 → a2 → a3 → a4 → G) : G := an3 h.2 (k h.1)
theorem an5 {a0 a1 a2 a3 a4 a5 G : Prop} (h : a0 ∧ a1 ∧ a2 ∧ a3 ∧ a4 ∧ a5) (k : a0 → a1 → a2 → a3 → a4 → a5 → G) : G := an4 h.2 (k h.1)
theorem an6 {a0 a1 a2 a3 a4 a5 a6 G : Prop} (h : a0 ∧ a1 ∧ a2 ∧ a3 ∧ a4 ∧ a5 ∧ a6) (k : a0 → a1 → a2 → a3 → a4 → a5 → a6 → G) : G := an5 h.2 (k h.1)
theorem an7 {a0 a1 a2 a3 a4 a5 a6 a7 G : Prop} (h : a0 ∧ a1 ∧ a2 ∧ a3 ∧ a4 ∧ a5 ∧ a6 ∧ a7) (k : a0 → a1 → a2 → a3 → a4 → a5 → a6 → a7 → G) : G := an6 h.2 (k h.1)
theorem an8 {a0 a1 a2 a3 a4 a5 a6 a7 a8 G : Prop} (h : a0 ∧ a1 ∧ a2 ∧ a3 ∧ a4 ∧ a5 ∧ a6 ∧ a7 ∧ a8) (k : a0 → a1 → a2 → a3 → a4 → a5 → a6 → a7 → a8 → G) : G := an7 h.2 (k h.1)
theorem an9 {a0 a1 a2 a3 a4 a5 a6 a7 a8 a9 G : Prop} (h : a0 ∧ a1 ∧ a2 ∧ a3 ∧ a4 ∧ a5 ∧ a6 ∧ a7 ∧ a8 ∧ a9) (k : a0 → a1 → a2 → a3 → a4 → a5 → a6 → a7 → a8 → a9 → G) : G := an8 h.2 (k h.1)
theorem an10 {a0 a1 a2 a3 a4 a5 a6 a7 a8 a9 a10 G : Prop} (h : a0 ∧ a1 ∧ a2 ∧ a3 ∧ a4 ∧ a5 ∧ a6 ∧ a7 ∧ a8 ∧ a9 ∧ a10) (k : a0 → a1 → a2 → a3 → a4 → a5 → a6 → a7 → a8 → a9 → a10 → G) : G := an9 h.2 (k h.1)
theorem an11 {a0 a1 a2 a3 a4 a5 a6 a7 a8 a9 a10 a11 G : Prop} (h : a0 ∧ a1 ∧ a2 ∧ a3 ∧ a4 ∧ a5 ∧ a6 ∧ a7 ∧ a8 ∧ a9 ∧ a10 ∧ a11) (k : a0 → a1 → a2 → a3 → a4 → a5 → a6 → a7 → a8 → a9 → a10 → a11 → G) : G := an10 h.2 (k h.1)
theorem an12 {a0 a1 a2 a3 a4 a5 a6 a7 a8 a9 a10 a11 a12 G : Prop} (h : a0 ∧ a1 ∧ a2 ∧ a3 ∧ a4 ∧ a5 ∧ a6 ∧ a7 ∧ a8 ∧ a9 ∧ a10 ∧ a11 ∧ a12) (k : a0 → a1 → a2 → a3 → a4 → a5 → a6 → a7 → a8 → a9 → a10 → a11 → a12 → G) : G := an11 h.2 (k h.1)
noncomputable def nth {α : Type} : List α → Nat → Option α
  | [], _ => none
  | a :: _, 0 => some a
  | _ :: l, n + 1 => nth l n
theorem memI {α : Type} {x : α} : ∀ {l : List α} (i : Nat), nth l i = some x → x ∈ l
  | [], _, h => by cases h
  | a :: _, 0, h => by cases h; exact .head _
  | _ :: _, n + 1, h => .tail _ (memI n h)
noncomputable def bv9 {α : Type} : Nat → List α → Option (List α)
  | 0, l => some l
  | _ + 1, [] => none
  | n + 1, _ :: l => bv9 n l
noncomputable def jF9 {α : Type} (x : Option α) (y : Option (List α)) : Option (List α) := match x with
  | some a => match y with
    | some t => some (a :: t)
    | none => none
  | none => none
noncomputable def selO {α : Type} (l : List α) (k : Nat) : List Nat → Option (List α)
  | [] => bv9 k l
  | i :: r => jF9 (nth l i) (selO l k r)
theorem vb9 {α : Type} {x : α} : ∀ {k : Nat} {l l' : List α}, bv9 k l = some l' → x ∈ l' → x ∈ l
  | 0, _, _, e, h => by cases e; exact h
  | _ + 1, [], _, e, _ => by cases e
  | _ + 1, _ :: _, _, e, h => .tail _ (vb9 e h)
theorem memD {α : Type} {l l' : List α} (k : Nat) (e : bv9 k l = some l') : ∀ x ∈ l', x ∈ l := fun _ h => vb9 e h
theorem wN9 {α : Type} {l : List α} {k : Nat} {x : α} : ∀ {r : List Nat} {l' : List α}, selO l k r = some l' → x ∈ l' → x ∈ l
  | [], _, e, h => vb9 e h
  | i :: r, l', e, h => by
    have e : jF9 (nth l i) (selO l k r) = some l' := e
    cases e1 : nth l i with
    | none => rw [e1] at e; cases e
    | some a => cases e2 : selO l k r with
      | none => rw [e1, e2] at e; cases e
      | some t =>
        rw [e1, e2] at e
        cases e
        rcases List.mem_cons.mp h with rfl | h
        · exact memI i e1
        · exact wN9 e2 h
theorem neL {L : Nat} (i j : Nat) (h : (i == j) = false) : L + i ≠ L + j := fun e => by
  have := Nat.add_left_cancel e
  subst this
  exact absurd h (by simp)
end
open PySem PySem.W PySem.Spec PySem.Calls PyProof.Rows
theorem jx9 : PySem.Challenge.rw_in0280_01 = PySem.Challenge.rw_in0280_01 ∧ getK.heap_1 = getK.heap_1 := by
  k_fill
  exact ⟨rfl, rfl⟩
set_option maxHeartbeats 4000000
set_option maxRecDepth 100000
section
theorem limD {a c k R : Nat} (h : a + c ≤ R) (hk : k < c) : a + k < R := Nat.lt_of_lt_of_le (Nat.add_lt_add_left hk a) h
theorem limU {a c k R : Nat} (h : a + c < R + 3) (hk : k + 3 ≤ c) : a + k < R := Nat.lt_of_add_lt_add_right (Nat.lt_of_le_of_lt (Nat.add_assoc a k 3 ▸ Nat.add_le_add_left hk a) h)
theorem limV {a c k R : Nat} (h : a + c < R) (hk : k ≤ c) : a + k < R := Nat.lt_of_le_of_lt (Nat.add_le_add_left hk a) h
theorem up1 {a c R : Nat} (h : a + c < R) : a + 1 + c ≤ R := Nat.add_right_comm a 1 c ▸ h
theorem up3 {a c R : Nat} (h : a + c < R) : a + 3 + c < R + 3 := Nat.add_right_comm a 3 c ▸ Nat.add_lt_add_right h 3
theorem lt0 {a c R : Nat} (h : a + c < R) : a < R := Nat.lt_of_le_of_lt (Nat.le_add_right a c) h
noncomputable abbrev prg := PySem.Challenge.pw_in0280_01
structure Wd where
  w : World
  p : Program
  loose : List Str
  mean : ExcName → Option Value
  mg : Str → Option Value
  mb : Str → Option Value
noncomputable def Spc (V : Wd) (f : Value) (args : List Value) (d u : Nat) (obs : List (Addr × Obj)) (pre : Heap → Prop) (post : Heap → Value → Heap → Prop) : Prop :=
  ∀ (dp un : Nat) (gd : Option (List Code)) (cn : Str) (cs : Scope) (a : Addr) (ccd : Value) (cl : List (Str × Addr)) (outer : List Env) (A₀ : Around) (base h₀ : Heap) (L : Addr) (m : Str → Option Value) (s : Shared) (Q E : Value → Shared → Prop),
    Below A₀ base outer h₀ → Fr h₀ L s.heap m → (getK.heap_1 V.w.params).In h₀ → Top V.p V.loose V.mean V.mg V.mb h₀ → cs.kind = .function →
    dp + d < recursionLimit → un + u < cLine → News h₀ L s.heap obs → pre s.heap →
    (∀ v h' tk', (∀ b o, b ∉ obs.map (·.1) → s.heap.get? b = some o → h'.get? b = some o) → s.heap.objs.size ≤ h'.objs.size → post s.heap v h' → Q v { s with heap := h', toks := tk' }) →
      wpAny (model prg V.w) (ktrTop dp un gd cn cs L a ccd cl outer) (call f args) Q E s
theorem qp9 {V : Wd} {f : Addr} {args : List Value} {d u : Nat} {pre : Heap → Prop} {post : Heap → Value → Heap → Prop}
    {name qual : Str} {params : Arguments} {body : List Stmt} {scope : Scope} {doc pm cdv ct oc : Value} {od : Option Addr} {osl : Array (Option Value)} {binds : List (Str × Value)}
    (ho : (getK.heap_1 V.w.params).lookup f = some ⟨oc, od, .func (fnX name qual params body scope [] .none .none doc pm none cdv ct), osl⟩) (hcd : codeIn (getK.heap_1 V.w.params) cdv qual = true)
    (hbind : bindArgs (fnX name qual params body scope [] .none .none doc pm none cdv ct) ⟨args, []⟩ = pure binds) (hloc : ∀ y ∈ binds, scope.names.lookup y.1 = some .local)
    (hcell : ∀ x ∈ scope.names, x.2 ≠ .cell) (hco : scope.isCoroutine = false) (hgen : scope.isGenerator = false) (hk : scope.kind = .function)
    (h : ∀ (dp un : Nat) (gd : Option (List Code)) (outer : List Env) (A₁ : Around) (base g : Heap) (L' : Addr) (h₁ : Heap) (s : Shared) (Q : Value → Shared → Prop),
      dp + d ≤ recursionLimit → un + u < cLine + 3 → pre g → Fr g L' h₁ (fun y => binds.reverse.lookup y) → News g L' h₁ [] → Below A₁ base outer g → (getK.heap_1 V.w.params).In g → Top V.p V.loose V.mean V.mg V.mb g →
      (∀ v h' tk' m', Fr g L' h' m' → post g v h' → Q v { s with heap := h', toks := tk' }) →
      wpAny (model prg V.w) (ktrTop dp un gd qual scope L' f cdv [] outer) (execs body (envX qual scope L' f cdv []))
        (fun fl s' => Q (match fl with | .ret v => v | _ => .none) s') (fun _ _ => False) { s with heap := h₁, toks := s.toks + binds.length }) :
    Spc V (.ref f) args d u [] pre post := by
  intro dp un gd cn cs a ccd cl outer A₀ base h₀ L m s Q E B F X T hkc hd hu N hp ret
  have Xs := Frag.In.keeps X F.keep
  have Ts := T.keeps F.keep
  have hd0 : dp < recursionLimit := lt0 (by assumption)
  refine wpAny_call (codeAny_call_def (fd := fnX name qual params body scope [] .none .none doc pm none cdv ct) (body := body) (binds := binds) hd0 (Xs _ _ ho) rfl Ts.nolimit (codeRec_of Xs hcd) rfl (BindsTo.of_eq hbind) hcell hloc (fun h₁ hns hk₁ => ?_) hco hgen hk)
  have FG : Fr s.heap s.heap.objs.size h₁ (fun y => binds.reverse.lookup y) := ⟨hns, hk₁, Nat.le_refl _⟩
  have BG : Below (ktrTop dp un gd cn cs L a ccd cl outer) base (envX cn cs L a ccd cl :: outer) s.heap := by
    obtain ⟨F2, B2, st, lv⟩ := groundX (R := fun _ _ => True) (A := ktrTop dp un gd cn cs L a ccd cl outer) B F (News.nil : News h₀ L s.heap []) rfl rfl hkc
    exact B2
  refine wpAny_mono (h (dp + 1) (un + 3) gd (envX cn cs L a ccd cl :: outer) _ base s.heap s.heap.objs.size h₁ s Q (up1 (by assumption)) (up3 (by assumption)) hp FG News.nil BG Xs Ts (fun v h' tk' m' F' po => ret v h' tk' (fun b o _ e => F'.keep b o e) (Nat.le_of_lt F'.ns.lt) po)) (fun fl s' hq => hq) (fun _ _ x => x.elim)
theorem bM9 : Nonempty Params := ⟨{ strHash := fun _ => 0, shareClass := fun _ => 0, mergeTok := id, idOf := fun _ => 0, idOfShared := fun _ _ => 0, followText := fun _ => true, idOfImm := fun _ => 0 }⟩
theorem xf9 : Nonempty World := ⟨⟨fun _ _ => 0, Classical.choice bM9⟩⟩
theorem xh9 : Nonempty Around := ⟨{}⟩
theorem qN9 : Nonempty Drawn := ⟨{}⟩
theorem xg9 : Nonempty Shared := ⟨{}⟩
theorem qM9 : Nonempty Model := ⟨⟨fun _ => .unsupported "", default, Classical.choice xf9⟩⟩
theorem neWd : Nonempty Wd := ⟨⟨Classical.choice xf9, default, [], fun _ => none, fun _ => none, fun _ => none⟩⟩
theorem nep {α β : Type} (a : Nonempty α) (b : Nonempty β) : Nonempty (α × β) := a.elim fun a => b.elim fun b => ⟨(a, b)⟩
noncomputable def wit {α : Type} (P : α → Prop) (ne : Nonempty α) : α := @Classical.epsilon α ne fun x => ¬ P x
theorem hk {α : Type} {P : α → Prop} {c : α} {ne : Nonempty α} (e : c = wit P ne) (h : P c) (x : α) : P x :=
  Classical.byContradiction fun n => (@Classical.epsilon_spec α (fun x => ¬ P x) ⟨x, n⟩ : ¬ P (wit P ne)) (e.subst (motive := P) h)
section
variable {a0 a1 a2 a3 a4 a5 a6 a7 a8 a9 a10 a11 a12 a13 a14 a15 a16 a17 a18 a19 a20 a21 a22 a23 a24 a25 a26 a27 a28 a29 : Type}
theorem lnB : True := by
  (k_with "ne9" => repeat' (first | refine nep ?_ ?_ | exact neWd | exact xf9 | exact xh9 | exact xg9 | exact qM9 | exact qN9 | exact inferInstance))
  trivial
noncomputable def W5 (P : a0 → a1 → a2 → a3 → a4 → Prop) (ne : Nonempty (a0 × a1 × a2 × a3 × a4) := by k_extra "ne9") : a0 × a1 × a2 × a3 × a4 := wit (fun x => P x.1 x.2.1 x.2.2.1 x.2.2.2.1 x.2.2.2.2) ne
noncomputable def A5 (P : a0 → a1 → a2 → a3 → a4 → Prop) (c : a0 × a1 × a2 × a3 × a4) : Prop := P c.1 c.2.1 c.2.2.1 c.2.2.2.1 c.2.2.2.2
theorem H5 {P : a0 → a1 → a2 → a3 → a4 → Prop} {c ne} (e : c = W5 P ne) (h : A5 P c) (x0 x1 x2 x3 x4 : _) : P x0 x1 x2 x3 x4 := hk (P := A5 P) e h (x0, x1, x2, x3, x4)
noncomputable def W6 (P : a0 → a1 → a2 → a3 → a4 → a5 → Prop) (ne : Nonempty (a0 × a1 × a2 × a3 × a4 × a5) := by k_extra "ne9") : a0 × a1 × a2 × a3 × a4 × a5 := wit (fun x => P x.1 x.2.1 x.2.2.1 x.2.2.2.1 x.2.2.2.2.1 x.2.2.2.2.2) ne
noncomputable def A6 (P : a0 → a1 → a2 → a3 → a4 → a5 → Prop) (c : a0 × a1 × a2 × a3 × a4 × a5) : Prop := P c.1 c.2.1 c.2.2.1 c.2.2.2.1 c.2.2.2.2.1 c.2.2.2.2.2
theorem H6 {P : a0 → a1 → a2 → a3 → a4 → a5 → Prop} {c ne} (e : c = W6 P ne) (h : A6 P c) (x0 x1 x2 x3 x4 x5 : _) : P x0 x1 x2 x3 x4 x5 := hk (P := A6 P) e h (x0, x1, x2, x3, x4, x5)
noncomputable def W7 (P : a0 → a1 → a2 → a3 → a4 → a5 → a6 → Prop) (ne : Nonempty (a0 × a1 × a2 × a3 × a4 × a5 × a6) := by k_extra "ne9") : a0 × a1 × a2 × a3 × a4 × a5 × a6 := wit (fun x => P x.1 x.2.1 x.2.2.1 x.2.2.2.1 x.2.2.2.2.1 x.2.2.2.2.2.1 x.2.2.2.2.2.2) ne
noncomputable def A7 (P : a0 → a1 → a2 → a3 → a4 → a5 → a6 → Prop) (c : a0 × a1 × a2 × a3 × a4 × a5 × a6) : Prop := P c.1 c.2.1 c.2.2.1 c.2.2.2.1 c.2.2.2.2.1 c.2.2.2.2.2.1 c.2.2.2.2.2.2
theorem H7 {P : a0 → a1 → a2 → a3 → a4 → a5 → a6 → Prop} {c ne} (e : c = W7 P ne) (h : A7 P c) (x0 x1 x2 x3 x4 x5 x6 : _) : P x0 x1 x2 x3 x4 x5 x6 := hk (P := A7 P) e h (x0, x1, x2, x3, x4, x5, x6)
noncomputable def W10 (P : a0 → a1 → a2 → a3 → a4 → a5 → a6 → a7 → a8 → a9 → Prop) (ne : Nonempty (a0 × a1 × a2 × a3 × a4 × a5 × a6 × a7 × a8 × a9) := by k_extra "ne9") : a0 × a1 × a2 × a3 × a4 × a5 × a6 × a7 × a8 × a9 := wit (fun x => P x.1 x.2.1 x.2.2.1 x.2.2.2.1 x.2.2.2.2.1 x.2.2.2.2.2.1 x.2.2.2.2.2.2.1 x.2.2.2.2.2.2.2.1 x.2.2.2.2.2.2.2.2.1 x.2.2.2.2.2.2.2.2.2) ne
noncomputable def A10 (P : a0 → a1 → a2 → a3 → a4 → a5 → a6 → a7 → a8 → a9 → Prop) (c : a0 × a1 × a2 × a3 × a4 × a5 × a6 × a7 × a8 × a9) : Prop := P c.1 c.2.1 c.2.2.1 c.2.2.2.1 c.2.2.2.2.1 c.2.2.2.2.2.1 c.2.2.2.2.2.2.1 c.2.2.2.2.2.2.2.1 c.2.2.2.2.2.2.2.2.1 c.2.2.2.2.2.2.2.2.2
theorem H10 {P : a0 → a1 → a2 → a3 → a4 → a5 → a6 → a7 → a8 → a9 → Prop} {c ne} (e : c = W10 P ne) (h : A10 P c) (x0 x1 x2 x3 x4 x5 x6 x7 x8 x9 : _) : P x0 x1 x2 x3 x4 x5 x6 x7 x8 x9 := hk (P := A10 P) e h (x0, x1, x2, x3, x4, x5, x6, x7, x8, x9)
noncomputable def W11 (P : a0 → a1 → a2 → a3 → a4 → a5 → a6 → a7 → a8 → a9 → a10 → Prop) (ne : Nonempty (a0 × a1 × a2 × a3 × a4 × a5 × a6 × a7 × a8 × a9 × a10) := by k_extra "ne9") : a0 × a1 × a2 × a3 × a4 × a5 × a6 × a7 × a8 × a9 × a10 := wit (fun x => P x.1 x.2.1 x.2.2.1 x.2.2.2.1 x.2.2.2.2.1 x.2.2.2.2.2.1 x.2.2.2.2.2.2.1 x.2.2.2.2.2.2.2.1 x.2.2.2.2.2.2.2.2.1 x.2.2.2.2.2.2.2.2.2.1 x.2.2.2.2.2.2.2.2.2.2) ne
noncomputable def A11 (P : a0 → a1 → a2 → a3 → a4 → a5 → a6 → a7 → a8 → a9 → a10 → Prop) (c : a0 × a1 × a2 × a3 × a4 × a5 × a6 × a7 × a8 × a9 × a10) : Prop := P c.1 c.2.1 c.2.2.1 c.2.2.2.1 c.2.2.2.2.1 c.2.2.2.2.2.1 c.2.2.2.2.2.2.1 c.2.2.2.2.2.2.2.1 c.2.2.2.2.2.2.2.2.1 c.2.2.2.2.2.2.2.2.2.1 c.2.2.2.2.2.2.2.2.2.2
theorem H11 {P : a0 → a1 → a2 → a3 → a4 → a5 → a6 → a7 → a8 → a9 → a10 → Prop} {c ne} (e : c = W11 P ne) (h : A11 P c) (x0 x1 x2 x3 x4 x5 x6 x7 x8 x9 x10 : _) : P x0 x1 x2 x3 x4 x5 x6 x7 x8 x9 x10 := hk (P := A11 P) e h (x0, x1, x2, x3, x4, x5, x6, x7, x8, x9, x10)
noncomputable def W12 (P : a0 → a1 → a2 → a3 → a4 → a5 → a6 → a7 → a8 → a9 → a10 → a11 → Prop) (ne : Nonempty (a0 × a1 × a2 × a3 × a4 × a5 × a6 × a7 × a8 × a9 × a10 × a11) := by k_extra "ne9") : a0 × a1 × a2 × a3 × a4 × a5 × a6 × a7 × a8 × a9 × a10 × a11 := wit (fun x => P x.1 x.2.1 x.2.2.1 x.2.2.2.1 x.2.2.2.2.1 x.2.2.2.2.2.1 x.2.2.2.2.2.2.1 x.2.2.2.2.2.2.2.1 x.2.2.2.2.2.2.2.2.1 x.2.2.2.2.2.2.2.2.2.1 x.2.2.2.2.2.2.2.2.2.2.1 x.2.2.2.2.2.2.2.2.2.2.2) ne
noncomputable def A12 (P : a0 → a1 → a2 → a3 → a4 → a5 → a6 → a7 → a8 → a9 → a10 → a11 → Prop) (c : a0 × a1 × a2 × a3 × a4 × a5 × a6 × a7 × a8 × a9 × a10 × a11) : Prop := P c.1 c.2.1 c.2.2.1 c.2.2.2.1 c.2.2.2.2.1 c.2.2.2.2.2.1 c.2.2.2.2.2.2.1 c.2.2.2.2.2.2.2.1 c.2.2.2.2.2.2.2.2.1 c.2.2.2.2.2.2.2.2.2.1 c.2.2.2.2.2.2.2.2.2.2.1 c.2.2.2.2.2.2.2.2.2.2.2
theorem H12 {P : a0 → a1 → a2 → a3 → a4 → a5 → a6 → a7 → a8 → a9 → a10 → a11 → Prop} {c ne} (e : c = W12 P ne) (h : A12 P c) (x0 x1 x2 x3 x4 x5 x6 x7 x8 x9 x10 x11 : _) : P x0 x1 x2 x3 x4 x5 x6 x7 x8 x9 x10 x11 := hk (P := A12 P) e h (x0, x1, x2, x3, x4, x5, x6, x7, x8, x9, x10, x11)
noncomputable def W13 (P : a0 → a1 → a2 → a3 → a4 → a5 → a6 → a7 → a8 → a9 → a10 → a11 → a12 → Prop) (ne : Nonempty (a0 × a1 × a2 × a3 × a4 × a5 × a6 × a7 × a8 × a9 × a10 × a11 × a12) := by k_extra "ne9") : a0 × a1 × a2 × a3 × a4 × a5 × a6 × a7 × a8 × a9 × a10 × a11 × a12 := wit (fun x => P x.1 x.2.1 x.2.2.1 x.2.2.2.1 x.2.2.2.2.1 x.2.2.2.2.2.1 x.2.2.2.2.2.2.1 x.2.2.2.2.2.2.2.1 x.2.2.2.2.2.2.2.2.1 x.2.2.2.2.2.2.2.2.2.1 x.2.2.2.2.2.2.2.2.2.2.1 x.2.2.2.2.2.2.2.2.2.2.2.1 x.2.2.2.2.2.2.2.2.2.2.2.2) ne
noncomputable def A13 (P : a0 → a1 → a2 → a3 → a4 → a5 → a6 → a7 → a8 → a9 → a10 → a11 → a12 → Prop) (c : a0 × a1 × a2 × a3 × a4 × a5 × a6 × a7 × a8 × a9 × a10 × a11 × a12) : Prop := P c.1 c.2.1 c.2.2.1 c.2.2.2.1 c.2.2.2.2.1 c.2.2.2.2.2.1 c.2.2.2.2.2.2.1 c.2.2.2.2.2.2.2.1 c.2.2.2.2.2.2.2.2.1 c.2.2.2.2.2.2.2.2.2.1 c.2.2.2.2.2.2.2.2.2.2.1 c.2.2.2.2.2.2.2.2.2.2.2.1 c.2.2.2.2.2.2.2.2.2.2.2.2
theorem H13 {P : a0 → a1 → a2 → a3 → a4 → a5 → a6 → a7 → a8 → a9 → a10 → a11 → a12 → Prop} {c ne} (e : c = W13 P ne) (h : A13 P c) (x0 x1 x2 x3 x4 x5 x6 x7 x8 x9 x10 x11 x12 : _) : P x0 x1 x2 x3 x4 x5 x6 x7 x8 x9 x10 x11 x12 := hk (P := A13 P) e h (x0, x1, x2, x3, x4, x5, x6, x7, x8, x9, x10, x11, x12)
noncomputable def W14 (P : a0 → a1 → a2 → a3 → a4 → a5 → a6 → a7 → a8 → a9 → a10 → a11 → a12 → a13 → Prop) (ne : Nonempty (a0 × a1 × a2 × a3 × a4 × a5 × a6 × a7 × a8 × a9 × a10 × a11 × a12 × a13) := by k_extra "ne9") : a0 × a1 × a2 × a3 × a4 × a5 × a6 × a7 × a8 × a9 × a10 × a11 × a12 × a13 := wit (fun x => P x.1 x.2.1 x.2.2.1 x.2.2.2.1 x.2.2.2.2.1 x.2.2.2.2.2.1 x.2.2.2.2.2.2.1 x.2.2.2.2.2.2.2.1 x.2.2.2.2.2.2.2.2.1 x.2.2.2.2.2.2.2.2.2.1 x.2.2.2.2.2.2.2.2.2.2.1 x.2.2.2.2.2.2.2.2.2.2.2.1 x.2.2.2.2.2.2.2.2.2.2.2.2.1 x.2.2.2.2.2.2.2.2.2.2.2.2.2) ne
noncomputable def A14 (P : a0 → a1 → a2 → a3 → a4 → a5 → a6 → a7 → a8 → a9 → a10 → a11 → a12 → a13 → Prop) (c : a0 × a1 × a2 × a3 × a4 × a5 × a6 × a7 × a8 × a9 × a10 × a11 × a12 × a13) : Prop := P c.1 c.2.1 c.2.2.1 c.2.2.2.1 c.2.2.2.2.1 c.2.2.2.2.2.1 c.2.2.2.2.2.2.1 c.2.2.2.2.2.2.2.1 c.2.2.2.2.2.2.2.2.1 c.2.2.2.2.2.2.2.2.2.1 c.2.2.2.2.2.2.2.2.2.2.1 c.2.2.2.2.2.2.2.2.2.2.2.1 c.2.2.2.2.2.2.2.2.2.2.2.2.1 c.2.2.2.2.2.2.2.2.2.2.2.2.2
theorem H14 {P : a0 → a1 → a2 → a3 → a4 → a5 → a6 → a7 → a8 → a9 → a10 → a11 → a12 → a13 → Prop} {c ne} (e : c = W14 P ne) (h : A14 P c) (x0 x1 x2 x3 x4 x5 x6 x7 x8 x9 x10 x11 x12 x13 : _) : P x0 x1 x2 x3 x4 x5 x6 x7 x8 x9 x10 x11 x12 x13 := hk (P := A14 P) e h (x0, x1, x2, x3, x4, x5, x6, x7, x8, x9, x10, x11, x12, x13)
noncomputable def W18 (P : a0 → a1 → a2 → a3 → a4 → a5 → a6 → a7 → a8 → a9 → a10 → a11 → a12 → a13 → a14 → a15 → a16 → a17 → Prop) (ne : Nonempty (a0 × a1 × a2 × a3 × a4 × a5 × a6 × a7 × a8 × a9 × a10 × a11 × a12 × a13 × a14 × a15 × a16 × a17) := by k_extra "ne9") : a0 × a1 × a2 × a3 × a4 × a5 × a6 × a7 × a8 × a9 × a10 × a11 × a12 × a13 × a14 × a15 × a16 × a17 := wit (fun x => P x.1 x.2.1 x.2.2.1 x.2.2.2.1 x.2.2.2.2.1 x.2.2.2.2.2.1 x.2.2.2.2.2.2.1 x.2.2.2.2.2.2.2.1 x.2.2.2.2.2.2.2.2.1 x.2.2.2.2.2.2.2.2.2.1 x.2.2.2.2.2.2.2.2.2.2.1 x.2.2.2.2.2.2.2.2.2.2.2.1 x.2.2.2.2.2.2.2.2.2.2.2.2.1 x.2.2.2.2.2.2.2.2.2.2.2.2.2.1 x.2.2.2.2.2.2.2.2.2.2.2.2.2.2.1 x.2.2.2.2.2.2.2.2.2.2.2.2.2.2.2.1 x.2.2.2.2.2.2.2.2.2.2.2.2.2.2.2.2.1 x.2.2.2.2.2.2.2.2.2.2.2.2.2.2.2.2.2) ne
noncomputable def A18 (P : a0 → a1 → a2 → a3 → a4 → a5 → a6 → a7 → a8 → a9 → a10 → a11 → a12 → a13 → a14 → a15 → a16 → a17 → Prop) (c : a0 × a1 × a2 × a3 × a4 × a5 × a6 × a7 × a8 × a9 × a10 × a11 × a12 × a13 × a14 × a15 × a16 × a17) : Prop := P c.1 c.2.1 c.2.2.1 c.2.2.2.1 c.2.2.2.2.1 c.2.2.2.2.2.1 c.2.2.2.2.2.2.1 c.2.2.2.2.2.2.2.1 c.2.2.2.2.2.2.2.2.1 c.2.2.2.2.2.2.2.2.2.1 c.2.2.2.2.2.2.2.2.2.2.1 c.2.2.2.2.2.2.2.2.2.2.2.1 c.2.2.2.2.2.2.2.2.2.2.2.2.1 c.2.2.2.2.2.2.2.2.2.2.2.2.2.1 c.2.2.2.2.2.2.2.2.2.2.2.2.2.2.1 c.2.2.2.2.2.2.2.2.2.2.2.2.2.2.2.1 c.2.2.2.2.2.2.2.2.2.2.2.2.2.2.2.2.1 c.2.2.2.2.2.2.2.2.2.2.2.2.2.2.2.2.2
theorem H18 {P : a0 → a1 → a2 → a3 → a4 → a5 → a6 → a7 → a8 → a9 → a10 → a11 → a12 → a13 → a14 → a15 → a16 → a17 → Prop} {c ne} (e : c = W18 P ne) (h : A18 P c) (x0 x1 x2 x3 x4 x5 x6 x7 x8 x9 x10 x11 x12 x13 x14 x15 x16 x17 : _) : P x0 x1 x2 x3 x4 x5 x6 x7 x8 x9 x10 x11 x12 x13 x14 x15 x16 x17 := hk (P := A18 P) e h (x0, x1, x2, x3, x4, x5, x6, x7, x8, x9, x10, x11, x12, x13, x14, x15, x16, x17)
noncomputable def W24 (P : a0 → a1 → a2 → a3 → a4 → a5 → a6 → a7 → a8 → a9 → a10 → a11 → a12 → a13 → a14 → a15 → a16 → a17 → a18 → a19 → a20 → a21 → a22 → a23 → Prop) (ne : Nonempty (a0 × a1 × a2 × a3 × a4 × a5 × a6 × a7 × a8 × a9 × a10 × a11 × a12 × a13 × a14 × a15 × a16 × a17 × a18 × a19 × a20 × a21 × a22 × a23) := by k_extra "ne9") : a0 × a1 × a2 × a3 × a4 × a5 × a6 × a7 × a8 × a9 × a10 × a11 × a12 × a13 × a14 × a15 × a16 × a17 × a18 × a19 × a20 × a21 × a22 × a23 := wit (fun x => P x.1 x.2.1 x.2.2.1 x.2.2.2.1 x.2.2.2.2.1 x.2.2.2.2.2.1 x.2.2.2.2.2.2.1 x.2.2.2.2.2.2.2.1 x.2.2.2.2.2.2.2.2.1 x.2.2.2.2.2.2.2.2.2.1 x.2.2.2.2.2.2.2.2.2.2.1 x.2.2.2.2.2.2.2.2.2.2.2.1 x.2.2.2.2.2.2.2.2.2.2.2.2.1 x.2.2.2.2.2.2.2.2.2.2.2.2.2.1 x.2.2.2.2.2.2.2.2.2.2.2.2.2.2.1 x.2.2.2.2.2.2.2.2.2.2.2.2.2.2.2.1 x.2.2.2.2.2.2.2.2.2.2.2.2.2.2.2.2.1 x.2.2.2.2.2.2.2.2.2.2.2.2.2.2.2.2.2.1 x.2.2.2.2.2.2.2.2.2.2.2.2.2.2.2.2.2.2.1 x.2.2.2.2.2.2.2.2.2.2.2.2.2.2.2.2.2.2.2.1 x.2.2.2.2.2.2.2.2.2.2.2.2.2.2.2.2.2.2.2.2.1 x.2.2.2.2.2.2.2.2.2.2.2.2.2.2.2.2.2.2.2.2.2.1 x.2.2.2.2.2.2.2.2.2.2.2.2.2.2.2.2.2.2.2.2.2.2.1 x.2.2.2.2.2.2.2.2.2.2.2.2.2.2.2.2.2.2.2.2.2.2.2) ne
noncomputable def A24 (P : a0 → a1 → a2 → a3 → a4 → a5 → a6 → a7 → a8 → a9 → a10 → a11 → a12 → a13 → a14 → a15 → a16 → a17 → a18 → a19 → a20 → a21 → a22 → a23 → Prop) (c : a0 × a1 × a2 × a3 × a4 × a5 × a6 × a7 × a8 × a9 × a10 × a11 × a12 × a13 × a14 × a15 × a16 × a17 × a18 × a19 × a20 × a21 × a22 × a23) : Prop := P c.1 c.2.1 c.2.2.1 c.2.2.2.1 c.2.2.2.2.1 c.2.2.2.2.2.1 c.2.2.2.2.2.2.1 c.2.2.2.2.2.2.2.1 c.2.2.2.2.2.2.2.2.1 c.2.2.2.2.2.2.2.2.2.1 c.2.2.2.2.2.2.2.2.2.2.1 c.2.2.2.2.2.2.2.2.2.2.2.1 c.2.2.2.2.2.2.2.2.2.2.2.2.1 c.2.2.2.2.2.2.2.2.2.2.2.2.2.1 c.2.2.2.2.2.2.2.2.2.2.2.2.2.2.1 c.2.2.2.2.2.2.2.2.2.2.2.2.2.2.2.1 c.2.2.2.2.2.2.2.2.2.2.2.2.2.2.2.2.1 c.2.2.2.2.2.2.2.2.2.2.2.2.2.2.2.2.2.1 c.2.2.2.2.2.2.2.2.2.2.2.2.2.2.2.2.2.2.1 c.2.2.2.2.2.2.2.2.2.2.2.2.2.2.2.2.2.2.2.1 c.2.2.2.2.2.2.2.2.2.2.2.2.2.2.2.2.2.2.2.2.1 c.2.2.2.2.2.2.2.2.2.2.2.2.2.2.2.2.2.2.2.2.2.1 c.2.2.2.2.2.2.2.2.2.2.2.2.2.2.2.2.2.2.2.2.2.2.1 c.2.2.2.2.2.2.2.2.2.2.2.2.2.2.2.2.2.2.2.2.2.2.2
theorem H24 {P : a0 → a1 → a2 → a3 → a4 → a5 → a6 → a7 → a8 → a9 → a10 → a11 → a12 → a13 → a14 → a15 → a16 → a17 → a18 → a19 → a20 → a21 → a22 → a23 → Prop} {c ne} (e : c = W24 P ne) (h : A24 P c) (x0 x1 x2 x3 x4 x5 x6 x7 x8 x9 x10 x11 x12 x13 x14 x15 x16 x17 x18 x19 x20 x21 x22 x23 : _) : P x0 x1 x2 x3 x4 x5 x6 x7 x8 x9 x10 x11 x12 x13 x14 x15 x16 x17 x18 x19 x20 x21 x22 x23 := hk (P := A24 P) e h (x0, x1, x2, x3, x4, x5, x6, x7, x8, x9, x10, x11, x12, x13, x14, x15, x16, x17, x18, x19, x20, x21, x22, x23)
noncomputable def W30 (P : a0 → a1 → a2 → a3 → a4 → a5 → a6 → a7 → a8 → a9 → a10 → a11 → a12 → a13 → a14 → a15 → a16 → a17 → a18 → a19 → a20 → a21 → a22 → a23 → a24 → a25 → a26 → a27 → a28 → a29 → Prop) (ne : Nonempty (a0 × a1 × a2 × a3 × a4 × a5 × a6 × a7 × a8 × a9 × a10 × a11 × a12 × a13 × a14 × a15 × a16 × a17 × a18 × a19 × a20 × a21 × a22 × a23 × a24 × a25 × a26 × a27 × a28 × a29) := by k_extra "ne9") : a0 × a1 × a2 × a3 × a4 × a5 × a6 × a7 × a8 × a9 × a10 × a11 × a12 × a13 × a14 × a15 × a16 × a17 × a18 × a19 × a20 × a21 × a22 × a23 × a24 × a25 × a26 × a27 × a28 × a29 := wit (fun x => P x.1 x.2.1 x.2.2.1 x.2.2.2.1 x.2.2.2.2.1 x.2.2.2.2.2.1 x.2.2.2.2.2.2.1 x.2.2.2.2.2.2.2.1 x.2.2.2.2.2.2.2.2.1 x.2.2.2.2.2.2.2.2.2.1 x.2.2.2.2.2.2.2.2.2.2.1 x.2.2.2.2.2.2.2.2.2.2.2.1 x.2.2.2.2.2.2.2.2.2.2.2.2.1 x.2.2.2.2.2.2.2.2.2.2.2.2.2.1 x.2.2.2.2.2.2.2.2.2.2.2.2.2.2.1 x.2.2.2.2.2.2.2.2.2.2.2.2.2.2.2.1 x.2.2.2.2.2.2.2.2.2.2.2.2.2.2.2.2.1 x.2.2.2.2.2.2.2.2.2.2.2.2.2.2.2.2.2.1 x.2.2.2.2.2.2.2.2.2.2.2.2.2.2.2.2.2.2.1 x.2.2.2.2.2.2.2.2.2.2.2.2.2.2.2.2.2.2.2.1 x.2.2.2.2.2.2.2.2.2.2.2.2.2.2.2.2.2.2.2.2.1 x.2.2.2.2.2.2.2.2.2.2.2.2.2.2.2.2.2.2.2.2.2.1 x.2.2.2.2.2.2.2.2.2.2.2.2.2.2.2.2.2.2.2.2.2.2.1 x.2.2.2.2.2.2.2.2.2.2.2.2.2.2.2.2.2.2.2.2.2.2.2.1 x.2.2.2.2.2.2.2.2.2.2.2.2.2.2.2.2.2.2.2.2.2.2.2.2.1 x.2.2.2.2.2.2.2.2.2.2.2.2.2.2.2.2.2.2.2.2.2.2.2.2.2.1 x.2.2.2.2.2.2.2.2.2.2.2.2.2.2.2.2.2.2.2.2.2.2.2.2.2.2.1 x.2.2.2.2.2.2.2.2.2.2.2.2.2.2.2.2.2.2.2.2.2.2.2.2.2.2.2.1 x.2.2.2.2.2.2.2.2.2.2.2.2.2.2.2.2.2.2.2.2.2.2.2.2.2.2.2.2.1 x.2.2.2.2.2.2.2.2.2.2.2.2.2.2.2.2.2.2.2.2.2.2.2.2.2.2.2.2.2) ne
noncomputable def A30 (P : a0 → a1 → a2 → a3 → a4 → a5 → a6 → a7 → a8 → a9 → a10 → a11 → a12 → a13 → a14 → a15 → a16 → a17 → a18 → a19 → a20 → a21 → a22 → a23 → a24 → a25 → a26 → a27 → a28 → a29 → Prop) (c : a0 × a1 × a2 × a3 × a4 × a5 × a6 × a7 × a8 × a9 × a10 × a11 × a12 × a13 × a14 × a15 × a16 × a17 × a18 × a19 × a20 × a21 × a22 × a23 × a24 × a25 × a26 × a27 × a28 × a29) : Prop := P c.1 c.2.1 c.2.2.1 c.2.2.2.1 c.2.2.2.2.1 c.2.2.2.2.2.1 c.2.2.2.2.2.2.1 c.2.2.2.2.2.2.2.1 c.2.2.2.2.2.2.2.2.1 c.2.2.2.2.2.2.2.2.2.1 c.2.2.2.2.2.2.2.2.2.2.1 c.2.2.2.2.2.2.2.2.2.2.2.1 c.2.2.2.2.2.2.2.2.2.2.2.2.1 c.2.2.2.2.2.2.2.2.2.2.2.2.2.1 c.2.2.2.2.2.2.2.2.2.2.2.2.2.2.1 c.2.2.2.2.2.2.2.2.2.2.2.2.2.2.2.1 c.2.2.2.2.2.2.2.2.2.2.2.2.2.2.2.2.1 c.2.2.2.2.2.2.2.2.2.2.2.2.2.2.2.2.2.1 c.2.2.2.2.2.2.2.2.2.2.2.2.2.2.2.2.2.2.1 c.2.2.2.2.2.2.2.2.2.2.2.2.2.2.2.2.2.2.2.1 c.2.2.2.2.2.2.2.2.2.2.2.2.2.2.2.2.2.2.2.2.1 c.2.2.2.2.2.2.2.2.2.2.2.2.2.2.2.2.2.2.2.2.2.1 c.2.2.2.2.2.2.2.2.2.2.2.2.2.2.2.2.2.2.2.2.2.2.1 c.2.2.2.2.2.2.2.2.2.2.2.2.2.2.2.2.2.2.2.2.2.2.2.1 c.2.2.2.2.2.2.2.2.2.2.2.2.2.2.2.2.2.2.2.2.2.2.2.2.1 c.2.2.2.2.2.2.2.2.2.2.2.2.2.2.2.2.2.2.2.2.2.2.2.2.2.1 c.2.2.2.2.2.2.2.2.2.2.2.2.2.2.2.2.2.2.2.2.2.2.2.2.2.2.1 c.2.2.2.2.2.2.2.2.2.2.2.2.2.2.2.2.2.2.2.2.2.2.2.2.2.2.2.1 c.2.2.2.2.2.2.2.2.2.2.2.2.2.2.2.2.2.2.2.2.2.2.2.2.2.2.2.2.1 c.2.2.2.2.2.2.2.2.2.2.2.2.2.2.2.2.2.2.2.2.2.2.2.2.2.2.2.2.2
theorem H30 {P : a0 → a1 → a2 → a3 → a4 → a5 → a6 → a7 → a8 → a9 → a10 → a11 → a12 → a13 → a14 → a15 → a16 → a17 → a18 → a19 → a20 → a21 → a22 → a23 → a24 → a25 → a26 → a27 → a28 → a29 → Prop} {c ne} (e : c = W30 P ne) (h : A30 P c) (x0 x1 x2 x3 x4 x5 x6 x7 x8 x9 x10 x11 x12 x13 x14 x15 x16 x17 x18 x19 x20 x21 x22 x23 x24 x25 x26 x27 x28 x29 : _) : P x0 x1 x2 x3 x4 x5 x6 x7 x8 x9 x10 x11 x12 x13 x14 x15 x16 x17 x18 x19 x20 x21 x22 x23 x24 x25 x26 x27 x28 x29 := hk (P := A30 P) e h (x0, x1, x2, x3, x4, x5, x6, x7, x8, x9, x10, x11, x12, x13, x14, x15, x16, x17, x18, x19, x20, x21, x22, x23, x24, x25, x26, x27, x28, x29)
noncomputable def jw9 {C : Prop} {P : a0 → a1 → a2 → a3 → a4 → a5 → a6 → a7 → a8 → a9 → a10 → Prop} (_f : (∀ x0 x1 x2 x3 x4 x5 x6 x7 x8 x9 x10, P x0 x1 x2 x3 x4 x5 x6 x7 x8 x9 x10) → C) (ne : Nonempty (a0 × a1 × a2 × a3 × a4 × a5 × a6 × a7 × a8 × a9 × a10) := by k_extra "ne9") : a0 × a1 × a2 × a3 × a4 × a5 × a6 × a7 × a8 × a9 × a10 := W11 P ne
noncomputable def hF9 {C : Prop} {P : a0 → a1 → a2 → a3 → a4 → a5 → a6 → a7 → a8 → a9 → a10 → a11 → Prop} (_f : (∀ x0 x1 x2 x3 x4 x5 x6 x7 x8 x9 x10 x11, P x0 x1 x2 x3 x4 x5 x6 x7 x8 x9 x10 x11) → C) (ne : Nonempty (a0 × a1 × a2 × a3 × a4 × a5 × a6 × a7 × a8 × a9 × a10 × a11) := by k_extra "ne9") : a0 × a1 × a2 × a3 × a4 × a5 × a6 × a7 × a8 × a9 × a10 × a11 := W12 P ne
noncomputable def jv9 {C : Prop} {P : a0 → a1 → a2 → a3 → a4 → a5 → a6 → a7 → a8 → a9 → a10 → a11 → a12 → a13 → Prop} (_f : (∀ x0 x1 x2 x3 x4 x5 x6 x7 x8 x9 x10 x11 x12 x13, P x0 x1 x2 x3 x4 x5 x6 x7 x8 x9 x10 x11 x12 x13) → C) (ne : Nonempty (a0 × a1 × a2 × a3 × a4 × a5 × a6 × a7 × a8 × a9 × a10 × a11 × a12 × a13) := by k_extra "ne9") : a0 × a1 × a2 × a3 × a4 × a5 × a6 × a7 × a8 × a9 × a10 × a11 × a12 × a13 := W14 P ne
noncomputable def dh9 {H C : Bool → Bool → Prop} {R : Bool → Bool → a0 → a1 → a2 → a3 → a4 → a5 → a6 → a7 → a8 → a9 → a10 → a11 → Prop} (_f : ∀ sa sb, H sa sb → (∀ x0 x1 x2 x3 x4 x5 x6 x7 x8 x9 x10 x11, R sa sb x0 x1 x2 x3 x4 x5 x6 x7 x8 x9 x10 x11) → C sa sb) (ne : Nonempty (a0 × a1 × a2 × a3 × a4 × a5 × a6 × a7 × a8 × a9 × a10 × a11) := by k_extra "ne9") : a0 × a1 × a2 × a3 × a4 × a5 × a6 × a7 × a8 × a9 × a10 × a11 := W12 (fun x0 x1 x2 x3 x4 x5 x6 x7 x8 x9 x10 x11 => ∀ sa sb, H sa sb → R sa sb x0 x1 x2 x3 x4 x5 x6 x7 x8 x9 x10 x11) ne
theorem HB12 {H C : Bool → Bool → Prop} {R : Bool → Bool → a0 → a1 → a2 → a3 → a4 → a5 → a6 → a7 → a8 → a9 → a10 → a11 → Prop} {f c ne} (e : c = dh9 (H := H) (C := C) (R := R) f ne) (h : ∀ sa sb, H sa sb → R sa sb c.1 c.2.1 c.2.2.1 c.2.2.2.1 c.2.2.2.2.1 c.2.2.2.2.2.1 c.2.2.2.2.2.2.1 c.2.2.2.2.2.2.2.1 c.2.2.2.2.2.2.2.2.1 c.2.2.2.2.2.2.2.2.2.1 c.2.2.2.2.2.2.2.2.2.2.1 c.2.2.2.2.2.2.2.2.2.2.2) : ∀ sa sb, H sa sb → C sa sb := fun sa sb hs => f sa sb hs fun x0 x1 x2 x3 x4 x5 x6 x7 x8 x9 x10 x11 => H12 (P := fun x0 x1 x2 x3 x4 x5 x6 x7 x8 x9 x10 x11 => ∀ sa sb, H sa sb → R sa sb x0 x1 x2 x3 x4 x5 x6 x7 x8 x9 x10 x11) e h x0 x1 x2 x3 x4 x5 x6 x7 x8 x9 x10 x11 sa sb hs
noncomputable def dg9 {H C : Bool → Bool → Prop} {R : Bool → Bool → a0 → a1 → a2 → a3 → a4 → a5 → a6 → a7 → a8 → a9 → a10 → a11 → a12 → a13 → Prop} (_f : ∀ sa sb, H sa sb → (∀ x0 x1 x2 x3 x4 x5 x6 x7 x8 x9 x10 x11 x12 x13, R sa sb x0 x1 x2 x3 x4 x5 x6 x7 x8 x9 x10 x11 x12 x13) → C sa sb) (ne : Nonempty (a0 × a1 × a2 × a3 × a4 × a5 × a6 × a7 × a8 × a9 × a10 × a11 × a12 × a13) := by k_extra "ne9") : a0 × a1 × a2 × a3 × a4 × a5 × a6 × a7 × a8 × a9 × a10 × a11 × a12 × a13 := W14 (fun x0 x1 x2 x3 x4 x5 x6 x7 x8 x9 x10 x11 x12 x13 => ∀ sa sb, H sa sb → R sa sb x0 x1 x2 x3 x4 x5 x6 x7 x8 x9 x10 x11 x12 x13) ne
theorem HB14 {H C : Bool → Bool → Prop} {R : Bool → Bool → a0 → a1 → a2 → a3 → a4 → a5 → a6 → a7 → a8 → a9 → a10 → a11 → a12 → a13 → Prop} {f c ne} (e : c = dg9 (H := H) (C := C) (R := R) f ne) (h : ∀ sa sb, H sa sb → R sa sb c.1 c.2.1 c.2.2.1 c.2.2.2.1 c.2.2.2.2.1 c.2.2.2.2.2.1 c.2.2.2.2.2.2.1 c.2.2.2.2.2.2.2.1 c.2.2.2.2.2.2.2.2.1 c.2.2.2.2.2.2.2.2.2.1 c.2.2.2.2.2.2.2.2.2.2.1 c.2.2.2.2.2.2.2.2.2.2.2.1 c.2.2.2.2.2.2.2.2.2.2.2.2.1 c.2.2.2.2.2.2.2.2.2.2.2.2.2) : ∀ sa sb, H sa sb → C sa sb := fun sa sb hs => f sa sb hs fun x0 x1 x2 x3 x4 x5 x6 x7 x8 x9 x10 x11 x12 x13 => H14 (P := fun x0 x1 x2 x3 x4 x5 x6 x7 x8 x9 x10 x11 x12 x13 => ∀ sa sb, H sa sb → R sa sb x0 x1 x2 x3 x4 x5 x6 x7 x8 x9 x10 x11 x12 x13) e h x0 x1 x2 x3 x4 x5 x6 x7 x8 x9 x10 x11 x12 x13 sa sb hs
end
end
section
noncomputable def theDef (o : Obj) (k : Nat) : Stmt := match o.data with
  | .func f => match f.body with
    | .stmts b => (b[k]?).getD default
    | _ => default
  | _ => default
theorem dV9 {n n' : Str} {p p' : Arguments} {b b' : List Stmt} {d d' : List PySem.Expr} {r r' : Option PySem.Expr} {t t' : List TypeParam} {c c' : Scope} {u u' : Option Scope} {x x' : Str} {z z' : Pos} {G : Prop}
    (h : Stmt.FunctionDef n p b d r t c u x z = Stmt.FunctionDef n' p' b' d' r' t' c' u' x' z') (k : n = n' → p = p' → b = b' → c = c' → G) : G := by
  injection h with h1 h2 h3 h4 h5 h6 h7
  exact k h1 h2 h3 h7
theorem genT {α : Type} {M : Model} {A : Around} {x : Sem α} {Q : α → Shared → Prop} {E : Value → Shared → Prop} {h9 : Heap} {g9 : Array GenState} {d9 : Drawn} {t9 : Nat} {o9 : OsState} (h : ∀ t, wpAny M A x Q E ⟨h9, g9, d9, t, o9⟩) : wpAny M A x Q E ⟨h9, g9, d9, t9, o9⟩ := h t9
theorem gen1 {α : Type} {motive : α → Prop} (h : ∀ x, motive x) (v : α) : motive v := h v
section
variable {M : Model} {A : Around} {E : Value → Shared → Prop} {h₀ : Heap} {L a : Addr} {cn : Str} {cs : Scope} {ccd : Value} {cl : List (Str × Addr)} {m : Str → Option Value} {s : Shared} {x : Str} {pos : Pos} {v : Value}
theorem nmF {Q : Value → Shared → Prop} (F : Fr h₀ L s.heap m) (hv : some v = m x) (hk : cs.kind = .function) (hx : some .local = cs.names.lookup x) (hd : (x == ("__debug__" : Str)) = false) (h : Q v s) :
    wpAny M A (eval (.Name x pos) (envX cn cs L a ccd cl)) Q E s := nameX_L F hv.symm h hk hx.symm hd
theorem nmC {news : List (Addr × Obj)} {c : Addr} {o : Obj} {Q : Value → Shared → Prop} (N : News h₀ L s.heap news) (hc : some c = cl.lookup x) (hm : (c, o) ∈ news) (hd : o.data = .cell (some v)) (hk : cs.kind = .function) (hx : some .cell = cs.names.lookup x) (hb : (x == ("__debug__" : Str)) = false) (h : Q v s) :
    wpAny M A (eval (.Name x pos) (envX cn cs L a ccd cl)) Q E s := nameX_C N hc.symm hm hd h hk hx.symm hb
theorem nmK {K : Frag} {p : Program} {loose : List Str} {mg mb : Str → Option Value} {Q : Value → Shared → Prop} (F : Fr h₀ L s.heap m) (X : K.In h₀) (T : TopRead p loose mg mb h₀) (e : nsIn K mainGlobals x = some (some v)) (hk : cs.kind = .function) (hx : some .globalImplicit = cs.names.lookup x) (hb : (x == ("__debug__" : Str)) = false) (h : Q v s) :
    wpAny M A (eval (.Name x pos) (envX cn cs L a ccd cl)) Q E s := nameX_K F X T e h hk hx.symm hb
theorem nmB {K : Frag} {p : Program} {loose : List Str} {mg mb : Str → Option Value} {Q : Value → Shared → Prop} (F : Fr h₀ L s.heap m) (X : K.In h₀) (T : TopRead p loose mg mb h₀) (e : nsIn K mainGlobals x = some none) (hv : bootBuiltins x = some v) (hn : x ≠ "__name__") (hk : cs.kind = .function) (hx : some .globalImplicit = cs.names.lookup x) (hb : (x == ("__debug__" : Str)) = false) (h : Q v s) :
    wpAny M A (eval (.Name x pos) (envX cn cs L a ccd cl)) Q E s := nameX_B F X T e hv hn h hk hx.symm hb
end
section
variable {M : Model} {A : Around} {E : Value → Shared → Prop} {h₀ : Heap} {L a : Addr} {cn : Str} {cs : Scope} {ccd : Value} {cl : List (Str × Addr)} {m : Str → Option Value} {news : List (Addr × Obj)} {x : Str} {v : Value} {h9 : Heap} {g9 : Array GenState} {d9 : Drawn} {t9 : Nat} {o9 : OsState}
theorem stF {Q : Unit → Shared → Prop} (F : Fr h₀ L h9 m) (N : News h₀ L h9 news) (hk : cs.kind = .function) (hx : some .local = cs.names.lookup x)
    (h : ∀ h', Fr h₀ L h' (fun y => if y = x then some v else m y) → News h₀ L h' news → Q () ⟨h', g9, d9, t9 + 1, o9⟩) : wpAny M A (storeName (envX cn cs L a ccd cl) x v) Q E ⟨h9, g9, d9, t9, o9⟩ :=
  storeX_L (s := ⟨h9, g9, d9, t9, o9⟩) F N h hk hx.symm
theorem stG {Q : Unit → Shared → Prop} (m' : Str → Option Value) (hm : m' = fun y => if y = x then some v else m y) (F : Fr h₀ L h9 m) (N : News h₀ L h9 news) (hk : cs.kind = .function) (hx : some .local = cs.names.lookup x)
    (h : ∀ h', Fr h₀ L h' m' → News h₀ L h' news → Q () ⟨h', g9, d9, t9 + 1, o9⟩) : wpAny M A (storeName (envX cn cs L a ccd cl) x v) Q E ⟨h9, g9, d9, t9, o9⟩ := by
  subst hm; exact stF F N hk hx h
theorem cI {i : Int} {k : Nat} {pos : Pos} {env : Env} {Q : Value → Shared → Prop} (h : Q (.int i t9) ⟨h9, g9, d9, t9 + 1, o9⟩) : wpAny M A (eval (.Constant (.int i) k pos) env) Q E ⟨h9, g9, d9, t9, o9⟩ := wpAny_Constant_int h
theorem cS {y : Str} {k : Nat} {pos : Pos} {env : Env} {Q : Value → Shared → Prop} (h : Q (.str y t9) ⟨h9, g9, d9, t9 + 1, o9⟩) : wpAny M A (eval (.Constant (.str y) k pos) env) Q E ⟨h9, g9, d9, t9, o9⟩ := Constant_str h
variable {prog : Program} {w : World} {b c : Int} {t u : Tok} {Q : Value → Shared → Prop}
theorem addF (h : Q (.int (b + c) t9) ⟨h9, g9, d9, t9 + 1, o9⟩) : wpAny (model prog w) A (binaryOp .Add (.int b t) (.int c u)) Q E ⟨h9, g9, d9, t9, o9⟩ := add_int h
theorem subF (h : Q (.int (b - c) t9) ⟨h9, g9, d9, t9 + 1, o9⟩) : wpAny (model prog w) A (binaryOp .Sub (.int b t) (.int c u)) Q E ⟨h9, g9, d9, t9, o9⟩ := sub_int h
end
theorem cwB1 {M : Model} {A : Around} {E : Value → Shared → Prop} {s : Shared} {id : String} {e : PySem.Expr} {env : Env} {pos : Pos} {Q : Value → Shared → Prop} (h : wpAny M A (eval e env) (fun v s₁ => wpAny M A (call (.builtin id) [v]) Q E s₁) E s) (he : starEach [e] env = [(false, eval e env)]) : wpAny M A (callWith pos (.builtin id) [] (backTo pos (starEach [e] env)) []) Q E s := by
  rw [he]; exact callWith_builtin1 h
end
section
noncomputable def zC9 (P : Prop) : Prop := P
theorem zK9 {P : Prop} (h : zC9 P) : P := h
section
variable {prog : Program} {w : World} {A : Around} {E : Value → Shared → Prop} {s : Shared} {env : Env} {h₀ : Heap} {x : Str} {body : List Stmt} {Q : Flow → Shared → Prop}
noncomputable def wH9 (h₀ : Heap) (L : Addr) (J : (Str → Option Value) → List (Addr × Obj) → Prop) (I : Addr) (oI : Obj) (s₁ s₂ : Shared) : Prop :=
  ∃ h' tk m' nx, s₂ = { s₁ with heap := h', toks := tk } ∧ Fr h₀ L h' m' ∧ News h₀ L h' (nx ++ [(I, oI)]) ∧ (∀ p ∈ nx, p.1 ≠ I) ∧ J m' nx
noncomputable def yf9 (h₀ : Heap) (L : Addr) (J : (Str → Option Value) → List (Addr × Obj) → Prop) (I : Addr) (oI : Obj) (s₁ : Shared) (Q : Flow → Shared → Prop) (f : Flow) (s₂ : Shared) : Prop :=
  match f with
  | .ret v => Q (.ret v) s₂
  | .brk => Q .next s₂
  | _ => wH9 h₀ L J I oI s₁ s₂
theorem tP9 {I : Addr} {fp : List Addr} {n : Nat} {P : Nat → Value → Prop} {St : Nat → Heap → Prop} {m₀ : Str → Option Value} {news : List (Addr × Obj)} (J : Nat → (Str → Option Value) → List (Addr × Obj) → Prop)
    (W : Walks prog w A I fp [I] n P St) (hLf : env.locals ∉ fp) (hI : h₀.get? I = none) (hIo : ∀ i h, St i h → ∃ o, h.get? I = some o) (hfp : ∀ q ∈ news, q.1 ≠ I)
    (hfx : ∀ b ∈ fp, b ≠ I → (∃ o, h₀.get? b = some o) ∨ ∃ o, ∀ i m nx, J i m nx → (b, o) ∈ nx)
    (hst : St 0 s.heap) (F : Fr h₀ env.locals s.heap m₀) (N : News h₀ env.locals s.heap news) (hj : J 0 m₀ news)
    (turn : ∀ i v m₁ nx h tk oI, i < n → P i v → (∀ p ∈ nx, p.1 ≠ I) → J i m₁ nx → Fr h₀ env.locals h (fun y => if y = x then some v else m₁ y) → News h₀ env.locals h (nx ++ [(I, oI)]) →
      wpAny (model prog w) A (execs body env) (yf9 h₀ env.locals (J (i + 1)) I oI { s with heap := h, toks := tk } Q) E { s with heap := h, toks := tk })
    (done : ∀ m₁ nx h tk, J n m₁ nx → Fr h₀ env.locals h m₁ → News h₀ env.locals h nx → Q .next { s with heap := h, toks := tk }) :
    LoopAtV prog w A h₀ env x body Q E (.ref I) s := by
  have hIf : I ∈ fp := W.sub I (List.mem_singleton.mpr rfl)
  refine ix9 I fp ([I]) n P St m₀ news J (⟨rfl, W, hLf, fun b hb => by rw [List.mem_singleton.mp hb]; exact hI, fun q hq h => hfp q hq (List.mem_singleton.mp h), hst, F, N, hj, ?_, ?_⟩)
  · rintro i v m₁ news₁ s₁ own hJ9 hin hP hJ hoff hown hownh hall hst₁ F₁ N₁
    refine zh9 fun G9 hG9 => ?_
    refine ex2 hJ9 fun hh' tk' e9_0 => ?_
    clear hJ9
    subst e9_0
    refine hG9 ?_
    clear hG9 G9
    obtain ⟨oI, hoI⟩ := hIo _ _ hst₁
    have hmI : (I, oI) ∈ own := hall I hIf hI oI hoI
    have N₂ : News h₀ env.locals hh' (news₁ ++ [(I, oI)]) := fun p hp => N₁ p ((List.mem_append.mp hp).elim (fun h => List.mem_append.mpr (.inr h)) fun h => List.mem_append.mpr (.inl (List.mem_singleton.mp h ▸ hmI)))
    refine wpAny_mono (turn i v m₁ news₁ hh' tk' oI hin hP (fun q hq e => hoff q hq (List.mem_singleton.mpr e)) hJ F₁ N₂) (fun f s₂ p => ?_) fun _ _ e => e
    have fin : wH9 h₀ env.locals (J (i + 1)) I oI { s with heap := hh', toks := tk' } s₂ → LoopStepU h₀ env.locals [I] own (J (i + 1)) { s with heap := hh', toks := tk' } .next s₂ := by
      rintro hJ9
      refine zh9 fun G9 hG9 => ?_
      refine ex4 hJ9 fun h' tk m' nx hJ9 => ?_
      refine an4 hJ9 fun e F' N' hn hm => ?_
      iterate 2 clear hJ9
      refine hG9 ?_
      clear hG9 G9
      refine ⟨rfl, ix4 h' tk m' nx (⟨e, F', fun p hp => ?_, fun q hq e => hn q hq (List.mem_singleton.mp e), hm⟩)⟩
      rcases List.mem_append.mp hp with hp | hp
      · have z := N₁ p (List.mem_append_left _ hp)
        by_cases hpI : p.1 = I
        · have e2 : p.2 = oI := by have := hownh p hp; rw [hpI] at this; exact Option.some.inj (this.symm.trans hoI)
          have y := N' (I, oI) (List.mem_append_right _ (List.mem_singleton.mpr rfl))
          rw [hpI, e2]; exact y
        · rcases hfx p.1 (hown p hp) hpI with ⟨o, ho⟩ | ⟨o, ho⟩
          · have := z.2.2; rw [ho] at this; cases this
          · have m1 := N₁ _ (List.mem_append_right _ (ho i m₁ news₁ hJ))
            have e2 : p.2 = o := Option.some.inj (z.1.symm.trans m1.1)
            have y := N' _ (List.mem_append_left _ (ho (i + 1) m' nx hm))
            rw [e2]; exact y
      · exact N' p (List.mem_append_left _ hp)
    cases f with
    | ret v => exact .ret p
    | brk => exact .brk p
    | next => exact .next (fin p)
    | cont => exact .cont (fin p)
  · rintro h' tk m' news' F' N' _ hJ
    exact done m' news' h' tk hJ F' N'
theorem xP9 {r : Addr} {a₀ b₀ : Int} {t₀ u₀ v₀ : Tok} {n : Nat} {m₀ : Str → Option Value} {news : List (Addr × Obj)} (J : Nat → (Str → Option Value) → List (Addr × Obj) → Prop)
    (hh : A.handled = none) (hr : IsRange s.heap r a₀ b₀ 1 t₀ u₀ v₀) (hsmall : Builtin.Range.small a₀ b₀ 1 = true) (hn : Builtin.Range.rangeSize a₀ b₀ 1 = (n : Int)) (F : Fr h₀ env.locals s.heap m₀) (N : News h₀ env.locals s.heap news) (hj : J 0 m₀ news)
    (turn : ∀ i t m₁ nx I oI h tk, i < n → (∀ p ∈ nx, p.1 ≠ I) → J i m₁ nx → Fr h₀ env.locals h (fun y => if y = x then some (.int (a₀ + (i : Nat)) t) else m₁ y) → News h₀ env.locals h (nx ++ [(I, oI)]) →
      wpAny (model prog w) A (execs body env) (yf9 h₀ env.locals (J (i + 1)) I oI { s with heap := h, toks := tk } Q) E { s with heap := h, toks := tk })
    (done : ∀ m₁ nx h tk, J n m₁ nx → Fr h₀ env.locals h m₁ → News h₀ env.locals h nx → Q .next { s with heap := h, toks := tk }) :
    wpAny (model prog w) A (pyIter (.ref r)) (fun it s₂ => LoopAtV prog w A h₀ env x body Q E it s₂) E s := by
  refine wpAny_pyIter_range hr hsmall ?_
  have W : Walks prog w A s.heap.objs.size [s.heap.objs.size] [s.heap.objs.size] n (fun i v => i < n ∧ ∃ t, v = .int (a₀ + i * 1) t)
      (fun i h => IsRangeIter h s.heap.objs.size (a₀ + (i : Nat) * 1) ((n : Int) - (i : Nat)) 1) := (Walks.range hh _ a₀ 1 n).bound
  refine tP9 J W ?_ (next_is_new F) (fun i h st => ⟨_, st⟩) ?_ (fun b hb hne => absurd (List.mem_singleton.mp hb) hne) (by show IsRangeIter _ _ _ _ _; rw [hn]; simpa using Heap.get?_push_size _ rfl) (F.push _) (fun p hp => ⟨Heap.get?_push_of_some _ (N p hp).1, (N p hp).2⟩) hj ?_ done
  · intro hm
    exact absurd F.ns.lt ((List.mem_singleton.mp hm) ▸ Nat.lt_irrefl _)
  · intro p hp e
    exact absurd (Heap.lt_size (N p hp).1) (e ▸ Nat.lt_irrefl _)
  · rintro i v m₁ nx h tk oI hin hJ9 hne hJ F₁ N₁
    refine zh9 fun G9 hG9 => ?_
    refine an1 hJ9 fun _ hJ9 => ?_
    refine ex1 hJ9 fun t e9_0 => ?_
    iterate 2 clear hJ9
    subst e9_0
    refine hG9 ?_
    clear hG9 G9
    rw [Int.mul_one] at F₁
    exact turn i t m₁ nx _ oI h tk hin hne hJ F₁ N₁
end
section
variable {m : Str → Option Value} {x1 x2 x3 x4 x5 x6 : Str} {v1 v2 v3 v4 v5 v6 : Value}
theorem hB9 (h1 : m x1 = some v1) : m = fun y => if y = x1 then some v1 else m y := by
  funext y; split <;> simp_all
theorem wG9 (h1 : m x1 = some v1) (h2 : m x2 = some v2) : m = fun y => if y = x1 then some v1 else if y = x2 then some v2 else m y := by
  funext y; (repeat' split) <;> simp_all
theorem zz9 (h1 : m x1 = some v1) (h2 : m x2 = some v2) (h3 : m x3 = some v3) : m = fun y => if y = x1 then some v1 else if y = x2 then some v2 else if y = x3 then some v3 else m y := by
  funext y; (repeat' split) <;> simp_all
theorem zq9 (h1 : m x1 = some v1) (h2 : m x2 = some v2) (h3 : m x3 = some v3) (h4 : m x4 = some v4) : m = fun y => if y = x1 then some v1 else if y = x2 then some v2 else if y = x3 then some v3 else if y = x4 then some v4 else m y := by
  funext y; (repeat' split) <;> simp_all
theorem nN9 (h1 : m x1 = some v1) (h2 : m x2 = some v2) (h3 : m x3 = some v3) (h4 : m x4 = some v4) (h5 : m x5 = some v5) : m = fun y => if y = x1 then some v1 else if y = x2 then some v2 else if y = x3 then some v3 else if y = x4 then some v4 else if y = x5 then some v5 else m y := by
  funext y; (repeat' split) <;> simp_all
theorem nM9 (h1 : m x1 = some v1) (h2 : m x2 = some v2) (h3 : m x3 = some v3) (h4 : m x4 = some v4) (h5 : m x5 = some v5) (h6 : m x6 = some v6) : m = fun y => if y = x1 then some v1 else if y = x2 then some v2 else if y = x3 then some v3 else if y = x4 then some v4 else if y = x5 then some v5 else if y = x6 then some v6 else m y := by
  funext y; (repeat' split) <;> simp_all
end
end
section
open Builtin Builtin.Str Builtin.Int in
theorem bj9 (b : Bool) (t : Tok) : Gives («str.__getitem__» ⟨[.str ⟨#[97, 98]⟩ t, .bool b], []⟩) (.str ⟨#[if b then 98 else 97]⟩) := by
  cases b
  · show Gives (retStr ⟨#[97]⟩) _
    exact .of_eq rfl
  · show Gives (retStr ⟨#[98]⟩) _
    exact .of_eq rfl
theorem bW9 {prog : Program} {w : World} {A : Around} {E : Value → Shared → Prop} {s : Shared} {value slice : PySem.Expr} {t : Tok} {b : Bool} {Q : Value → Shared → Prop}
    (h : Q (.str ⟨#[if b then 98 else 97]⟩ s.toks) { s with toks := s.toks + 1 })
    (hs : subscripted slice false (.str (Str.ofString "ab") t) (.bool b) = operate [.str (Str.ofString "ab") t, .bool b] (getItem (.str (Str.ofString "ab") t) (.bool b)) := by with_unfolding_all rfl) :
    wpAny (model prog w) A (subscriptTail value slice (.str (Str.ofString "ab") t) (.bool b)) Q E s :=
  tail_any (typeIs_str s _ t) F.slot_str_getitem.lookup
    (getItem_gives (typeIs_str s _ t) (by decide) F.slot_str_getitem F.entry_str_getitem (F.args_str_getitem_2 _ _) (bj9 b t) ⟨(by show 1 ≤ sizeLine; decide), h⟩) hs
theorem vV9 {hh9 : Heap} {gg9 : Array GenState} {dd9 : Drawn} {tt9 : Nat} {oo9 : OsState} {prog : Program} {w : World} {A : Around} {E : Value → Shared → Prop}  {value slice : PySem.Expr} {t : Tok} {b : Bool} {Q : Value → Shared → Prop}
    (h : Q (.str ⟨#[if b then 98 else 97]⟩ tt9) ⟨hh9, gg9, dd9, tt9 + 1, oo9⟩)
    (hs : subscripted slice false (.str (Str.ofString "ab") t) (.bool b) = operate [.str (Str.ofString "ab") t, .bool b] (getItem (.str (Str.ofString "ab") t) (.bool b)) := by with_unfolding_all rfl) :
    wpAny (model prog w) A (subscriptTail value slice (.str (Str.ofString "ab") t) (.bool b)) Q E ⟨hh9, gg9, dd9, tt9, oo9⟩ := bW9 (s := ⟨hh9, gg9, dd9, tt9, oo9⟩) h hs
section
variable {prog : Program} {w : World} {A : Around} {E : Value → Shared → Prop} {s : Shared} {x y : Str} {t u : Tok} {Q : Value → Shared → Prop}
theorem jt9 (hz : x.length + y.length ≤ sizeLine) (h : ∀ t' tk', Q (.str (x ++ y) t') { s with toks := tk' }) : wpAny (model prog w) A (binaryOp .Add (.str x t) (.str y u)) Q E s := by
  refine P.add_str ?_
  split
  · rename_i hx
    have hx : x = Str.empty := by
      cases x with | mk cps => have : cps.size = 0 := by simpa [Str.length] using hx
                               have : cps = #[] := Array.eq_empty_of_size_eq_zero this
                               subst this; rfl
    subst hx
    have := h u s.toks
    rw [Str.empty_append] at this
    exact this
  · split
    · rename_i hy
      have hy : y = Str.empty := by
        cases y with | mk cps => have : cps.size = 0 := by simpa [Str.length] using hy
                                 have : cps = #[] := Array.eq_empty_of_size_eq_zero this
                                 subst this; rfl
      subst hy
      have := h t s.toks
      rw [Str.append_empty] at this
      exact this
    · exact ⟨by show (x ++ y).length ≤ _; rw [Str.length_append]; exact hz, h _ _⟩
theorem addS {hh9 : Heap} {gg9 : Array GenState} {dd9 : Drawn} {tt9 : Nat} {oo9 : OsState} (hz : x.length + y.length ≤ sizeLine) (h : ∀ t' tk', Q (.str (x ++ y) t') ⟨hh9, gg9, dd9, tk', oo9⟩) : wpAny (model prog w) A (binaryOp .Add (.str x t) (.str y u)) Q E ⟨hh9, gg9, dd9, tt9, oo9⟩ := jt9 (s := ⟨hh9, gg9, dd9, tt9, oo9⟩) hz h
theorem jJ9 {c : Nat} (hz : x.length ≤ 10000) (h : ∀ t' tk', Q (.str ⟨(x.cps.toList ++ [c]).toArray⟩ t') { s with toks := tk' }) : wpAny (model prog w) A (binaryOp .Add (.str x t) (.str ⟨#[c]⟩ u)) Q E s := by
  refine addS (by rw [sizeLine_eq]; have : Str.length ⟨#[c]⟩ = 1 := rfl; lia) fun t' tk' => ?_
  have e : (x ++ ⟨#[c]⟩ : Str) = ⟨(x.cps.toList ++ [c]).toArray⟩ := by
    apply Str.ext'
    rw [Str.cps_append]
    apply Array.ext'
    simp
  rw [e]; exact h t' tk'
theorem wF9 {hh9 : Heap} {gg9 : Array GenState} {dd9 : Drawn} {tt9 : Nat} {oo9 : OsState} {c : Nat} (hz : x.length ≤ 10000) (h : ∀ t' tk', Q (.str ⟨(x.cps.toList ++ [c]).toArray⟩ t') ⟨hh9, gg9, dd9, tk', oo9⟩) : wpAny (model prog w) A (binaryOp .Add (.str x t) (.str ⟨#[c]⟩ u)) Q E ⟨hh9, gg9, dd9, tt9, oo9⟩ := jJ9 (s := ⟨hh9, gg9, dd9, tt9, oo9⟩) hz h
end
end
section
noncomputable def AllNe (l : Nat) : List (Addr × Obj) → Prop
  | [] => True
  | p :: r => @Ne Nat p.1 l ∧ AllNe l r
theorem qA9 {l : Nat} : AllNe l [] = True := rfl
theorem xz9 {l : Nat} {p : Addr × Obj} {r : List (Addr × Obj)} : AllNe l (p :: r) = (@Ne Nat p.1 l ∧ AllNe l r) := rfl
theorem AllNe.of {l : Nat} : ∀ {r : List (Addr × Obj)}, (∀ p ∈ r, p.1 ≠ l) → AllNe l r
  | [], _ => trivial
  | _ :: _, h => ⟨h _ (.head _), AllNe.of fun q hq => h q (.tail _ hq)⟩
theorem AllNe.at {l : Nat} : ∀ (r : List (Addr × Obj)), AllNe l r → ∀ p ∈ r, p.1 ≠ l := by
  intro r
  induction r with
  | nil => intro _ p h; cases h
  | cons q r ih =>
    intro x p h
    rcases List.mem_cons.mp h with rfl | h
    · exact x.1
    · exact ih x.2 p h
noncomputable abbrev tupO (vs : List Value) : Obj := { cls := .type "tuple", data := .seq vs.toArray }
noncomputable def New1 (R : Obj → Prop) (h : Heap) (v : Value) (h' : Heap) : Prop := ∃ l o, v = .ref l ∧ h.get? l = none ∧ h'.get? l = some o ∧ R o
section
variable {V : Wd} {f : Value} {args : List Value} {d u : Nat} {pre : Heap → Prop} {post : Heap → Value → Heap → Prop} {R : Obj → Prop}
  {dp un : Nat} {gd : Option (List Code)} {cn : Str} {cs : Scope} {a : Addr} {ccd : Value} {cl : List (Str × Addr)} {outer : List Env} {A₀ : Around} {base h₀ : Heap} {L : Addr} {m : Str → Option Value} {s : Shared} {Q E : Value → Shared → Prop} {news : List (Addr × Obj)}
theorem use0 (S : Spc V f args d u [] pre post) (B : Below A₀ base outer h₀) (F : Fr h₀ L s.heap m) (N : News h₀ L s.heap news) (X : (getK.heap_1 V.w.params).In h₀) (T : Top V.p V.loose V.mean V.mg V.mb h₀) (hk : cs.kind = .function)
    (hd : dp + d < recursionLimit) (hu : un + u < cLine) (hp : pre s.heap)
    (k : ∀ v h' tk', Fr h₀ L h' m → News h₀ L h' news → (∀ b o, s.heap.get? b = some o → h'.get? b = some o) → post s.heap v h' → Q v { s with heap := h', toks := tk' }) :
    wpAny (model prg V.w) (ktrTop dp un gd cn cs L a ccd cl outer) (call f args) Q E s :=
  S dp un gd cn cs a ccd cl outer A₀ base h₀ L m s Q E B F X T hk hd hu News.nil hp fun v h' tk' hkp _ po => by
    have hkp' : ∀ b o, s.heap.get? b = some o → h'.get? b = some o := fun b o e => hkp b o List.not_mem_nil e
    exact k v h' tk' (F.keeps hkp') (N.grown hkp') hkp' po
theorem use1 (S : Spc V f args d u [] pre (New1 R)) (B : Below A₀ base outer h₀) (F : Fr h₀ L s.heap m) (N : News h₀ L s.heap news) (X : (getK.heap_1 V.w.params).In h₀) (T : Top V.p V.loose V.mean V.mg V.mb h₀) (hk : cs.kind = .function)
    (hd : dp + d < recursionLimit) (hu : un + u < cLine) (hp : pre s.heap)
    (k : ∀ l o h' tk', Fr h₀ L h' m → News h₀ L h' ((l, o) :: news) → AllNe l news → R o → Q (.ref l) { s with heap := h', toks := tk' }) :
    wpAny (model prg V.w) (ktrTop dp un gd cn cs L a ccd cl outer) (call f args) Q E s :=
  use0 S B F N X T hk hd hu hp fun v h' tk' F' N' hkp hP => hP.elim fun l hP => hP.elim fun o hP => by
    have hv := hP.1; have h0 := hP.2.1; have h1 := hP.2.2.1; have r := hP.2.2.2
    subst hv
    have hL : l ≠ L := fun e => by obtain ⟨oL, _, _, hL, _⟩ := F.ns; rw [e, hL] at h0; cases h0
    have h00 : h₀.get? l = none := by
      cases q : h₀.get? l with
      | none => rfl
      | some o' => have := F.keep _ _ q; rw [h0] at this; cases this
    refine k l o h' tk' F' (fun p hp => ?_) (AllNe.of fun p hp e => ?_) r
    · rcases List.mem_cons.mp hp with rfl | hp
      · exact ⟨h1, hL, h00⟩
      · exact N' p hp
    · have := (N p hp).1; rw [e, h0] at this; cases this
end
end
section
section
variable {prog : Program} {w : World} {A : Around} {E : Value → Shared → Prop} {s : Shared} {env : Env} {h₀ : Heap} {test : PySem.Expr} {body orelse : List Stmt} {Q : Flow → Shared → Prop} {L : Addr}
noncomputable def jK9 (h₀ : Heap) (L : Addr) (J : Nat → (Str → Option Value) → List (Addr × Obj) → Prop) (n : Nat) (s s₂ : Shared) : Prop :=
  ∃ n' h' tk m' nx, s₂ = { s with heap := h', toks := tk } ∧ n' < n ∧ Fr h₀ L h' m' ∧ News h₀ L h' nx ∧ J n' m' nx
noncomputable def dc9 (h₀ : Heap) (L : Addr) (J : Nat → (Str → Option Value) → List (Addr × Obj) → Prop) (n : Nat) (s : Shared) (Q : Flow → Shared → Prop) (f : Flow) (s₂ : Shared) : Prop :=
  match f with
  | .ret v => Q (.ret v) s₂
  | .brk => Q .next s₂
  | _ => jK9 h₀ L J n s s₂
theorem qZ9 {pos : Pos} {n₀ : Nat} {m₀ : Str → Option Value} {news : List (Addr × Obj)} (J : Nat → (Str → Option Value) → List (Addr × Obj) → Prop) (hE : PassesOwn (model prog w) A env E)
    (F : Fr h₀ L s.heap m₀) (N : News h₀ L s.heap news) (hj : J n₀ m₀ news)
    (turn : ∀ n m₁ nx h tk, J n m₁ nx → Fr h₀ L h m₁ → News h₀ L h nx →
      wpAny (model prog w) A (isTrue test env (eval test env)) (fun b s₂ => if b = true then wpAny (model prog w) A (execs body env) (dc9 h₀ L J n s Q) E s₂ else wpAny (model prog w) A (execs orelse env) Q E s₂) E { s with heap := h, toks := tk }) :
    wpAny (model prog w) A (exec (.While test body orelse pos) env) Q E s := by
  refine whl_start 0 ?_
  have key : ∀ n m₁ nx h tk, J n m₁ nx → Fr h₀ L h m₁ → News h₀ L h nx → WhlRest prog w A E env test body orelse Q 0 { s with heap := h, toks := tk } := by
    intro n
    induction n using Nat.strongRecOn with
    | ind n ih =>
      intro m₁ nx h tk hJ F1 N1
      have step := turn n m₁ nx h tk hJ F1 N1
      show WhlRest prog w A E env test body orelse Q (0 + 1) { s with heap := h, toks := tk }
      refine whl_turn hE (wpAny_mono step (fun b s₂ h₂ => ?_) fun _ _ e => e)
      cases b with
      | false => exact WhlIf.no rfl (by simpa using h₂)
      | true =>
        refine WhlIf.yes rfl ?_
        have h₃ : wpAny (model prog w) A (execs body env) (dc9 h₀ L J n s Q) E s₂ := by simpa using h₂
        refine wpAny_mono h₃ (fun f s₃ h₄ => ?_) fun _ _ e => e
        have go : jK9 h₀ L J n s s₃ → WhlRest prog w A E env test body orelse Q 0 s₃ := by
          rintro hJ9
          refine zh9 fun G9 hG9 => ?_
          refine ex5 hJ9 fun n' h' tk' m' nx' hJ9 => ?_
          refine an4 hJ9 fun e9_0 hlt F2 N2 hJ2 => ?_
          iterate 2 clear hJ9
          subst e9_0
          refine hG9 ?_
          clear hG9 G9
          exact ih n' hlt m' nx' h' tk' hJ2 F2 N2
        cases f with
        | next => exact go h₄
        | cont => exact go h₄
        | brk => exact h₄
        | ret v => exact h₄
  exact key n₀ m₀ news s.heap s.toks hj F N
end
end
section
theorem xD9 {x : Int} {k : Nat} (h : x.natAbs < 2 ^ k) : Builtin.Int.intBits x ≤ k := by
  unfold Builtin.Int.intBits
  split
  · exact Nat.zero_le _
  · rename_i hx
    have h0 : x.natAbs ≠ 0 := by simpa using hx
    exact Nat.succ_le_of_lt ((Nat.log2_lt h0).mpr h)
theorem zp9 (x : Int) : x.natAbs < 2 ^ Builtin.Int.intBits x := by
  unfold Builtin.Int.intBits
  split
  · rename_i hx
    have : x = 0 := by simpa using hx
    subst this; decide
  · exact Nat.lt_log2_self
theorem zT9 {x : Int} {k : Nat} (h0 : 0 ≤ x) (h : x < 2 ^ k) : Builtin.Int.intBits x ≤ k := by
  refine xD9 ?_
  have : ((x.natAbs : Nat) : Int) < ((2 ^ k : Nat) : Int) := by
    rw [Int.natAbs_of_nonneg h0]; push_cast; exact h
  exact Int.ofNat_lt.mp this
theorem dE9 {x : Int} {k : Nat} (h0 : -(2 ^ k) < x) (h : x < 2 ^ k) : Builtin.Int.intBits x ≤ k := by
  refine xD9 ?_
  have e : (((2 ^ k : Nat)) : Int) = (2 : Int) ^ k := by push_cast; rfl
  have : ((x.natAbs : Nat) : Int) < ((2 ^ k : Nat) : Int) := by
    rw [e]
    rcases Int.le_total 0 x with q | q
    · rw [Int.natAbs_of_nonneg q]; exact h
    · rw [Int.ofNat_natAbs_of_nonpos q]; exact Int.neg_lt_of_neg_lt h0
  exact Int.ofNat_lt.mp this
theorem xq9 {a b : Int} {j k : Nat} (ha : Builtin.Int.intBits a ≤ j) (hb : Builtin.Int.intBits b ≤ k) (hj : j ≤ 100000) (hk : k ≤ 100000) : IntMulOk a b :=
  IntMulOk.of_bits (by lia) (by lia)
theorem zj9 (k : Nat) : (0 : Int) < 2 ^ k := Int.pow_pos (by decide)
theorem zO9 {a b : Int} (hb : 0 < b) : a.fdiv b = a / b := Int.fdiv_eq_ediv_of_nonneg _ (Int.le_of_lt hb)
theorem xE9 {a b : Int} (hb : 0 < b) : a.fmod b = a % b := Int.fmod_eq_emod_of_nonneg _ (Int.le_of_lt hb)
theorem xk9 {a b q r : Int} (h : q * b + r = a) (h0 : 0 ≤ r) (h1 : r < b) : a.fdiv b = q ∧ a.fmod b = r := by
  have hb : 0 < b := Int.lt_of_le_of_lt h0 h1
  rw [zO9 hb, xE9 hb]
  subst h
  have hq : q * b + r = r + b * q := by rw [Int.mul_comm, Int.add_comm]
  rw [hq]
  constructor
  · rw [Int.add_mul_ediv_left _ _ (Int.ne_of_gt hb), Int.ediv_eq_zero_of_lt h0 h1, Int.zero_add]
  · rw [Int.add_mul_emod_self_left, Int.emod_eq_of_lt h0 h1]
theorem nI9 {x y : Int} (hx : 0 ≤ x) (hy : 0 ≤ y) : Builtin.bitAnd x y = ((x.toNat &&& y.toNat : Nat) : Int) := by
  unfold Builtin.bitAnd
  rw [decide_eq_true hx, decide_eq_true hy]
theorem wD9 (x : Int) : Builtin.bitNot (Builtin.bitNot x) = x := by unfold Builtin.bitNot; lia
theorem cV9 {x y : Int} (hx : ¬ 0 ≤ x) (hy : ¬ 0 ≤ y) : Builtin.bitAnd x y = Builtin.bitNot (((Builtin.bitNot x).toNat ||| (Builtin.bitNot y).toNat : Nat) : Int) := by
  unfold Builtin.bitAnd
  rw [decide_eq_false hx, decide_eq_false hy]
theorem dF9 {x y : Int} (hx : 0 ≤ x) (hy : 0 ≤ y) : Builtin.bitOr x y = ((x.toNat ||| y.toNat : Nat) : Int) := by
  have h1 : ¬ (0 ≤ Builtin.bitNot x) := by unfold Builtin.bitNot; lia
  have h2 : ¬ (0 ≤ Builtin.bitNot y) := by unfold Builtin.bitNot; lia
  unfold Builtin.bitOr
  rw [cV9 h1 h2, wD9, wD9, wD9]
theorem tI9 {h l : Int} {k : Nat} (hh : 0 ≤ h) (hl : 0 ≤ l) (hlk : l < 2 ^ k) : Builtin.bitOr (h * 2 ^ k) l = h * 2 ^ k + l := by
  have hp := zj9 k
  rw [dF9 (Int.mul_nonneg hh (Int.le_of_lt hp)) hl]
  obtain ⟨a, rfl⟩ := Int.eq_ofNat_of_zero_le hh
  obtain ⟨b, rfl⟩ := Int.eq_ofNat_of_zero_le hl
  have e1 : ((a : Int) * 2 ^ k).toNat = 2 ^ k * a := by
    have : ((a : Int) * 2 ^ k) = ((2 ^ k * a : Nat) : Int) := by push_cast; rw [Int.mul_comm]
    rw [this, Int.toNat_natCast]
  have e2 : b < 2 ^ k := by
    have : (b : Int) < ((2 ^ k : Nat) : Int) := by push_cast; exact hlk
    exact Int.ofNat_lt.mp this
  rw [e1, Int.toNat_natCast, ← Nat.two_pow_add_eq_or_of_lt e2]
  push_cast
  rw [Int.mul_comm]
end
section
theorem jB9 {a12 a3 b1 b2 P : Int} (hP : 0 < P) (hb1 : 0 < b1) (h1 : b1 * P ≤ a12) (hT : a12 * P + a3 < (b1 * P + b2) * P) :
    (P - 1) * (b1 * P + b2) + (((a12 - b1 * P + b1) * P + a3) - (P - 1) * b2) = a12 * P + a3 ∧ ((a12 - b1 * P + b1) * P + a3) - (P - 1) * b2 < b1 * P + b2 := by
  have e : (P - 1) * (b1 * P + b2) + (((a12 - b1 * P + b1) * P + a3) - (P - 1) * b2) = a12 * P + a3 := by grind
  refine ⟨e, ?_⟩
  have e2 : (P - 1) * (b1 * P + b2) = (b1 * P + b2) * P - (b1 * P + b2) := by grind
  lia
theorem jA9 {a12 a3 b1 b2 P q r : Int} (hP : 0 < P) (hb2 : 0 ≤ b2) (ha3 : a3 < P) (hq : 0 ≤ q) (hr : r < b1) (h : q * b1 + r = a12) :
    q * (b1 * P + b2) + ((r * P + a3) - q * b2) = a12 * P + a3 ∧ (r * P + a3) - q * b2 < b1 * P + b2 := by
  subst h
  refine ⟨by grind, ?_⟩
  have h1 : 0 ≤ q * b2 := Int.mul_nonneg hq hb2
  have h2 : (r + 1) * P ≤ b1 * P := Int.mul_le_mul_of_nonneg_right (Int.add_one_le_of_lt hr) (Int.le_of_lt hP)
  have h3 : (r + 1) * P = r * P + P := by grind
  lia
theorem dO9 {q b r T : Int} (h : q * b + r = T) : (q - 1) * b + (r + b) = T := by grind
theorem vx9 {r b : Int} (hr : r < 0) (hb : 0 < b) : (-(r + b)).toNat < (-r).toNat :=
  (Int.toNat_lt_toNat (Int.neg_pos_of_neg hr)).mpr (Int.neg_lt_neg (Int.lt_add_of_pos_right r hb))
theorem jI9 {b n : Nat} (h1 : b ≤ 8000) (h2 : n ≤ 4000) : (b : Int) + (n : Int) ≤ 2 ^ 27 := Int.le_trans (Int.ofNat_le.mpr (Nat.add_le_add h1 h2)) (by decide +kernel)
theorem jm9 {a : Int} {k : Nat} (h : a < 0) (hk : a.natAbs < k) : (-a - 1).natAbs < k := by
  obtain ⟨n, rfl⟩ := Int.eq_negSucc_of_lt_zero h
  rw [show -Int.negSucc n = (n : Int) + 1 from rfl, Int.add_sub_cancel]
  exact Nat.lt_of_succ_lt hk
theorem yc9 {x y : Int} {j : Nat} (hx : Builtin.Int.intBits x ≤ j) (hy : Builtin.Int.intBits y ≤ j) : Builtin.Int.intBits (x + y) ≤ j + 1 := by
  refine xD9 ?_
  have h1 := Nat.lt_of_lt_of_le (zp9 x) (Nat.pow_le_pow_right (n := 2) (by decide) hx)
  have h2 := Nat.lt_of_lt_of_le (zp9 y) (Nat.pow_le_pow_right (n := 2) (by decide) hy)
  have h3 := Int.natAbs_add_le x y
  rw [Nat.pow_succ, Nat.mul_two]; exact Nat.lt_of_le_of_lt h3 (Nat.add_lt_add h1 h2)
theorem ws9 {x y : Int} {j : Nat} (hx : Builtin.Int.intBits x ≤ j) (hy : Builtin.Int.intBits y ≤ j) : Builtin.Int.intBits (x - y) ≤ j + 1 := by
  refine xD9 ?_
  have h1 := Nat.lt_of_lt_of_le (zp9 x) (Nat.pow_le_pow_right (n := 2) (by decide) hx)
  have h2 := Nat.lt_of_lt_of_le (zp9 y) (Nat.pow_le_pow_right (n := 2) (by decide) hy)
  have h3 := Int.natAbs_sub_le x y
  rw [Nat.pow_succ, Nat.mul_two]; exact Nat.lt_of_le_of_lt h3 (Nat.add_lt_add h1 h2)
theorem qV9 {x y : Int} {j k : Nat} (hx : Builtin.Int.intBits x ≤ j) (hy : Builtin.Int.intBits y ≤ k) : Builtin.Int.intBits (x * y) ≤ j + k := by
  refine xD9 ?_
  have h1 := Nat.lt_of_lt_of_le (zp9 x) (Nat.pow_le_pow_right (n := 2) (by decide) hx)
  have h2 := Nat.lt_of_lt_of_le (zp9 y) (Nat.pow_le_pow_right (n := 2) (by decide) hy)
  rw [Int.natAbs_mul, Nat.pow_add]
  exact Nat.mul_lt_mul'' h1 h2
theorem yb9 : Builtin.Int.intBits 1 ≤ 1 := by decide
theorem qR9 {x : Int} {j k : Nat} (hx : Builtin.Int.intBits x ≤ j) (h : j ≤ k) : Builtin.Int.intBits x ≤ k := Nat.le_trans hx h
theorem wt9 (n : Nat) : Builtin.Int.intBits (2 ^ n) ≤ n + 1 :=
  zT9 (Int.le_of_lt (zj9 n)) (by rw [Int.pow_succ, Int.mul_comm, Int.two_mul]; exact Int.lt_add_of_pos_right _ (zj9 n))
theorem xw9 {x y : Int} {j : Nat} (h0 : 0 ≤ x) (h : x ≤ y) (hy : Builtin.Int.intBits y ≤ j) : Builtin.Int.intBits x ≤ j := by
  refine xD9 ?_
  have h2 := Nat.lt_of_lt_of_le (zp9 y) (Nat.pow_le_pow_right (n := 2) (by decide) hy)
  exact Nat.lt_of_le_of_lt (Int.ofNat_le.mp (by rw [Int.natAbs_of_nonneg h0]; exact Int.le_trans h Int.le_natAbs)) h2
theorem nH9 {x y : Int} {j : Nat} (h0 : 0 ≤ x) (hy : 0 < y) (hx : Builtin.Int.intBits x ≤ j) : Builtin.Int.intBits (x.fdiv y) ≤ j := by
  rw [zO9 hy]
  exact xw9 (Int.ediv_nonneg h0 (Int.le_of_lt hy)) (Int.ediv_le_self _ h0) hx
theorem nG9 {x y : Int} {j : Nat} (hy : 0 < y) (hyj : Builtin.Int.intBits y ≤ j) : Builtin.Int.intBits (x.fmod y) ≤ j := by
  rw [xE9 hy]
  exact xw9 (Int.emod_nonneg _ (Int.ne_of_gt hy)) (Int.le_of_lt (Int.emod_lt_of_pos _ hy)) hyj
theorem xr9 {x : Int} (h : Builtin.Int.intBits x ≤ 9000) : x.natAbs.log2 < 9000 := by
  unfold Builtin.Int.intBits at h
  split at h
  · rename_i hx
    have : x = 0 := by simpa using hx
    subst this; decide
  · exact Nat.lt_of_succ_le h
end
section
section
variable {prog : Program} {w : World} {A : Around} {E : Value → Shared → Prop} {s : Shared} {a b n r : Int} {t u : Tok} {Q : Value → Shared → Prop}
theorem gK9 (hn : 0 ≤ n) (he : a.fdiv (2 ^ n.toNat) = r) (h : Q (.int r s.toks) { s with toks := s.toks + 1 }) : wpAny (model prog w) A (binaryOp .RShift (.int a t) (.int n u)) Q E s := rshift_int hn (by rw [he]; exact h)
theorem dP9 {hh9 : Heap} {gg9 : Array GenState} {dd9 : Drawn} {tt9 : Nat} {oo9 : OsState} (hn : 0 ≤ n) (he : a.fdiv (2 ^ n.toNat) = r) (h : Q (.int r tt9) ⟨hh9, gg9, dd9, tt9 + 1, oo9⟩) : wpAny (model prog w) A (binaryOp .RShift (.int a t) (.int n u)) Q E ⟨hh9, gg9, dd9, tt9, oo9⟩ := gK9 (s := ⟨hh9, gg9, dd9, tt9, oo9⟩) hn he h
theorem bZ9 (hn : 0 ≤ n) (he : a.fdiv (2 ^ n.toNat) = r) (h : Q (.int r s.toks) { s with toks := s.toks + 1 }) : wpAny (model prog w) A (inplaceOp .RShift (.int a t) (.int n u)) Q E s := irshift_int hn (by rw [he]; exact h)
theorem td9 {hh9 : Heap} {gg9 : Array GenState} {dd9 : Drawn} {tt9 : Nat} {oo9 : OsState} (hn : 0 ≤ n) (he : a.fdiv (2 ^ n.toNat) = r) (h : Q (.int r tt9) ⟨hh9, gg9, dd9, tt9 + 1, oo9⟩) : wpAny (model prog w) A (inplaceOp .RShift (.int a t) (.int n u)) Q E ⟨hh9, gg9, dd9, tt9, oo9⟩ := bZ9 (s := ⟨hh9, gg9, dd9, tt9, oo9⟩) hn he h
theorem gV9 (hn : 0 ≤ n) (hsz : (Builtin.Int.intBits a : Int) + n ≤ 2 ^ 27) (he : a * 2 ^ n.toNat = r) (h : Q (.int r s.toks) { s with toks := s.toks + 1 }) : wpAny (model prog w) A (binaryOp .LShift (.int a t) (.int n u)) Q E s := lshift_int hn hsz (by rw [he]; exact h)
theorem vQ9 {hh9 : Heap} {gg9 : Array GenState} {dd9 : Drawn} {tt9 : Nat} {oo9 : OsState} (hn : 0 ≤ n) (hsz : (Builtin.Int.intBits a : Int) + n ≤ 2 ^ 27) (he : a * 2 ^ n.toNat = r) (h : Q (.int r tt9) ⟨hh9, gg9, dd9, tt9 + 1, oo9⟩) : wpAny (model prog w) A (binaryOp .LShift (.int a t) (.int n u)) Q E ⟨hh9, gg9, dd9, tt9, oo9⟩ := gV9 (s := ⟨hh9, gg9, dd9, tt9, oo9⟩) hn hsz he h
theorem bf9 (hn : 0 ≤ n) (hsz : (Builtin.Int.intBits a : Int) + n ≤ 2 ^ 27) (he : a * 2 ^ n.toNat = r) (h : Q (.int r s.toks) { s with toks := s.toks + 1 }) : wpAny (model prog w) A (inplaceOp .LShift (.int a t) (.int n u)) Q E s := ilshift_int hn hsz (by rw [he]; exact h)
theorem th9 {hh9 : Heap} {gg9 : Array GenState} {dd9 : Drawn} {tt9 : Nat} {oo9 : OsState} (hn : 0 ≤ n) (hsz : (Builtin.Int.intBits a : Int) + n ≤ 2 ^ 27) (he : a * 2 ^ n.toNat = r) (h : Q (.int r tt9) ⟨hh9, gg9, dd9, tt9 + 1, oo9⟩) : wpAny (model prog w) A (inplaceOp .LShift (.int a t) (.int n u)) Q E ⟨hh9, gg9, dd9, tt9, oo9⟩ := bf9 (s := ⟨hh9, gg9, dd9, tt9, oo9⟩) hn hsz he h
theorem gz9 (he : Builtin.bitAnd a b = r) (h : Q (.int r s.toks) { s with toks := s.toks + 1 }) : wpAny (model prog w) A (binaryOp .BitAnd (.int a t) (.int b u)) Q E s := and_int (by rw [he]; exact h)
theorem db9 {hh9 : Heap} {gg9 : Array GenState} {dd9 : Drawn} {tt9 : Nat} {oo9 : OsState} (he : Builtin.bitAnd a b = r) (h : Q (.int r tt9) ⟨hh9, gg9, dd9, tt9 + 1, oo9⟩) : wpAny (model prog w) A (binaryOp .BitAnd (.int a t) (.int b u)) Q E ⟨hh9, gg9, dd9, tt9, oo9⟩ := gz9 (s := ⟨hh9, gg9, dd9, tt9, oo9⟩) he h
theorem hX9 (he : Builtin.bitOr a b = r) (h : Q (.int r s.toks) { s with toks := s.toks + 1 }) : wpAny (model prog w) A (binaryOp .BitOr (.int a t) (.int b u)) Q E s := or_int (by rw [he]; exact h)
theorem hY9 {hh9 : Heap} {gg9 : Array GenState} {dd9 : Drawn} {tt9 : Nat} {oo9 : OsState} (he : Builtin.bitOr a b = r) (h : Q (.int r tt9) ⟨hh9, gg9, dd9, tt9 + 1, oo9⟩) : wpAny (model prog w) A (binaryOp .BitOr (.int a t) (.int b u)) Q E ⟨hh9, gg9, dd9, tt9, oo9⟩ := hX9 (s := ⟨hh9, gg9, dd9, tt9, oo9⟩) he h
theorem gT9 (hm : IntMulOk a b) (he : a * b = r) (h : Q (.int r s.toks) { s with toks := s.toks + 1 }) : wpAny (model prog w) A (binaryOp .Mult (.int a t) (.int b u)) Q E s := PyProof.Rows.mul_int (by rw [he]; exact h) hm
theorem tM9 {hh9 : Heap} {gg9 : Array GenState} {dd9 : Drawn} {tt9 : Nat} {oo9 : OsState} (hm : IntMulOk a b) (he : a * b = r) (h : Q (.int r tt9) ⟨hh9, gg9, dd9, tt9 + 1, oo9⟩) : wpAny (model prog w) A (binaryOp .Mult (.int a t) (.int b u)) Q E ⟨hh9, gg9, dd9, tt9, oo9⟩ := gT9 (s := ⟨hh9, gg9, dd9, tt9, oo9⟩) hm he h
end
theorem tf9 {j k : Nat} (h : j ≤ k) : (2 : Int) ^ j ≤ 2 ^ k := by
  have h2 := Nat.pow_le_pow_right (n := 2) (by decide) h
  have : ((2 ^ j : Nat) : Int) ≤ ((2 ^ k : Nat) : Int) := Int.ofNat_le.mpr h2
  push_cast at this
  exact this
theorem dN9 : Int.toNat 1 = 1 := rfl
theorem gq9 {a b P q1 r1 q2 r2 A1 A2 A3 : Int} (ha : a = (A1 * P + A2) * P + A3) (h1 : q1 * b + r1 = A1 * P + A2) (h2 : q2 * b + r2 = r1 * P + A3) : (q1 * P + q2) * b + r2 = a := by
  subst ha
  have e1 : (A1 * P + A2) * P = (q1 * b + r1) * P := by rw [h1]
  grind
theorem tO9 (a : Int) (h : Nat) : a = (a / 2 ^ (h + h) * 2 ^ h + a / 2 ^ h % 2 ^ h) * 2 ^ h + a % 2 ^ h := by
  have hp := zj9 h
  have e1 := Int.mul_ediv_add_emod a (2 ^ h)
  have e2 := Int.mul_ediv_add_emod (a / 2 ^ h) (2 ^ h)
  have e3 : a / 2 ^ (h + h) = a / 2 ^ h / 2 ^ h := by rw [Int.pow_add, Int.ediv_ediv_of_nonneg (Int.le_of_lt hp)]
  rw [e3]
  generalize a / 2 ^ h / 2 ^ h = A1 at *
  generalize a / 2 ^ h % 2 ^ h = A2 at *
  generalize a / 2 ^ h = A at *
  generalize a % 2 ^ h = A3 at *
  generalize (2 : Int) ^ h = P at *
  have : A1 * P + A2 = A := by rw [Int.mul_comm]; exact e2
  rw [this, Int.mul_comm]; exact e1.symm
theorem yd9 {x : Int} {k : Nat} : Builtin.bitAnd x (2 ^ k - 1) = x % 2 ^ k := kbt_mask x k
theorem yt9 {x y b P : Int} (hP : 0 < P) (hx : x < b) (hy : y < P) : x * P + y < b * P := by
  have h2 : (x + 1) * P ≤ b * P := Int.mul_le_mul_of_nonneg_right (Int.add_one_le_of_lt hx) (Int.le_of_lt hP)
  rw [Int.add_mul, Int.one_mul] at h2
  exact Int.lt_of_lt_of_le (Int.add_lt_add_left hy _) h2
theorem xv9 (x : Int) {b : Int} (hb : 0 < b) : x.fdiv b * b + x.fmod b = x ∧ 0 ≤ x.fmod b ∧ x.fmod b < b := by
  rw [zO9 hb, xE9 hb, Int.mul_comm]
  exact ⟨Int.mul_ediv_add_emod x b, Int.emod_nonneg _ (Int.ne_of_gt hb), Int.emod_lt_of_pos _ hb⟩
theorem qF9 {x b P : Int} (hb : 0 < b) (hx : 0 ≤ x) (h : x < b * P) : 0 ≤ x.fdiv b ∧ x.fdiv b < P := by
  rw [zO9 hb]
  exact ⟨Int.ediv_nonneg hx (Int.le_of_lt hb), Int.ediv_lt_of_lt_mul hb (by rw [Int.mul_comm]; exact h)⟩
end
section
noncomputable def zn9 (obs : List (Addr × Obj)) (R : Value → List (Addr × Obj) → Prop) (h : Heap) (v : Value) (h' : Heap) : Prop :=
  ∃ nx, R v nx ∧ ∀ p ∈ nx, h'.get? p.1 = some p.2 ∧ (p.1 ∈ obs.map (·.1) ∨ h.get? p.1 = none)
theorem xn9 {V : Wd} {f : Value} {args : List Value} {d u : Nat} {obs rest : List (Addr × Obj)} {pre : Heap → Prop} {R : Value → List (Addr × Obj) → Prop}
    {dp un : Nat} {gd : Option (List Code)} {cn : Str} {cs : Scope} {a : Addr} {ccd : Value} {cl : List (Str × Addr)} {outer : List Env} {A₀ : Around} {base h₀ : Heap} {L : Addr} {m : Str → Option Value} {s : Shared} {Q E : Value → Shared → Prop}
    (S : Spc V f args d u obs pre (zn9 obs R)) (B : Below A₀ base outer h₀) (F : Fr h₀ L s.heap m) (No : News h₀ L s.heap obs) (Nr : News h₀ L s.heap rest) (hsep : ∀ p ∈ rest, ∀ q ∈ obs, p.1 ≠ q.1)
    (X : (getK.heap_1 V.w.params).In h₀) (T : Top V.p V.loose V.mean V.mg V.mb h₀) (hk : cs.kind = .function)
    (hd : dp + d < recursionLimit) (hu : un + u < cLine) (hp : pre s.heap)
    (k : ∀ v nx h' tk', Fr h₀ L h' m → News h₀ L h' nx → News h₀ L h' rest → R v nx → (∀ p ∈ nx, AllNe p.1 rest) → (∀ p ∈ nx, p.1 ∈ obs.map (·.1) ∨ AllNe p.1 obs) → Q v { s with heap := h', toks := tk' }) :
    wpAny (model prg V.w) (ktrTop dp un gd cn cs L a ccd cl outer) (call f args) Q E s :=
  S dp un gd cn cs a ccd cl outer A₀ base h₀ L m s Q E B F X T hk hd hu No hp fun v h' tk' hkp _ hP => hP.elim fun nx hP => by
    have hR := hP.1; have hnx := hP.2
    have hobs : ∀ b o, h₀.get? b = some o → b ∉ obs.map (·.1) := fun b o e q => by
      obtain ⟨p, hp, rfl⟩ := List.mem_map.mp q
      rw [(No p hp).2.2] at e; cases e
    obtain ⟨oL, a1, a2, hL, a3⟩ := F.ns
    have hLn : L ∉ obs.map (·.1) := fun q => by
      obtain ⟨p, hp, e⟩ := List.mem_map.mp q
      exact (No p hp).2.1 e
    have F' : Fr h₀ L h' m := ⟨⟨oL, a1, a2, hkp _ _ hLn hL, a3⟩, fun b o e => hkp b o (hobs b o e) (F.keep b o e), F.above⟩
    refine k v nx h' tk' F' (fun p hp => ?_) (fun p hp => ?_) hR (fun p hp => ?_) (fun p hp => ?_)
    · refine ⟨(hnx p hp).1, fun e => ?_, ?_⟩
      · rcases (hnx p hp).2 with q | q
        · exact hLn (e ▸ q)
        · rw [e, hL] at q; cases q
      · cases q : h₀.get? p.1 with
        | none => rfl
        | some o' =>
          rcases (hnx p hp).2 with q2 | q2
          · exact absurd q2 (hobs _ _ q)
          · have := F.keep _ _ q; rw [q2] at this; cases this
    · have hno : p.1 ∉ obs.map (·.1) := fun q => by
        obtain ⟨q, hq, e⟩ := List.mem_map.mp q
        exact hsep p hp q hq e.symm
      exact ⟨hkp _ _ hno (Nr p hp).1, (Nr p hp).2⟩
    · refine AllNe.of fun q hq e => ?_
      rcases (hnx p hp).2 with z | z
      · obtain ⟨y, hy, ey⟩ := List.mem_map.mp z
        exact hsep q hq y hy (e.trans ey.symm)
      · rw [← e, (Nr q hq).1] at z; cases z
    · rcases (hnx p hp).2 with z | z
      · exact .inl z
      · refine .inr (AllNe.of fun q hq e => ?_)
        rw [← e, (No q hq).1] at z; cases z
section
variable {V : Wd} {f : Addr} {args : List Value} {d u : Nat} {obs : List (Addr × Obj)} {pre : Heap → Prop} {R : Value → List (Addr × Obj) → Prop}
    {name qual : Str} {params : Arguments} {body : List Stmt} {scope : Scope} {doc pm cdv ct oc : Value} {od : Option Addr} {osl : Array (Option Value)} {binds : List (Str × Value)}
theorem bE9 {sh g h' : Heap} {s : Shared} {L' : Addr} {m' : Str → Option Value} {nx : List (Addr × Obj)} {v : Value} {tk' : Nat} {Q : Value → Shared → Prop} (hsg : ∀ b o, b ∉ obs.map (·.1) → sh.get? b = some o → g.get? b = some o) (hsz : sh.objs.size ≤ L')
    (k : ∀ v h' tk', (∀ b o, b ∉ obs.map (·.1) → sh.get? b = some o → h'.get? b = some o) → sh.objs.size ≤ h'.objs.size → zn9 obs R sh v h' → Q v { s with heap := h', toks := tk' })
    (F : Fr g L' h' m') (N : News g L' h' nx) (r : R v nx) : Q v { s with heap := h', toks := tk' } := by
  refine k v h' tk' (fun b o hb e => F.keep b o (hsg b o hb e)) (Nat.le_trans hsz (Nat.le_of_lt F.ns.lt)) ⟨nx, r, fun p hp => ⟨(N p hp).1, ?_⟩⟩
  by_cases hb : p.1 ∈ obs.map (·.1)
  · exact .inl hb
  · refine .inr ?_
    cases q : sh.get? p.1 with
    | none => rfl
    | some o => have := hsg _ _ hb q; rw [(N p hp).2.2] at this; cases this
theorem vF9 {A₀ : Around} {base h₀ : Heap} {outer : List Env} {L : Addr} {m : Str → Option Value} {s : Shared} {dp un : Nat} {gd : Option (List Code)} {cn : Str} {cs : Scope} {a : Addr} {ccd : Value} {cl : List (Str × Addr)}
    (B : Below A₀ base outer h₀) (F : Fr h₀ L s.heap m) (N : News h₀ L s.heap obs) (hk : cs.kind = .function) :
    Below (ktrTop dp un gd cn cs L a ccd cl outer) base (envX cn cs L a ccd cl :: outer) (hideAll s.heap (obs.map (·.1))) ∧ (∀ b o, h₀.get? b = some o → (hideAll s.heap (obs.map (·.1))).get? b = some o) ∧
    (∀ b o, b ∉ obs.map (·.1) → s.heap.get? b = some o → (hideAll s.heap (obs.map (·.1))).get? b = some o) ∧ (hideAll s.heap (obs.map (·.1))).objs.size = s.heap.objs.size := by
  obtain ⟨F2, B2, st, lv⟩ := groundX (R := fun _ _ => True) (A := ktrTop dp un gd cn cs L a ccd cl outer) B F N rfl rfl hk
  exact ⟨B2, st, fun b o hb e => hideAll_get _ e hb, hideAll_size _ _⟩
theorem uL9 (ho : (getK.heap_1 V.w.params).lookup f = some ⟨oc, od, .func (fnX name qual params body scope [] .none .none doc pm none cdv ct), osl⟩) (hcd : codeIn (getK.heap_1 V.w.params) cdv qual = true)
    (hbind : bindArgs (fnX name qual params body scope [] .none .none doc pm none cdv ct) ⟨args, []⟩ = pure binds) (hloc : ∀ y ∈ binds, scope.names.lookup y.1 = some .local)
    (hcell : ∀ x ∈ scope.names, x.2 ≠ .cell) (hco : scope.isCoroutine = false) (hgen : scope.isGenerator = false) (hk : scope.kind = .function)
    (h : ∀ (dp un : Nat) (gd : Option (List Code)) (outer : List Env) (A₁ : Around) (base sh g : Heap) (L' : Addr) (h₁ : Heap) (s : Shared) (Q : Value → Shared → Prop),
      dp + d ≤ recursionLimit → un + u < cLine + 3 → pre sh → (∀ b o, b ∉ obs.map (·.1) → sh.get? b = some o → g.get? b = some o) → Fr g L' h₁ (fun y => binds.reverse.lookup y) → News g L' h₁ obs → (∀ p ∈ obs, p.1 < L') →
      Below A₁ base outer g → (getK.heap_1 V.w.params).In g → Top V.p V.loose V.mean V.mg V.mb g →
      (∀ v h' tk' m' nx, Fr g L' h' m' → News g L' h' nx → R v nx → Q v { s with heap := h', toks := tk' }) →
      wpAny (model prg V.w) (ktrTop dp un gd qual scope L' f cdv [] outer) (execs body (envX qual scope L' f cdv []))
        (fun fl s' => Q (match fl with | .ret v => v | _ => .none) s') (fun _ _ => False) { s with heap := h₁, toks := s.toks + binds.length }) :
    Spc V (.ref f) args d u obs pre (zn9 obs R) := by
  intro dp un gd cn cs a ccd cl outer A₀ base h₀ L m s Q E B F X T hkc hd hu N hp ret
  have Xs := Frag.In.keeps X F.keep
  obtain ⟨BG, st, hsg, hsz⟩ := vF9 (dp := dp) (un := un) (gd := gd) (a := a) (ccd := ccd) (cl := cl) B F N hkc
  have hd0 : dp < recursionLimit := lt0 (by assumption)
  refine wpAny_call (codeAny_call_def (fd := fnX name qual params body scope [] .none .none doc pm none cdv ct) (body := body) (binds := binds) hd0 (Xs _ _ ho) rfl (T.keeps F.keep).nolimit (codeRec_of Xs hcd) rfl (BindsTo.of_eq hbind) hcell hloc (fun h₁ hns hk₁ => ?_) hco hgen hk)
  have FG : Fr (hideAll s.heap (obs.map (·.1))) s.heap.objs.size h₁ (fun y => binds.reverse.lookup y) := ⟨hns, fun b o e => hk₁ b o (of_hideAll _ e), Nat.le_of_eq hsz⟩
  have NG : News (hideAll s.heap (obs.map (·.1))) s.heap.objs.size h₁ obs := fun p hp => ⟨hk₁ _ _ (N p hp).1, Nat.ne_of_lt (Heap.lt_size (N p hp).1), hideAll_none _ (List.mem_map_of_mem hp)⟩
  refine wpAny_mono (h (dp + 1) (un + 3) gd (envX cn cs L a ccd cl :: outer) _ base s.heap _ s.heap.objs.size h₁ s Q (up1 (by assumption)) (up3 (by assumption)) hp hsg FG NG (fun p hp => Heap.lt_size (N p hp).1) BG (X.keeps st) (T.keeps st) (fun v h' tk' m' nx F' N' r => bE9 hsg (Nat.le_refl _) ret F' N' r)) (fun fl s' hq => hq) (fun _ _ x => x.elim)
theorem uM9 (ho : (getK.heap_1 V.w.params).lookup f = some ⟨oc, od, .func (fnX name qual params body scope [] .none .none doc pm none cdv ct), osl⟩) (hcd : codeIn (getK.heap_1 V.w.params) cdv qual = true)
    (hbind : bindArgs (fnX name qual params body scope [] .none .none doc pm none cdv ct) ⟨args, []⟩ = pure binds)
    (hkind : ∀ n, ∀ x ∈ binds, scope.names.lookup x.1 = some .local ∨ (scope.names.lookup x.1 = some .cell ∧ ((cellsFrom n scope.names []).lookup x.1).isSome = true))
    (hnd : ((cellsFrom 0 scope.names []).map (·.1)).Nodup) (hco : scope.isCoroutine = false) (hgen : scope.isGenerator = false) (hk : scope.kind = .function)
    (h : ∀ (dp un : Nat) (gd : Option (List Code)) (outer : List Env) (A₁ : Around) (base sh g : Heap) (L' : Addr) (h₁ : Heap) (tk : Nat) (cells : List (Addr × Obj)) (s : Shared) (Q : Value → Shared → Prop),
      dp + d ≤ recursionLimit → un + u < cLine + 3 → pre sh → (∀ b o, b ∉ obs.map (·.1) → sh.get? b = some o → g.get? b = some o) → Fr g L' h₁ (bindL (envOfC qual scope L' f cdv).kindOf binds fun _ => none) → News g L' h₁ (cells ++ obs) → (∀ p ∈ obs, p.1 < L') →
      CellsAre (bindC (envOfC qual scope L' f cdv).kindOf binds fun _ => none) (cellsFrom (L' + 1) scope.names []) cells →
      Below A₁ base outer g → (getK.heap_1 V.w.params).In g → Top V.p V.loose V.mean V.mg V.mb g →
      (∀ v h' tk' m' nx, Fr g L' h' m' → News g L' h' nx → R v nx → Q v { s with heap := h', toks := tk' }) →
      wpAny (model prg V.w) (ktrTop dp un gd qual scope L' f cdv (cellsFrom (L' + 1) scope.names []) outer) (execs body (envX qual scope L' f cdv (cellsFrom (L' + 1) scope.names [])))
        (fun fl s' => Q (match fl with | .ret v => v | _ => .none) s') (fun _ _ => False) { s with heap := h₁, toks := tk }) :
    Spc V (.ref f) args d u obs pre (zn9 obs R) := by
  intro dp un gd cn cs a ccd cl outer A₀ base h₀ L m s Q E B F X T hkc hd hu N hp ret
  have Xs := Frag.In.keeps X F.keep
  obtain ⟨BG, st, hsg, hsz⟩ := vF9 (dp := dp) (un := un) (gd := gd) (a := a) (ccd := ccd) (cl := cl) B F N hkc
  have hd0 : dp < recursionLimit := lt0 (by assumption)
  refine wpAny_call (codeAny_call_function hd0 (Xs _ _ ho) rfl hco hgen rfl (codeRec_of Xs hcd) ((BindsTo.of_eq hbind) _ _ _ _ ?_))
  refine wpAny_newFunctionEnv_cells hk (hkind _) fun env' he s' x => ?_
  subst he
  refine ⟨((T.keeps F.keep).nolimit).keeps x.toInCall.keep, codeAny_func ?_⟩
  obtain ⟨h₁, tk, rfl, _⟩ := x.done
  have hk₁ := x.toInCall.keep
  obtain ⟨cells, NC, Y⟩ := Cl.news (h₀ := s.heap) (Nat.le_refl _) fun n c hm => ⟨x.cell n c (lookup_of_mem_nodup (cellsFrom_names scope.names 0 (s.heap.objs.size + 1) [] [] rfl ▸ hnd) hm), x.above n c hm⟩
  refine wpAny_mono (h (dp + 1) (un + 3) gd (envX cn cs L a ccd cl :: outer) _ base s.heap _ s.heap.objs.size h₁ tk cells s Q (up1 (by assumption)) (up3 (by assumption)) hp hsg ⟨x.toInCall.ns, fun b o e => hk₁ b o (of_hideAll _ e), Nat.le_of_eq hsz⟩ (fun p hp => ?_) (fun p hp => Heap.lt_size (N p hp).1) Y BG (X.keeps st) (T.keeps st) (fun v h' tk' m' nx F' N' r => bE9 hsg (Nat.le_refl _) ret F' N' r)) (fun fl s' hq => hq) (fun _ _ x => x.elim)
  rcases List.mem_append.mp hp with hp | hp
  · refine ⟨(NC p hp).1, (NC p hp).2.1, ?_⟩
    cases q : (hideAll s.heap (obs.map (·.1))).get? p.1 with
    | none => rfl
    | some o => have := of_hideAll _ q; rw [(NC p hp).2.2] at this; cases this
  · exact ⟨hk₁ _ _ (N p hp).1, Nat.ne_of_lt (Heap.lt_size (N p hp).1), hideAll_none _ (List.mem_map_of_mem hp)⟩
theorem dX9 {cl₀ : List (Str × Addr)} {c' : Addr} {ctv : Value} (ho : (f, fnMade name qual params body scope cl₀ doc pm c' ctv) ∈ obs) (hcd : ∀ sh, pre sh → sh.CodeRec (.ref c') qual)
    (hbind : bindArgs (fnX name qual params body scope cl₀ .none .none doc pm none (.ref c') ctv) ⟨args, []⟩ = pure binds) (hloc : ∀ y ∈ binds, scope.names.lookup y.1 = some .local)
    (hcell : ∀ x ∈ scope.names, x.2 ≠ .cell) (hco : scope.isCoroutine = false) (hgen : scope.isGenerator = false) (hk : scope.kind = .function)
    (h : ∀ (dp un : Nat) (gd : Option (List Code)) (outer : List Env) (A₁ : Around) (base sh g : Heap) (L' : Addr) (h₁ : Heap) (s : Shared) (Q : Value → Shared → Prop),
      dp + d ≤ recursionLimit → un + u < cLine + 3 → pre sh → (∀ b o, b ∉ obs.map (·.1) → sh.get? b = some o → g.get? b = some o) → (∀ b o, g.get? b = some o → h₁.get? b = some o) → (∀ b o, sh.get? b = some o → h₁.get? b = some o) → Fr g L' h₁ (fun y => binds.reverse.lookup y) → News g L' h₁ obs → (∀ p ∈ obs, p.1 < L') →
      Below A₁ base outer g → (getK.heap_1 V.w.params).In g → Top V.p V.loose V.mean V.mg V.mb g →
      (∀ v h' tk' m' nx, Fr g L' h' m' → News g L' h' nx → R v nx → Q v { s with heap := h', toks := tk' }) →
      wpAny (model prg V.w) (ktrTop dp un gd qual scope L' f (.ref c') cl₀ outer) (execs body (envX qual scope L' f (.ref c') cl₀))
        (fun fl s' => Q (match fl with | .ret v => v | _ => .none) s') (fun _ _ => False) { s with heap := h₁, toks := s.toks + binds.length }) :
    Spc V (.ref f) args d u obs pre (zn9 obs R) := by
  intro dp un gd cn cs a ccd cl outer A₀ base h₀ L m s Q E B F X T hkc hd hu N hp ret
  obtain ⟨BG, st, hsg, hsz⟩ := vF9 (dp := dp) (un := un) (gd := gd) (a := a) (ccd := ccd) (cl := cl) B F N hkc
  have hd0 : dp < recursionLimit := lt0 (by assumption)
  refine wpAny_call (codeAny_call_def (fd := fnX name qual params body scope cl₀ .none .none doc pm none (.ref c') ctv) (body := body) (binds := binds) hd0 (N _ ho).1 rfl (T.keeps F.keep).nolimit (hcd _ hp) rfl (BindsTo.of_eq hbind) hcell hloc (fun h₁ hns hk₁ => ?_) hco hgen hk)
  have FG : Fr (hideAll s.heap (obs.map (·.1))) s.heap.objs.size h₁ (fun y => binds.reverse.lookup y) := ⟨hns, fun b o e => hk₁ b o (of_hideAll _ e), Nat.le_of_eq hsz⟩
  have NG : News (hideAll s.heap (obs.map (·.1))) s.heap.objs.size h₁ obs := fun p hp => ⟨hk₁ _ _ (N p hp).1, Nat.ne_of_lt (Heap.lt_size (N p hp).1), hideAll_none _ (List.mem_map_of_mem hp)⟩
  refine wpAny_mono (h (dp + 1) (un + 3) gd (envX cn cs L a ccd cl :: outer) _ base s.heap _ s.heap.objs.size h₁ s Q (up1 (by assumption)) (up3 (by assumption)) hp hsg FG.keep hk₁ FG NG (fun p hp => Heap.lt_size (N p hp).1) BG (X.keeps st) (T.keeps st) (fun v h' tk' m' nx F' N' r => bE9 hsg (Nat.le_refl _) ret F' N' r)) (fun fl s' hq => hq) (fun _ _ x => x.elim)
end
end
section
section
variable {prog : Program} {w : World} {A : Around} {E : Value → Shared → Prop} {s : Shared} {a b r : Int} {t u : Tok} {Q : Value → Shared → Prop} {h₀ : Heap} {L : Addr} {m : Str → Option Value} {news : List (Addr × Obj)}
theorem bn9 (hb : b ≠ 0) (h9 : b.natAbs.log2 < 9000) (he : a.fdiv b = r) (h : Q (.int r s.toks) { s with toks := s.toks + 1 }) : wpAny (model prog w) A (binaryOp .FloorDiv (.int a t) (.int b u)) Q E s :=
  floordiv_int hb (by rw [he]; exact h) (.inl (PyProof.noPylong_of_log2 h9))
theorem qj9 {hh9 : Heap} {gg9 : Array GenState} {dd9 : Drawn} {tt9 : Nat} {oo9 : OsState} (hb : b ≠ 0) (h9 : b.natAbs.log2 < 9000) (he : a.fdiv b = r) (h : Q (.int r tt9) ⟨hh9, gg9, dd9, tt9 + 1, oo9⟩) : wpAny (model prog w) A (binaryOp .FloorDiv (.int a t) (.int b u)) Q E ⟨hh9, gg9, dd9, tt9, oo9⟩ := bn9 (s := ⟨hh9, gg9, dd9, tt9, oo9⟩) hb h9 he h
theorem bs9 (hb : b ≠ 0) (h9 : b.natAbs.log2 < 9000) (h : Q (.int (a.fdiv b) s.toks) { s with toks := s.toks + 1 }) : wpAny (model prog w) A (binaryOp .FloorDiv (.int a t) (.int b u)) Q E s :=
  floordiv_int hb h (.inl (PyProof.noPylong_of_log2 h9))
theorem vY9 {hh9 : Heap} {gg9 : Array GenState} {dd9 : Drawn} {tt9 : Nat} {oo9 : OsState} (hb : b ≠ 0) (h9 : b.natAbs.log2 < 9000) (h : Q (.int (a.fdiv b) tt9) ⟨hh9, gg9, dd9, tt9 + 1, oo9⟩) : wpAny (model prog w) A (binaryOp .FloorDiv (.int a t) (.int b u)) Q E ⟨hh9, gg9, dd9, tt9, oo9⟩ := bs9 (s := ⟨hh9, gg9, dd9, tt9, oo9⟩) hb h9 h
theorem gU9 (hb : b ≠ 0) (he : a.fmod b = r) (h : Q (.int r s.toks) { s with toks := s.toks + 1 }) : wpAny (model prog w) A (binaryOp .Mod (.int a t) (.int b u)) Q E s :=
  PyProof.Rows.mod_int hb (by rw [he]; exact h)
theorem hc9 {hh9 : Heap} {gg9 : Array GenState} {dd9 : Drawn} {tt9 : Nat} {oo9 : OsState} (hb : b ≠ 0) (he : a.fmod b = r) (h : Q (.int r tt9) ⟨hh9, gg9, dd9, tt9 + 1, oo9⟩) : wpAny (model prog w) A (binaryOp .Mod (.int a t) (.int b u)) Q E ⟨hh9, gg9, dd9, tt9, oo9⟩ := gU9 (s := ⟨hh9, gg9, dd9, tt9, oo9⟩) hb he h
theorem dm9 (he : Builtin.bitXor a b = r) (h : Q (.int r s.toks) { s with toks := s.toks + 1 }) : wpAny (model prog w) A (binaryOp .BitXor (.int a t) (.int b u)) Q E s := xor_int (by rw [he]; exact h)
theorem hK9 {hh9 : Heap} {gg9 : Array GenState} {dd9 : Drawn} {tt9 : Nat} {oo9 : OsState} (he : Builtin.bitXor a b = r) (h : Q (.int r tt9) ⟨hh9, gg9, dd9, tt9 + 1, oo9⟩) : wpAny (model prog w) A (binaryOp .BitXor (.int a t) (.int b u)) Q E ⟨hh9, gg9, dd9, tt9, oo9⟩ := dm9 (s := ⟨hh9, gg9, dd9, tt9, oo9⟩) he h
theorem wl9 (x : Value) : ∀ (k : Nat) (acc : Array Value), List.foldl (fun x1 x2 => x1 ++ x2) acc (List.replicate k #[x]) = acc ++ (List.replicate k x).toArray
  | 0, acc => by simp
  | k + 1, acc => by
    rw [List.replicate_succ, List.foldl_cons, wl9 x k, List.replicate_succ]
    apply Array.ext'
    simp
theorem jn9 {l : Addr} {x : Value} {k e : Nat} (F : Fr h₀ L s.heap m) (N : News h₀ L s.heap news) (hm : (l, W.listOf #[x] e) ∈ news) (hk : k ≤ 1000000)
    (h : ∀ l' h', Fr h₀ L h' m → News h₀ L h' ((l', W.listOf (List.replicate k x).toArray 0) :: news) → (∀ p ∈ news, p.1 < l') → Q (.ref l') { s with heap := h' }) :
    wpAny (model prog w) A (binaryOp .Mult (.ref l) (.int k u)) Q E s := by
  refine mul_list F N (N _ hm).1 (by lia) (by lia) (by simp; lia) fun h' F' N' => ?_
  have e1 : (List.foldl (fun x1 x2 => x1 ++ x2) #[] (List.replicate (if (#[x] : Array Value).isEmpty = true then 0 else ((k : Nat) : Int).toNat) #[x])) = (List.replicate k x).toArray := by
    have : (#[x] : Array Value).isEmpty = false := rfl
    rw [this, if_neg (by decide), Int.toNat_natCast, wl9]; simp
  rw [e1] at N'
  exact h _ h' F' N' fun p hp => Heap.lt_size (N p hp).1
theorem mul1 {hh9 : Heap} {gg9 : Array GenState} {dd9 : Drawn} {tt9 : Nat} {oo9 : OsState} {l : Addr} {x : Value} {k e : Nat} (F : Fr h₀ L hh9 m) (N : News h₀ L hh9 news) (hm : (l, W.listOf #[x] e) ∈ news) (hk : k ≤ 1000000)
    (h : ∀ l' h', Fr h₀ L h' m → News h₀ L h' ((l', W.listOf (List.replicate k x).toArray 0) :: news) → (∀ p ∈ news, p.1 < l') → Q (.ref l') ⟨h', gg9, dd9, tt9, oo9⟩) :
    wpAny (model prog w) A (binaryOp .Mult (.ref l) (.int k u)) Q E ⟨hh9, gg9, dd9, tt9, oo9⟩ := jn9 (s := ⟨hh9, gg9, dd9, tt9, oo9⟩) F N hm hk h
theorem jp9 {l : Addr} {its : Array Value} {e : Nat} (N : News h₀ L s.heap news) (hm : (l, W.listOf its e) ∈ news) (hk : its.size ≤ 1000000) (h : ∀ t' tk', Q (.int (its.size : Nat) t') { s with toks := tk' }) :
    wpAny (model prog w) A (call (.builtin "len") [.ref l]) Q E s := by
  refine Calls.call_len_list (l := l) (items := its) ⟨_, (N _ hm).1, rfl, _, rfl⟩ (by lia) ?_
  exact h _ _
theorem lenL {hh9 : Heap} {gg9 : Array GenState} {dd9 : Drawn} {tt9 : Nat} {oo9 : OsState} {l : Addr} {its : Array Value} {e : Nat} (N : News h₀ L hh9 news) (hm : (l, W.listOf its e) ∈ news) (hk : its.size ≤ 1000000) (h : ∀ t' tk', Q (.int (its.size : Nat) t') ⟨hh9, gg9, dd9, tk', oo9⟩) :
    wpAny (model prog w) A (call (.builtin "len") [.ref l]) Q E ⟨hh9, gg9, dd9, tt9, oo9⟩ := jp9 (s := ⟨hh9, gg9, dd9, tt9, oo9⟩) N hm hk h
theorem jj9 {D : Addr} {its : Array Value} {e : Nat} {news' : List (Addr × Obj)} {i : Nat} {v : Value} {Q : Unit → Shared → Prop} (F : Fr h₀ L s.heap m) (N : News h₀ L s.heap news) (U : Upd D (W.listOf its e) (W.listOf (its.setIfInBounds i v) e) news news') (hi : i < its.size) (hz : its.size ≤ 1000000)
    (h : ∀ h', Fr h₀ L h' m → News h₀ L h' news' → Q () { s with heap := h' }) : wpAny (model prog w) A (setItem (.ref D) (.int (i : Nat) t) v) Q E s := by
  obtain ⟨pre, post, rfl, rfl, a, b⟩ := U.split
  have z := N (D, W.listOf its e) (List.mem_append.mpr (.inr (.head _)))
  refine ki_setAt z.1 (by lia) (by lia) (by lia) (h _ (F.change (Heap.SameBut.update ..) z.2.1 z.2.2) (ki_turn _ N a b (by rw [Int.toNat_natCast]) ?_))
  simp
theorem setL {hh9 : Heap} {gg9 : Array GenState} {dd9 : Drawn} {tt9 : Nat} {oo9 : OsState} {D : Addr} {its : Array Value} {e : Nat} {news' : List (Addr × Obj)} {i : Nat} {v : Value} {Q : Unit → Shared → Prop} (F : Fr h₀ L hh9 m) (N : News h₀ L hh9 news) (U : Upd D (W.listOf its e) (W.listOf (its.setIfInBounds i v) e) news news') (hi : i < its.size) (hz : its.size ≤ 1000000)
    (h : ∀ h', Fr h₀ L h' m → News h₀ L h' news' → Q () ⟨h', gg9, dd9, tt9, oo9⟩) : wpAny (model prog w) A (setItem (.ref D) (.int (i : Nat) t) v) Q E ⟨hh9, gg9, dd9, tt9, oo9⟩ := jj9 (s := ⟨hh9, gg9, dd9, tt9, oo9⟩) F N U hi hz h
end
end
section
noncomputable def dig (n : Nat) : Nat → Int → List Int
  | 0, _ => []
  | k + 1, x => x % 2 ^ n :: dig n k (x / 2 ^ n)
theorem gp9 (n : Nat) (x : Int) : dig n 0 x = [] := rfl
theorem bw9 (n k : Nat) (x : Int) : dig n (k + 1) x = x % 2 ^ n :: dig n k (x / 2 ^ n) := rfl
theorem tw9 (n k : Nat) (x : Int) : (dig n k x).length = k := by
  induction k generalizing x with
  | zero => rfl
  | succ k ih => exact congrArg Nat.succ (ih _)
theorem bt9 (x : Int) (a b : Nat) : x / 2 ^ a / 2 ^ b = x / 2 ^ (a + b) := by
  rw [Int.pow_add, Int.ediv_ediv_of_nonneg (Int.le_of_lt (zj9 a))]
theorem uN9 (x : Int) (a b : Nat) : x % 2 ^ (a + b) % 2 ^ a = x % 2 ^ a := by
  rw [Int.pow_add]
  exact Int.emod_emod_of_dvd _ ⟨2 ^ b, rfl⟩
theorem bO9 {x P R : Int} (hP : 0 < P) (hR : 0 < R) : x % (P * R) / P = x / P % R := by
  have h1 := Int.mul_ediv_add_emod x P
  have h2 := Int.mul_ediv_add_emod (x / P) R
  have u0 := Int.emod_nonneg x (b := P) (Int.ne_of_gt hP)
  have u1 := Int.emod_lt_of_pos x hP
  have v0 := Int.emod_nonneg (x / P) (b := R) (Int.ne_of_gt hR)
  have v1 := Int.emod_lt_of_pos (x / P) hR
  generalize x % P = u at *
  generalize x / P % R = v at *
  generalize x / P / R = q2 at *
  generalize x / P = q at *
  have hx : q2 * (P * R) + (v * P + u) = x := by rw [← h1, ← h2]; grind
  have hlt : v * P + u < P * R := by
    have h3 : (v + 1) * P ≤ R * P := Int.mul_le_mul_of_nonneg_right (Int.add_one_le_of_lt v1) (Int.le_of_lt hP)
    rw [Int.add_mul, Int.one_mul, Int.mul_comm R] at h3
    exact Int.lt_of_lt_of_le (Int.add_lt_add_left u1 _) h3
  have hpos : 0 < P * R := Int.mul_pos hP hR
  have e1 := (xk9 hx (by have := Int.mul_nonneg v0 (Int.le_of_lt hP); lia) hlt).2
  rw [xE9 hpos] at e1
  rw [e1]
  have e2 := (xk9 (a := v * P + u) (b := P) rfl u0 u1).1
  rw [zO9 hP] at e2
  exact e2
theorem un9 (x : Int) (a b : Nat) : x % 2 ^ (a + b) / 2 ^ a = x / 2 ^ a % 2 ^ b := by
  rw [Int.pow_add]
  exact bO9 (zj9 a) (zj9 b)
theorem yF9 (n : Nat) : ∀ i j x, dig n (i + j) x = dig n i (x % 2 ^ (i * n)) ++ dig n j (x / 2 ^ (i * n))
  | 0, j, x => by simp [gp9]
  | i + 1, j, x => by
    have e1 : x % 2 ^ ((i + 1) * n) % 2 ^ n = x % 2 ^ n := by
      rw [show (i + 1) * n = n + i * n by rw [Nat.succ_mul, Nat.add_comm], uN9]
    have e2 : x % 2 ^ ((i + 1) * n) / 2 ^ n = x / 2 ^ n % 2 ^ (i * n) := by
      rw [show (i + 1) * n = n + i * n by rw [Nat.succ_mul, Nat.add_comm], un9]
    have e3 : x / 2 ^ ((i + 1) * n) = x / 2 ^ n / 2 ^ (i * n) := by
      rw [bt9, show (i + 1) * n = n + i * n by rw [Nat.succ_mul, Nat.add_comm]]
    rw [show i + 1 + j = (i + j) + 1 by lia, bw9, bw9, yF9 n i j, e1, e2, e3]
    rfl
theorem uB9 (x s : Nat) : x &&& (x / 2 ^ s * 2 ^ s) = x / 2 ^ s * 2 ^ s := by
  apply Nat.eq_of_testBit_eq
  intro i
  rw [Nat.testBit_and, Nat.testBit_mul_two_pow, Nat.testBit_div_two_pow]
  by_cases h : s ≤ i
  · have : i - s + s = i := Nat.sub_add_cancel h
    simp [h, this]
  · simp [h]
theorem ng9 {x : Int} (hx : 0 ≤ x) (s : Nat) : Builtin.bitXor x (x / 2 ^ s * 2 ^ s) = x % 2 ^ s := by
  have hp := zj9 s
  have h0 : 0 ≤ x / 2 ^ s * 2 ^ s := Int.mul_nonneg (Int.ediv_nonneg hx (by lia)) (by lia)
  rw [bitXor_and, nI9 hx h0]
  obtain ⟨y, rfl⟩ := Int.eq_ofNat_of_zero_le hx
  have e : ((y : Int) / 2 ^ s * 2 ^ s) = ((y / 2 ^ s * 2 ^ s : Nat) : Int) := by push_cast; rfl
  rw [e, Int.toNat_natCast, Int.toNat_natCast, uB9, ← e]
  have := Int.mul_ediv_add_emod (y : Int) (2 ^ s)
  rw [Int.mul_comm] at this
  lia
end
section
noncomputable def und (n : Nat) : List Int → Int
  | [] => 0
  | d :: r => d + und n r * 2 ^ n
theorem cB9 (n : Nat) : und n [] = 0 := rfl
theorem yK9 (n : Nat) (d : Int) (r : List Int) : und n (d :: r) = d + und n r * 2 ^ n := rfl
theorem vw9 (n : Nat) : ∀ (a b : List Int), und n (a ++ b) = und n b * 2 ^ (a.length * n) + und n a
  | [], b => by simp [cB9]
  | d :: a, b => by
    rw [List.cons_append, yK9, vw9 n a b, yK9, List.length_cons, Nat.succ_mul, Int.pow_add]
    grind
theorem vv9 (n : Nat) : ∀ (a : List Int), (∀ d ∈ a, 0 ≤ d ∧ d < 2 ^ n) → 0 ≤ und n a ∧ und n a < 2 ^ (a.length * n)
  | [], _ => by simp [cB9]
  | d :: a, h => by
    have ih := vv9 n a fun x hx => h x (.tail _ hx)
    have hd := h d (.head _)
    have hp := zj9 n
    rw [yK9, List.length_cons, Nat.succ_mul, Int.pow_add]
    have h1 := Int.mul_nonneg ih.1 (Int.le_of_lt hp)
    refine ⟨Int.add_nonneg hd.1 h1, ?_⟩
    rw [Int.add_comm]
    exact yt9 hp ih.2 hd.2
theorem cd9 (n : Nat) : ∀ (k : Nat) (x : Int), 0 ≤ x → x < 2 ^ (k * n) → und n (dig n k x) = x
  | 0, x, h0, h1 => by simp [gp9, cB9] at *; lia
  | k + 1, x, h0, h1 => by
    have hp := zj9 n
    have h2 : x / 2 ^ n < 2 ^ (k * n) := Int.ediv_lt_of_lt_mul hp (by rw [← Int.pow_add, ← Nat.succ_mul]; exact h1)
    rw [bw9, yK9, cd9 n k _ (Int.ediv_nonneg h0 (by lia)) h2]
    have := Int.mul_ediv_add_emod x (2 ^ n)
    rw [Int.mul_comm] at this
    lia
end
section
local macro_rules | `(tactic| k_steps) => `(tactic| k_extra "m_k_steps")
local macro_rules | `(tactic| k_ne) => `(tactic| k_extra "m_k_ne")
local macro_rules | `(tactic| walk_at $s:str) => `(tactic| k_extra $s)
section
theorem ln0 : True := by
  k_with_none
  (k_with "ne9" => repeat' (first | refine nep ?_ ?_ | exact neWd | exact xf9 | exact xh9 | exact xg9 | exact qM9 | exact qN9 | exact inferInstance))
  (k_with "ite" => first | with_reducible refine ite_tt ?_ | with_reducible refine ite_ff ?_ | (k_closed; first | refine ite_pos (by k_dflt decide) ?_ | refine ite_neg (by k_dflt decide) ?_))
  (k_with "eval Name" => (k_here; first | (refine' nmC ?_ ?_ ?_ ?_ ?_ ?_ ?_ ?_; rotate_right 8; (· k_dflt k_asm); (· k_dflt (exact rfl)); (· k_dflt k_mem); (· k_dflt (first | with_reducible assumption | exact rfl)); (· kernel_rfl); (· kernel_rfl!); (· kernel_rfl)) | (refine' nmK ?_ ?_ ?_ ?_ ?_ ?_ ?_ ?_; rotate_right 8; (iterate 3 (· k_dflt k_asm)); (· k_dflt k_is); iterate 3 (· kernel_rfl)) | (refine' nmB ?_ ?_ ?_ ?_ ?_ ?_ ?_ ?_ ?_ ?_; rotate_right 10; (iterate 3 (· k_dflt k_asm)); (· k_dflt k_is); (· k_dflt boot_fast); (· decide); iterate 3 (· kernel_rfl))))
  (k_with "exec Assign cons ListComp" => k_extra "exec Assign")
  (k_with "exec If" => refine wpAny_If ?_)
  (k_with "isTrue Compare" => refine wpAny_isTrue_Compare1 ?_)
  (k_with "exec Assign" => with_reducible refine wpAny_Assign_Name ?_ (by k_dflt rfl))
  (k_with "execs cons Assign cons" => k_extra "execs cons")
  (k_with "eval Call Attribute" => with_reducible refine MethodCall_ ?_ (by k_dflt rfl))
  (k_with "exec Expr" => with_reducible refine wpAny_Expr_any ?_ (by k_dflt rfl) (by k_dflt rfl))
  (k_with "isTrue" => with_reducible refine isTrue_plain ?_ (by k_dflt rfl))
  (k_with "eval Call Name" => k_extra "eval Call")
  (k_with "eval Call" => with_reducible refine Call_ ?_ (by k_dflt rfl))
  (k_with "spliced" => with_reducible refine args_cons ?_ (by k_dflt rfl))
  (k_with "callWith" => with_reducible (first | refine cwB1 ?_ (by k_dflt rfl) | refine callWith_method1 ?_ (by k_dflt rfl) (by k_dflt rfl)))
  (k_with "newList" => (k_here; refine newList_K (by k_dflt k_asm) (by k_dflt k_asm) ?_ (by k_dflt (exact Nat.le_of_ble_eq_true rfl)); intro _ _ _ _ l1; (try k_lt l1); (revert l1; intro _); (try k_sweep)))
  (k_with "z" => (with_reducible refine hG9 ?_; clear hG9 G9))
  (k_with "y" => (with_reducible refine zh9 fun G9 hG9 => ?_))
  (k_with "w" => (have h3 := @id (zM9 = ⟨_, [_, _, _, _, _, _, _, _, _, _, _, _, _, _, _, _, _, _, _, _, _, _, _, _, _, _, _, _, _, _, _, _, _, _, _, _, _], _, _, _⟩) rfl; rw [h3] at hsc; subst hsc; clear h3))
  (k_with "v" => (refine' let M9 : Model := _; let A9 : Around := _; let e9 : Env := _; (?_ : wpAny M9 A9 (execs _ e9) _ _ _)))
  (k_with "u" => (try (with_reducible refine' (?_ : wpAny M9 A9 _ _ _ _))))
  (k_with "m_k_steps" => repeat' (first | ((fail_if_success (fail_if_success k_unfold)); (first | (with_reducible refine' (?_ : wpAny _ _ _ _ _ _)) | k_unfold); (try dsimp only)) | (k_end; wrow_close) | walk1 | (dsimp only; walk1) | (leave1; walk_say "STEP leave1"; try dsimp only) | fail "no step"))
  (k_with "m_k_ne" => (refine neN ?_; (try dsimp only); lia))
  (k_with "storeName" => (k_here; (refine' (let m9' : Str → Option Value := fun y => if y = (_ : Str) then some (_ : Value) else (_ : Str → Option Value) y; stG m9' rfl ?_ ?_ (by k_dflt rfl) (by k_dflt rfl) ?_); (· k_dflt k_asm); (· k_dflt k_asm)); (revert m9'; intro _); intro _ _ _; (try k_sweep)))
  (k_with "execs cons" => (k_here; first | k_fold | dsimp only | ((fail_if_success (fail_if_success k_gentoks)); refine genT ?_; intro _) | ((with_reducible refine wpAny_execs_cons ?_); (refine' (?_ : let q9 : Flow → Shared → Prop := _; wpAny _ _ _ q9 _ _); intro _))))
  (k_with "eval BinOp" => (k_here; (fail_if_success (fail_if_success k_fold)); (refine' (?_ : let q9 : Value → Shared → Prop := _; wpAny _ _ _ q9 _ _); intro _)))
  (k_with "eval Call" => (k_here; (fail_if_success (fail_if_success k_fold)); (refine' (?_ : let q9 : Value → Shared → Prop := _; wpAny _ _ _ q9 _ _); intro _)))
  (k_with "eval Name" => (k_here; (refine' nmF ?_ ?_ ?_ ?_ ?_ ?_; rotate_right 6; (· k_dflt k_asm); (· k_dflt (exact rfl)); iterate 3 (· kernel_rfl))))
  (k_with "eval Constant int" => refine cI ?_)
  (k_with "eval Constant str" => refine cS ?_)
  (k_with "binaryOp Add int int" => refine addF ?_)
  (k_with "binaryOp Sub int int" => refine subF ?_)
  (k_with "m_enter" => ((case k6 => k_is); (case k7 => k_is); (case k9 => exact rfl); (case kB => exact locs rfl); (case c5 => decide); (case c2 => exact rfl); (case c3 => exact rfl); (case c4 => exact rfl)))
  (k_with "exec For Name Call cons nil" => (k_here; (rename Fr _ _ _ _ => lF'); (with_unfolding_all refine' For_invVF lF' ?_ ?_ ?_; rotate_right 3; (· (exact rfl)); (· (exact rfl)))))
  (k_with "call builtin:list.append" => (k_here; (with_reducible show wpAny _ _ (call (Value.builtin _) [Value.ref _, _]) _ _ _); k_dflt (refine' append_K ?_ ?_ ?_ ?_ ?_; rotate_right 5; (· k_asm); (· k_asm); (· k_upd); rotate_left; (· assumption)); intro _ _ _; (try k_sweep)))
  (k_with "pyIter ref" => refine zK9 ?_)
  trivial
noncomputable def cutN (turn div : Int) : Nat → Int
  | 0 => 0
  | k + 1 => if turn ≤ cutN turn div k then cutN turn div k - turn else cutN turn div k - turn + div
noncomputable def cutL (turn div : Int) (n : Nat) : List Int := (List.range (n + 1)).map (cutN turn div)
theorem tz9 (turn div : Int) (k : Nat) : cutN turn div (k + 1) = if turn ≤ cutN turn div k then cutN turn div k - turn else cutN turn div k - turn + div := rfl
theorem vG9 (turn div : Int) (n : Nat) : (cutL turn div n).length = n + 1 := by simp [cutL]
theorem dA9 (turn div : Int) (n k : Nat) (h : k ≤ n) (d : Int) : (cutL turn div n).getD k d = cutN turn div k := by
  simp [cutL, List.getD, List.getElem?_map, List.getElem?_range (show k < n + 1 by lia)]
theorem nA9 (turn div : Int) (n : Nat) : cutL turn div (n + 1) = cutL turn div n ++ [cutN turn div (n + 1)] := by
  simp [cutL, List.range_succ]
theorem tx9 (V : Wd) (turn div : Int) (t1 t2 : Tok) :
   Spc V (.ref 132) [.int turn t1, .int div t2] 1 8 [] (fun _ => True)
     (fun h v h' => ∃ l vs n, v = .ref l ∧ h.get? l = none ∧ h'.get? l = some (W.listOf (List.toArray vs) n) ∧ IntsAre vs (cutL turn div 5)) := by
  refine' qp9 (binds := [(Str.ofString "turn", .int turn t1), (Str.ofString "divisor", .int div t2)]) ?k6 ?k7 ?k9 ?kB ?c5 ?c2 ?c3 ?c4 ?_
  walk_at "m_enter"
  intro dp un gd outer A₁ base g L' h₁ s Q hd hu _ F N B X T ret
  (try dsimp only)
  k_extra "v"
  k_extra "u"
  k_steps
  unfold zC9
  refine xP9 (n := 5) (J := fun i m nx => ∃ l vs n, ∃ m' : Str → Option Value, m = (fun y => if y = Str.ofString "cuts" then some (.ref l) else if y = Str.ofString "turn" then some (.int turn t1) else if y = Str.ofString "divisor" then some (.int div t2) else m' y) ∧ nx = [(l, W.listOf (List.toArray vs) n)] ∧ IntsAre vs (cutL turn div i)) rfl (by assumption) rfl rfl (by assumption) (by assumption) ⟨_, [.int 0 _], 0, _, zz9 rfl rfl rfl, rfl, .cons _ _ .nil⟩ ?_ ?_
  · rintro i t _ _ I oI h tk hi hne hJ9 F1 N1
    k_extra "y"
    refine ex4 hJ9 fun l vs n m' hJ9 => ?_
    refine an2 hJ9 fun e9_0 e9_1 hv => ?_
    iterate 2 clear hJ9
    subst e9_0
    subst e9_1
    k_extra "z"
    have hlen := vG9 turn div i
    have hsz : vs.toArray.size ≤ sizeLine := by rw [sizeLine_eq, List.size_toArray, hv.length, hlen]; lia
    have hne1 : @Ne Nat l I := hne _ (.head _)
    have hi0 : (0 : Int) + (i : Nat) = (i : Nat) := by lia
    rw [hi0] at F1
    k_extra "u"
    k_steps
    all_goals (
      have hg := dA9 turn div i i (Nat.le_refl _) 0
      simp only [Int.toNat_natCast, hg, decide_eq_true_eq, decide_eq_false_iff_not] at *
      rename Fr _ _ _ _ => F2
      rename News _ _ _ _ => N2
      simp only [List.push_toArray] at N2
      refine ix4 _ _ _ ([(l, _)]) (⟨rfl, F2, N2, fun p hp => by rw [List.mem_singleton.mp hp]; exact hne1, ix4 l _ _ _ (⟨zz9 rfl rfl rfl, rfl, ?_⟩)⟩)
      rw [nA9, tz9]
      refine hv.append ?_
      split <;> first | exact .cons _ _ .nil | (exfalso; lia))
  · rintro _ _ h tk hJ9 F1 N1
    k_extra "y"
    refine ex4 hJ9 fun l vs n m' hJ9 => ?_
    refine an2 hJ9 fun e9_0 e9_1 hv => ?_
    iterate 2 clear hJ9
    subst e9_0
    subst e9_1
    k_extra "z"
    k_extra "u"
    k_steps
    exact ret _ _ _ _ F1 ⟨l, vs, n, rfl, (N1 _ (.head _)).2.2, (N1 _ (.head _)).1, hv⟩
end
section
theorem ln1 : True := by
  (k_with "subscriptTail" => (k_here; (with_reducible show wpAny _ _ (subscriptTail _ _ (Value.str (PySem.Str.ofString "ab") _) (Value.bool _)) _ _ _); (with_unfolding_all refine' vV9 ?_ ?_; rotate_right 2; rotate_left; (· (with_unfolding_all rfl)))))
  (k_with "binaryOp Add str str" => (k_here; (with_reducible show wpAny _ _ (binaryOp _ (Value.str _ _) (Value.str (PySem.Str.mk #[_]) _)) _ _ _); (refine wF9 (by assumption) ?_); (intro _ _); (try dsimp only)))
  trivial
noncomputable def orb (turn div r : Int) : Nat → Int
  | 0 => r
  | k + 1 => if div ≤ orb turn div r k + turn then orb turn div r k + turn - div else orb turn div r k + turn
theorem bK9 (turn div r : Int) (k : Nat) : orb turn div r (k + 1) = if div ≤ orb turn div r k + turn then orb turn div r k + turn - div else orb turn div r k + turn := rfl
theorem wV9 {a b : Int} (h : a < 0) : a + b < b := Int.lt_of_lt_of_le (Int.add_lt_add_right h b) (Int.le_of_eq (Int.zero_add b))
theorem hL9 {o T D : Int} (hT0 : 0 ≤ T) (hT1 : T < D) (h : 0 ≤ o ∧ o < D) : 0 ≤ (if D ≤ o + T then o + T - D else o + T) ∧ (if D ≤ o + T then o + T - D else o + T) < D := by
  by_cases e : D ≤ o + T
  · rw [if_pos e]; exact ⟨Int.sub_nonneg_of_le e, Int.sub_right_lt_of_lt_add (Int.add_lt_add h.2 hT1)⟩
  · rw [if_neg e]; exact ⟨Int.add_nonneg h.1 hT0, Int.not_le.mp e⟩
theorem jL9 {c T D : Int} (hT0 : 0 ≤ T) (hT1 : T < D) (h : 0 ≤ c ∧ c < D) : 0 ≤ (if T ≤ c then c - T else c - T + D) ∧ (if T ≤ c then c - T else c - T + D) < D := by
  by_cases e : T ≤ c
  · rw [if_pos e]; exact ⟨Int.sub_nonneg_of_le e, Int.lt_of_le_of_lt (Int.sub_le_self _ hT0) h.2⟩
  · rw [if_neg e, Int.sub_eq_add_neg, Int.add_right_comm]
    refine ⟨?_, ?_⟩
    · rw [Int.add_assoc]; exact Int.add_nonneg h.1 (Int.sub_nonneg_of_le (Int.le_of_lt hT1))
    · rw [Int.add_right_comm]; exact wV9 (Int.sub_neg_of_lt (Int.not_le.mp e))
noncomputable def letN (turn div r : Int) (k : Nat) : Nat := if div ≤ orb turn div r k + turn then 98 else 97
noncomputable def xK9 (turn div r : Int) (n : Nat) : List Nat := (List.range n).map (letN turn div r)
theorem cb9 (turn div r : Int) (n : Nat) : (xK9 turn div r n).length = n := by simp [xK9]
theorem vt9 (turn div r : Int) (n : Nat) : xK9 turn div r (n + 1) = xK9 turn div r n ++ [letN turn div r n] := by
  simp [xK9, List.range_succ]
noncomputable def wordS (turn div r : Int) (n : Nat) : Str := ⟨(xK9 turn div r n).toArray⟩
theorem wz9 (turn div r : Int) (n : Nat) : (⟨((wordS turn div r n).cps.toList ++ [if decide (div ≤ orb turn div r n + turn) = true then 98 else 97]).toArray⟩ : Str) = wordS turn div r (n + 1) := by
  simp only [wordS, vt9, letN, decide_eq_true_eq]
theorem bJ9 (turn div r : Int) (n : Nat) : orb turn div r n + turn - (div * if decide (div ≤ orb turn div r n + turn) = true then (1 : Int) else 0) = orb turn div r (n + 1) := by
  rw [bK9]
  by_cases h : div ≤ orb turn div r n + turn <;> simp [h]
theorem uD9 (V : Wd) (rest turn div : Int) (n : Nat) (hn : n ≤ 16) (t1 t2 t3 t4 : Tok) :
   Spc V (.ref 139) [.int rest t1, .int turn t2, .int div t3, .int n t4] 1 8 [] (fun _ => True)
     (fun h v h' => ∃ t, v = .str (wordS turn div rest n) t) := by
  refine' qp9 (binds := [(Str.ofString "rest", .int rest t1), (Str.ofString "turn", .int turn t2), (Str.ofString "divisor", .int div t3), (Str.ofString "count", .int n t4)]) ?k6 ?k7 ?k9 ?kB ?c5 ?c2 ?c3 ?c4 ?_
  walk_at "m_enter"
  intro dp un gd outer A₁ base g L' h₁ s Q hd hu _ F N B X T ret
  (try dsimp only)
  k_extra "v"
  k_extra "u"
  k_steps
  unfold zC9
  refine xP9 (n := n) (J := fun i m nx => nx = [] ∧ ∃ ta tb, ∃ m' : Str → Option Value, m = (fun y => if y = Str.ofString "letters" then some (.str (wordS turn div rest i) ta) else if y = Str.ofString "rest" then some (.int (orb turn div rest i) tb) else if y = Str.ofString "turn" then some (.int turn t2) else if y = Str.ofString "divisor" then some (.int div t3) else m' y)) rfl (by assumption) (small_one (by lia) (by lia) (by lia) (by lia)) (by rw [rangeSize_nat]; simp) (by assumption) (by assumption) ⟨rfl, _, _, _, zq9 (by rfl) rfl rfl rfl⟩ ?_ ?_
  · rintro i t _ _ I oI h tk hi hne hJ9 F1 N1
    k_extra "y"
    refine an1 hJ9 fun e9_0 hJ9 => ?_
    refine ex3 hJ9 fun ta tb m' e9_1 => ?_
    iterate 2 clear hJ9
    subst e9_0
    subst e9_1
    k_extra "z"
    have hz : (wordS turn div rest i).length ≤ 10000 := by simp [wordS, Str.length, cb9]; lia
    k_extra "u"
    k_steps
    rename Fr _ _ _ _ => F2
    rename News _ _ _ _ => N2
    dsimp +zetaDelta only at F2
    rw [wz9, bJ9] at F2
    exact ix4 _ _ _ ([]) (⟨rfl, F2, fun p hp => N2 p (.tail _ hp), List.forall_mem_nil _, rfl, ix3 _ _ _ (zq9 rfl rfl rfl rfl)⟩)
  · rintro _ _ h tk hJ9 F1 N1
    k_extra "y"
    refine an1 hJ9 fun e9_0 hJ9 => ?_
    refine ex3 hJ9 fun ta tb m' e9_1 => ?_
    iterate 2 clear hJ9
    subst e9_0
    subst e9_1
    k_extra "z"
    k_extra "u"
    k_steps
    exact ret _ _ _ _ F1 ⟨_, rfl⟩
end
section
theorem ln2 : True := by
  (k_with "call builtin:divmod" => ((with_reducible show wpAny _ _ (call (Value.builtin _) [Value.int _ _, Value.int _ _]) _ _ _); refine divmod_N (by assumption) (by assumption) (by lia) ?_ (.inl (PyProof.noPylong_of_log2 (by assumption))); intro _ _ _))
  (k_with "call ref" => (k_here; refine zK9 ?_))
  trivial
theorem uO9 (V : Wd) (a b n : Int) (t1 t2 t3 : Tok) (hb : 0 < b) (hb9 : b.natAbs.log2 < 9000) (hn : (Builtin.Int.intBits a : Int) - n ≤ 4000) :
   Spc V (.ref 38) [.int a t1, .int b t2, .int n t3] 1 8 [] (fun _ => True)
     (New1 fun o => ∃ t t', o = tupO [.int (a.fdiv b) t, .int (a.fmod b) t']) := by
  refine' qp9 (binds := [(Str.ofString "a", .int a t1), (Str.ofString "b", .int b t2), (Str.ofString "n", .int n t3)]) ?k6 ?k7 ?k9 ?kB ?c5 ?c2 ?c3 ?c4 ?_
  walk_at "m_enter"
  intro dp un gd outer A₁ base g L' h₁ s Q hd hu _ F N B X T ret
  (try dsimp only)
  k_extra "v"
  k_extra "u"
  k_steps
  rename Fr _ _ _ _ => F2
  rename News _ _ _ _ => N2
  exact ret _ _ _ _ F2 ⟨_, _, rfl, (N2 _ (.head _)).2.2, (N2 _ (.head _)).1, _, _, rfl⟩
end
section
theorem ln3 : True := by
  (k_with "binaryOp LShift int int" => (k_here; (with_reducible refine lshift_int ?_ (by assumption) ?_); (lia)))
  (k_with "binaryOp RShift int int" => (k_here; (with_reducible refine rshift_int ?_ ?_); (lia)))
  (k_with "binaryOp Mult int int" => (k_here; (refine PyProof.Rows.mul_int ?_ (by assumption))))
  (k_with "exec While" => refine zK9 ?_)
  (k_with "exec While Compare cons nil" => refine zK9 ?_)
  trivial
noncomputable def yI9 (V : Wd) (a12 : Int) (a3 : Int) (b : Int) (b1 : Int) (b2 : Int) (N : Nat) (t1 : Tok) (t2 : Tok) (t3 : Tok) (t4 : Tok) (t5 : Tok) (t6 : Tok)  : Prop := ∀ (D0 : ∀ (a b n : Int) (t1 t2 t3 : Tok), 0 < b → b.natAbs.log2 < 9000 → (Builtin.Int.intBits a : Int) - n ≤ 4000 → Spc V (.ref 38) [.int a t1, .int b t2, .int n t3] 1 8 [] (fun _ => True) (New1 fun o => ∃ t t', o = tupO [.int (a.fdiv b) t, .int (a.fmod b) t'])) (hN : N ≤ 4000) (hb : b = b1 * 2 ^ N + b2) (hb1 : 0 < b1) (hb20 : 0 ≤ b2) (hb2 : b2 < 2 ^ N) (ha30 : 0 ≤ a3) (ha3 : a3 < 2 ^ N) (ha0 : 0 ≤ a12) (haK : a12 < 2 ^ (N + N)) (hbK : b1 < 2 ^ 8000) (hT : a12 * 2 ^ N + a3 < b * 2 ^ N),
   Spc V (.ref 45) [.int a12 t1, .int a3 t2, .int b t3, .int b1 t4, .int b2 t5, .int N t6] 2 16 [] (fun _ => True)
     (New1 fun o => ∃ t t', o = tupO [.int ((a12 * 2 ^ N + a3).fdiv b) t, .int ((a12 * 2 ^ N + a3).fmod b) t'])
@[irreducible] noncomputable def wdiv3_spec := W13 yI9
@[irreducible] noncomputable def yG9 := jw9 (C := Spc wdiv3_spec.1 (.ref 45) [.int wdiv3_spec.2.1 wdiv3_spec.2.2.2.2.2.2.2.1, .int wdiv3_spec.2.2.1 wdiv3_spec.2.2.2.2.2.2.2.2.1, .int wdiv3_spec.2.2.2.1 wdiv3_spec.2.2.2.2.2.2.2.2.2.1, .int wdiv3_spec.2.2.2.2.1 wdiv3_spec.2.2.2.2.2.2.2.2.2.2.1, .int wdiv3_spec.2.2.2.2.2.1 wdiv3_spec.2.2.2.2.2.2.2.2.2.2.2.1, .int wdiv3_spec.2.2.2.2.2.2.1 wdiv3_spec.2.2.2.2.2.2.2.2.2.2.2.2] 2 16 [] (fun _ => True)
     (New1 fun o => ∃ t t', o = tupO [.int ((wdiv3_spec.2.1 * 2 ^ wdiv3_spec.2.2.2.2.2.2.1 + wdiv3_spec.2.2.1).fdiv wdiv3_spec.2.2.2.1) t, .int ((wdiv3_spec.2.1 * 2 ^ wdiv3_spec.2.2.2.2.2.2.1 + wdiv3_spec.2.2.1).fmod wdiv3_spec.2.2.2.1) t'])) (fun h => by
    refine' qp9 (binds := [(Str.ofString "a12", .int wdiv3_spec.2.1 wdiv3_spec.2.2.2.2.2.2.2.1), (Str.ofString "a3", .int wdiv3_spec.2.2.1 wdiv3_spec.2.2.2.2.2.2.2.2.1), (Str.ofString "b", .int wdiv3_spec.2.2.2.1 wdiv3_spec.2.2.2.2.2.2.2.2.2.1), (Str.ofString "b1", .int wdiv3_spec.2.2.2.2.1 wdiv3_spec.2.2.2.2.2.2.2.2.2.2.1), (Str.ofString "b2", .int wdiv3_spec.2.2.2.2.2.1 wdiv3_spec.2.2.2.2.2.2.2.2.2.2.2.1), (Str.ofString "n", .int wdiv3_spec.2.2.2.2.2.2.1 wdiv3_spec.2.2.2.2.2.2.2.2.2.2.2.2)]) ?k6 ?k7 ?k9 ?kB ?c5 ?c2 ?c3 ?c4 h
    walk_at "m_enter"
    )
theorem wB9 : A13 yI9 wdiv3_spec := by
  intro D0 hN hb hb1 hb20 hb2 ha30 ha3 ha0 haK hbK hT
  refine' qp9 (binds := [(Str.ofString "a12", .int wdiv3_spec.2.1 wdiv3_spec.2.2.2.2.2.2.2.1), (Str.ofString "a3", .int wdiv3_spec.2.2.1 wdiv3_spec.2.2.2.2.2.2.2.2.1), (Str.ofString "b", .int wdiv3_spec.2.2.2.1 wdiv3_spec.2.2.2.2.2.2.2.2.2.1), (Str.ofString "b1", .int wdiv3_spec.2.2.2.2.1 wdiv3_spec.2.2.2.2.2.2.2.2.2.2.1), (Str.ofString "b2", .int wdiv3_spec.2.2.2.2.2.1 wdiv3_spec.2.2.2.2.2.2.2.2.2.2.2.1), (Str.ofString "n", .int wdiv3_spec.2.2.2.2.2.2.1 wdiv3_spec.2.2.2.2.2.2.2.2.2.2.2.2)]) ?k6 ?k7 ?k9 ?kB ?c5 ?c2 ?c3 ?c4 ?_
  walk_at "m_enter"
  refine H11 (c := yG9) (by unfold yG9; rfl) ?_
  intro hd hu _ F N0 B X T ret
  (try dsimp only)
  have hP := zj9 wdiv3_spec.2.2.2.2.2.2.1
  have hbp : 0 < wdiv3_spec.2.2.2.1 := by have := Int.mul_pos hb1 hP; lia
  have q1 : Builtin.Int.intBits wdiv3_spec.2.1 ≤ wdiv3_spec.2.2.2.2.2.2.1 + wdiv3_spec.2.2.2.2.2.2.1 := zT9 ha0 haK
  have q2 : Builtin.Int.intBits wdiv3_spec.2.2.2.2.1 ≤ 8000 := zT9 (by lia) hbK
  have q3 : Builtin.Int.intBits wdiv3_spec.2.2.2.2.2.1 ≤ wdiv3_spec.2.2.2.2.2.2.1 := zT9 hb20 hb2
  have q4 := qV9 q2 (wt9 wdiv3_spec.2.2.2.2.2.2.1)
  have hs0 : (Builtin.Int.intBits 1 : Int) + wdiv3_spec.2.2.2.2.2.2.1 ≤ 2 ^ 27 := by have := yb9; lia
  have hs1 : (Builtin.Int.intBits wdiv3_spec.2.2.2.2.1 : Int) + wdiv3_spec.2.2.2.2.2.2.1 ≤ 2 ^ 27 := by lia
  have hs2 : (Builtin.Int.intBits (wdiv3_spec.2.1 - wdiv3_spec.2.2.2.2.1 * 2 ^ ((wdiv3_spec.2.2.2.2.2.2.1 : Int)).toNat + wdiv3_spec.2.2.2.2.1) : Int) + wdiv3_spec.2.2.2.2.2.2.1 ≤ 2 ^ 27 := by
    have := yc9 (ws9 (qR9 q1 (show _ ≤ 20000 by lia)) (qR9 q4 (show _ ≤ 20000 by lia))) (qR9 q2 (show _ ≤ 20001 by lia))
    rw [Int.toNat_natCast]; lia
  have hm1 : IntMulOk (1 * 2 ^ ((wdiv3_spec.2.2.2.2.2.2.1 : Int)).toNat - 1) wdiv3_spec.2.2.2.2.2.1 := by
    rw [Int.toNat_natCast, Int.one_mul]
    exact xq9 (ws9 (wt9 wdiv3_spec.2.2.2.2.2.2.1) (show _ ≤ wdiv3_spec.2.2.2.2.2.2.1 + 1 from qR9 yb9 (by lia))) q3 (by lia) (by lia)
  k_steps
  rotate_left
  · unfold zC9
    have hb9 : wdiv3_spec.2.2.2.2.1.natAbs.log2 < 9000 := xr9 (qR9 q2 (by lia))
    have hbit : (Builtin.Int.intBits wdiv3_spec.2.1 : Int) - (wdiv3_spec.2.2.2.2.2.2.1 : Int) ≤ 4000 := by lia
    refine use1 (D0 wdiv3_spec.2.1 wdiv3_spec.2.2.2.2.1 wdiv3_spec.2.2.2.2.2.2.1 _ _ _ hb1 hb9 hbit) B (by k_asm) (by k_asm) X T rfl (by first | exact limD (by assumption) (by decide) | lia) (by first | exact limU (by assumption) (by decide) | exact limV (by assumption) (by decide) | lia) trivial ?_
    intro T' o h' tk' F' N' hne ⟨u, u', ho⟩
    subst ho
    dsimp only [xz9, qA9] at hne
    have hs4 : (Builtin.Int.intBits (wdiv3_spec.2.1.fmod wdiv3_spec.2.2.2.2.1) : Int) + wdiv3_spec.2.2.2.2.2.2.1 ≤ 2 ^ 27 := by exact jI9 (nG9 (x := wdiv3_spec.2.1) hb1 q2) (by assumption)
    have hm2 : IntMulOk (wdiv3_spec.2.1.fdiv wdiv3_spec.2.2.2.2.1) wdiv3_spec.2.2.2.2.2.1 := xq9 (nH9 ha0 hb1 q1) q3 (by lia) (by lia)
    (try dsimp only)
    k_steps
    have hq0 : 0 ≤ wdiv3_spec.2.1.fdiv wdiv3_spec.2.2.2.2.1 := by rw [zO9 hb1]; exact Int.ediv_nonneg ha0 (by lia)
    have hr0 : 0 ≤ wdiv3_spec.2.1.fmod wdiv3_spec.2.2.2.2.1 ∧ wdiv3_spec.2.1.fmod wdiv3_spec.2.2.2.2.1 < wdiv3_spec.2.2.2.2.1 := by rw [xE9 hb1]; exact ⟨Int.emod_nonneg _ (by lia), Int.emod_lt_of_pos _ hb1⟩
    have hqr : wdiv3_spec.2.1.fdiv wdiv3_spec.2.2.2.2.1 * wdiv3_spec.2.2.2.2.1 + wdiv3_spec.2.1.fmod wdiv3_spec.2.2.2.2.1 = wdiv3_spec.2.1 := by rw [zO9 hb1, xE9 hb1, Int.mul_comm]; exact Int.mul_ediv_add_emod wdiv3_spec.2.1 wdiv3_spec.2.2.2.2.1
    have hfin := jA9 (a12 := wdiv3_spec.2.1) (a3 := wdiv3_spec.2.2.1) (b1 := wdiv3_spec.2.2.2.2.1) (b2 := wdiv3_spec.2.2.2.2.2.1) hP hb20 ha3 hq0 hr0.2 hqr
    rename Fr _ _ _ _ => F2
    dsimp +zetaDelta only at F2
    simp only [Int.toNat_natCast] at F2
    rw [tI9 hr0.1 ha30 ha3] at F2
    rw [← hb] at hfin
    unfold zC9
    refine qZ9 (n₀ := _) (J := fun n m nx => nx = [] ∧ ∃ q r t t', ∃ m' : Str → Option Value, m = (fun y => if y = Str.ofString "q" then some (.int q t) else if y = Str.ofString "r" then some (.int r t') else if y = Str.ofString "b" then some (.int wdiv3_spec.2.2.2.1 wdiv3_spec.2.2.2.2.2.2.2.2.2.1) else m' y) ∧ q * wdiv3_spec.2.2.2.1 + r = wdiv3_spec.2.1 * 2 ^ wdiv3_spec.2.2.2.2.2.2.1 + wdiv3_spec.2.2.1 ∧ r < wdiv3_spec.2.2.2.1 ∧ n = (-r).toNat) PassesOwn.never F2 News.nil ⟨rfl, _, _, _, _, _, zz9 rfl rfl rfl, hfin.1, hfin.2, rfl⟩ ?_
    rintro n _ _ h tk hJ9 F4 N4
    k_extra "y"
    refine an1 hJ9 fun e9_0 hJ9 => ?_
    refine ex5 hJ9 fun q r t t' m' hJ9 => ?_
    refine an3 hJ9 fun e9_1 e1 e2 e9_2 => ?_
    iterate 3 clear hJ9
    subst e9_0
    subst e9_1
    subst e9_2
    k_extra "z"
    k_steps
    · rename Fr _ _ _ _ => F5
      exact ix5 _ _ _ _ _ (⟨rfl, (vx9 (by assumption) hbp), F5, News.nil, rfl, ix5 _ _ _ _ _ (⟨zz9 rfl rfl rfl, dO9 e1, (by lia), rfl⟩)⟩)
    · rename Fr _ _ _ _ => F5
      rename News _ _ _ _ => N5
      obtain ⟨d1, d2⟩ := xk9 e1 (by lia) e2
      rw [d1, d2] at ret
      exact ret _ _ _ _ F5 ⟨_, _, rfl, (N5 _ (.head _)).2.2, (N5 _ (.head _)).1, _, _, rfl⟩
  · have hdd : wdiv3_spec.2.1.fdiv (2 ^ wdiv3_spec.2.2.2.2.2.2.1) = wdiv3_spec.2.2.2.2.1 := by rename (_ = wdiv3_spec.2.2.2.2.1) => hdd; rw [Int.toNat_natCast] at hdd; exact hdd
    have h1 : wdiv3_spec.2.2.2.2.1 * 2 ^ wdiv3_spec.2.2.2.2.2.2.1 ≤ wdiv3_spec.2.1 := by rw [← hdd, zO9 hP]; exact Int.ediv_mul_le _ (by lia)
    have hfin := jB9 (a12 := wdiv3_spec.2.1) (a3 := wdiv3_spec.2.2.1) (b1 := wdiv3_spec.2.2.2.2.1) (b2 := wdiv3_spec.2.2.2.2.2.1) hP hb1 h1 (by rw [← hb]; exact hT)
    rename Fr _ _ _ _ => F2
    dsimp +zetaDelta only at F2
    simp only [Int.toNat_natCast, Int.one_mul] at F2
    rw [tI9 (by lia) ha30 ha3] at F2
    rw [← hb] at hfin
    unfold zC9
    refine qZ9 (n₀ := _) (J := fun n m nx => nx = [] ∧ ∃ q r t t', ∃ m' : Str → Option Value, m = (fun y => if y = Str.ofString "q" then some (.int q t) else if y = Str.ofString "r" then some (.int r t') else if y = Str.ofString "b" then some (.int wdiv3_spec.2.2.2.1 wdiv3_spec.2.2.2.2.2.2.2.2.2.1) else m' y) ∧ q * wdiv3_spec.2.2.2.1 + r = wdiv3_spec.2.1 * 2 ^ wdiv3_spec.2.2.2.2.2.2.1 + wdiv3_spec.2.2.1 ∧ r < wdiv3_spec.2.2.2.1 ∧ n = (-r).toNat) PassesOwn.never F2 News.nil ⟨rfl, _, _, _, _, _, zz9 rfl rfl rfl, hfin.1, hfin.2, rfl⟩ ?_
    rintro n _ _ h tk hJ9 F4 N4
    k_extra "y"
    refine an1 hJ9 fun e9_0 hJ9 => ?_
    refine ex5 hJ9 fun q r t t' m' hJ9 => ?_
    refine an3 hJ9 fun e9_1 e1 e2 e9_2 => ?_
    iterate 3 clear hJ9
    subst e9_0
    subst e9_1
    subst e9_2
    k_extra "z"
    k_steps
    · rename Fr _ _ _ _ => F5
      exact ix5 _ _ _ _ _ (⟨rfl, (vx9 (by assumption) hbp), F5, News.nil, rfl, ix5 _ _ _ _ _ (⟨zz9 rfl rfl rfl, dO9 e1, (by lia), rfl⟩)⟩)
    · rename Fr _ _ _ _ => F5
      rename News _ _ _ _ => N5
      obtain ⟨d1, d2⟩ := xk9 e1 (by lia) e2
      rw [d1, d2] at ret
      exact ret _ _ _ _ F5 ⟨_, _, rfl, (N5 _ (.head _)).2.2, (N5 _ (.head _)).1, _, _, rfl⟩
theorem ts9 (V : Wd) (D0 : ∀ (a b n : Int) (t1 t2 t3 : Tok), 0 < b → b.natAbs.log2 < 9000 → (Builtin.Int.intBits a : Int) - n ≤ 4000 → Spc V (.ref 38) [.int a t1, .int b t2, .int n t3] 1 8 [] (fun _ => True) (New1 fun o => ∃ t t', o = tupO [.int (a.fdiv b) t, .int (a.fmod b) t'])) (a12 a3 b b1 b2 : Int) (N : Nat) (t1 t2 t3 t4 t5 t6 : Tok) (hN : N ≤ 4000) (hb : b = b1 * 2 ^ N + b2) (hb1 : 0 < b1) (hb20 : 0 ≤ b2) (hb2 : b2 < 2 ^ N) (ha30 : 0 ≤ a3) (ha3 : a3 < 2 ^ N) (ha0 : 0 ≤ a12) (haK : a12 < 2 ^ (N + N)) (hbK : b1 < 2 ^ 8000) (hT : a12 * 2 ^ N + a3 < b * 2 ^ N) :
   Spc V (.ref 45) [.int a12 t1, .int a3 t2, .int b t3, .int b1 t4, .int b2 t5, .int N t6] 2 16 [] (fun _ => True)
     (New1 fun o => ∃ t t', o = tupO [.int ((a12 * 2 ^ N + a3).fdiv b) t, .int ((a12 * 2 ^ N + a3).fmod b) t']) := H13 (by unfold wdiv3_spec; rfl) @wB9 V a12 a3 b b1 b2 N t1 t2 t3 t4 t5 t6  D0 hN hb hb1 hb20 hb2 ha30 ha3 ha0 haK hbK hT
end
section
theorem ln4 : True := by
  (k_with "isTrue" => (k_here; (fail_if_success (fail_if_success k_fold)); (refine' (?_ : let q9 : Bool → Shared → Prop := _; wpAny _ _ _ q9 _ _); intro _)))
  (k_with "isTrue Compare" => (k_here; (fail_if_success (fail_if_success k_fold)); (refine' (?_ : let q9 : Bool → Shared → Prop := _; wpAny _ _ _ q9 _ _); intro _)))
  (k_with "isTrue BoolOp" => (k_here; (fail_if_success (fail_if_success k_fold)); (refine' (?_ : let q9 : Bool → Shared → Prop := _; wpAny _ _ _ q9 _ _); intro _)))
  (k_with "isTrue UnaryOp" => (k_here; (fail_if_success (fail_if_success k_fold)); (refine' (?_ : let q9 : Bool → Shared → Prop := _; wpAny _ _ _ q9 _ _); intro _)))
  (k_with "binaryOp LShift int int" => (k_here; first | (refine' vQ9 ?_ ?_ ?_ ?_; rotate_right 4; (· lia); (· assumption); (· assumption)) | (refine' lshift_int ?_ ?_ ?_; rotate_right 3; (· lia); (· assumption))))
  (k_with "inplaceOp LShift int int" => (k_here; (refine' th9 ?_ ?_ ?_ ?_; rotate_right 4; (· lia); (· assumption); (· assumption))))
  (k_with "inplaceOp RShift int int" => (k_here; (refine' td9 ?_ ?_ ?_; rotate_right 3; (· lia); (· assumption))))
  (k_with "binaryOp BitAnd int int" => (k_here; (refine' db9 ?_ ?_; rotate_right 2; (· assumption))))
  (k_with "binaryOp BitOr int int" => (k_here; (refine' hY9 ?_ ?_; rotate_right 2; (· assumption))))
  (k_with "binaryOp RShift int int" => (k_here; first | (refine' dP9 ?_ ?_ ?_; rotate_right 3; (· lia); (· assumption)) | (refine' rshift_int ?_ ?_; rotate_right 2; (· lia))))
  trivial
theorem Int.ediv_pos_of_pos_of_dvd' {a b : Int} (h : b ≤ a) (hb : 0 < b) : 0 < a / b := by
  have : 1 ≤ a / b := Int.le_ediv_of_mul_le hb (by rw [Int.one_mul]; exact h)
  exact this
theorem Spc.up {V : Wd} {f : Value} {args : List Value} {d u d' u' : Nat} {obs : List (Addr × Obj)} {pre : Heap → Prop} {post : Heap → Value → Heap → Prop} (S : Spc V f args d u obs pre post) (hd : d ≤ d') (hu : u ≤ u') : Spc V f args d' u' obs pre post := by
  intro dp un gd cn cs a ccd cl outer A₀ base h₀ L m s Q E B F X T hk h1 h2 N hp k
  exact S dp un gd cn cs a ccd cl outer A₀ base h₀ L m s Q E B F X T hk (Nat.lt_of_le_of_lt (Nat.add_le_add_left hd dp) h1) (Nat.lt_of_le_of_lt (Nat.add_le_add_left hu un) h2) N hp k
noncomputable def hD9 : Prop := True
theorem viaF {M : Model} {A : Around} {t : Sem Flow} {E : Value → Shared → Prop} {Q : Flow → Shared → Prop} {g : Heap} {L : Addr} {h9 : Heap} {g9 : Array GenState} {d9 : Drawn} {t9 : Nat} {o9 : OsState} {nx : List (Addr × Obj)} (P : (Str → Option Value) → Prop) (_N : News g L h9 nx)
    (h1 : ∀ G : Flow → Shared → Prop, (∀ h' t' m', Fr g L h' m' → News g L h' nx → P m' → G .next ⟨h', g9, d9, t', o9⟩) → wpAny M A t G E ⟨h9, g9, d9, t9, o9⟩)
    (h2 : ∀ h' t' m', Fr g L h' m' → News g L h' nx → P m' → Q .next ⟨h', g9, d9, t', o9⟩) : wpAny M A t Q E ⟨h9, g9, d9, t9, o9⟩ := h1 Q h2
theorem jC9 {a b : Int} {n : Nat} (ha : 0 ≤ a) (hb0 : 2 ^ n ≤ 2 * b) (hb1 : b < 2 ^ n) (hab : a < b * 2 ^ n) {G : Prop} (k : ∀ (h : Nat) (d aa bb : Int), (n = h + h ∧ d = 1 ∨ n + 1 = h + h ∧ d = 2) → aa = d * a → bb = d * b → 2 ^ (h + h) ≤ 2 * bb → bb < 2 ^ (h + h) → 0 ≤ aa → aa < bb * 2 ^ (h + h) → G) : G := by
  obtain ⟨h, hh | hh⟩ : ∃ h, n = 2 * h ∨ n + 1 = 2 * h := ⟨(n + 1) / 2, by lia⟩
  · have e : n = h + h := by lia
    rw [e] at hb0 hb1 hab
    exact k h 1 (1 * a) (1 * b) (.inl ⟨e, rfl⟩) rfl rfl (by rw [Int.one_mul]; exact hb0) (by rw [Int.one_mul]; exact hb1) (by rw [Int.one_mul]; exact ha) (by rw [Int.one_mul, Int.one_mul]; exact hab)
  · have e : (2 : Int) ^ (h + h) = 2 * 2 ^ n := by rw [show h + h = n + 1 by lia, Int.pow_succ, Int.mul_comm]
    refine k h 2 (2 * a) (2 * b) (.inr ⟨by lia, rfl⟩) rfl rfl (by rw [e]; lia) (by rw [e]; lia) (by lia) ?_
    rw [e]
    have e : 2 * b * (2 * 2 ^ n) = 4 * (b * 2 ^ n) := by grind
    rw [e]; lia
theorem bz9 {aa bb : Int} {h : Nat} (hh : 0 < h) (h8 : h + h ≤ 8000) (hbl : 2 ^ (h + h) ≤ 2 * bb) (hbh : bb < 2 ^ (h + h)) (haa : 0 ≤ aa) (haab : aa < bb * 2 ^ (h + h)) :
    ∀ {G : Prop} (_k : ∀ P b1 b2 A1 Ah A2 A3 : Int, P = 2 ^ h → 0 < P → 0 < bb → bb = b1 * 2 ^ h + b2 → 0 ≤ b2 → b2 < P → 0 ≤ A2 → A2 < P → 0 ≤ A3 → A3 < P → 0 < b1 → b1 < 2 ^ 8000 → 0 ≤ A1 → A1 < 2 ^ (h + h) → aa = (A1 * P + A2) * P + A3 → A1 * P + A2 < bb * P → 0 ≤ A1 * P + A2 →
      bb.fdiv (2 ^ ((h : Int)).toNat) = b1 → Builtin.bitAnd bb (P - 1) = b2 → (1 : Int) * 2 ^ ((h : Int)).toNat = P → aa.fdiv (2 ^ ((h : Int)).toNat) = Ah → Builtin.bitAnd Ah (P - 1) = A2 → Builtin.bitAnd aa (P - 1) = A3 → aa.fdiv (2 ^ (((h + h : Nat) : Int)).toNat) = A1 → ((h + h : Nat) : Int).fdiv (2 ^ Int.toNat 1) = (h : Int) → G), G := by
  have hP := zj9 h
  obtain ⟨P, eP⟩ : ∃ P : Int, P = 2 ^ h := ⟨_, rfl⟩
  have hPP : (2 : Int) ^ (h + h) = P * P := by rw [eP, Int.pow_add]
  have hbp : 0 < bb := by have := zj9 (h + h); lia
  have hPb : P ≤ bb := by
    have h2 : P * 2 ≤ P * P := Int.mul_le_mul_of_nonneg_left (by rw [eP]; have : (2 : Int) ^ 1 ≤ 2 ^ h := tf9 hh; simpa using this) (by lia)
    rw [hPP] at hbl; lia
  have hPpos : 0 < P := by rw [eP]; exact hP
  have hPP0 : 0 < P * P := Int.mul_pos hPpos hPpos
  have hA1b : aa / (P * P) < bb := Int.ediv_lt_of_lt_mul hPP0 (by rw [← hPP]; exact haab)
  have hA1n : 0 ≤ aa / (P * P) := Int.ediv_nonneg haa (Int.le_of_lt hPP0)
  have hA2 : 0 ≤ aa / P % P ∧ aa / P % P < P := ⟨Int.emod_nonneg _ (Int.ne_of_gt hPpos), Int.emod_lt_of_pos _ hPpos⟩
  intro G k
  refine k P (bb / P) (bb % P) (aa / (P * P)) (aa / P) (aa / P % P) (aa % P) eP hPpos hbp ?_ (Int.emod_nonneg _ (Int.ne_of_gt hPpos)) (Int.emod_lt_of_pos _ hPpos) hA2.1 hA2.2 (Int.emod_nonneg _ (Int.ne_of_gt hPpos)) (Int.emod_lt_of_pos _ hPpos)
    (Int.ediv_pos_of_pos_of_dvd' hPb hPpos) ?_ hA1n (Int.lt_trans hA1b hbh) ?_ (yt9 hPpos hA1b hA2.2) (Int.add_nonneg (Int.mul_nonneg hA1n (Int.le_of_lt hPpos)) hA2.1) ?_ ?_ ?_ ?_ ?_ ?_ ?_ ?_
  · rw [← eP, Int.mul_comm]; exact (Int.mul_ediv_add_emod bb P).symm
  · have h1 : bb / P ≤ bb := Int.ediv_le_self _ (Int.le_of_lt hbp)
    have h2 : (2 : Int) ^ (h + h) ≤ 2 ^ 8000 := tf9 h8
    exact Int.lt_of_lt_of_le (Int.lt_of_le_of_lt h1 hbh) h2
  · have := tO9 aa h
    rw [hPP, ← eP] at this
    exact this
  · rw [Int.toNat_natCast, zO9 hP, ← eP]
  · rw [eP, yd9, ← eP]
  · rw [Int.toNat_natCast, Int.one_mul, eP]
  · rw [Int.toNat_natCast, zO9 hP, ← eP]
  · rw [eP, yd9, ← eP]
  · rw [eP, yd9, ← eP]
  · rw [Int.toNat_natCast, zO9 (zj9 _), hPP]
  · rw [zO9 (by decide)]; show ((h + h : Nat) : Int) / 2 = _; rw [Int.natCast_add, ← Int.two_mul]; exact Int.mul_ediv_cancel_left _ (by decide)
theorem jD9 {a b d aa bb q r2 : Int} (hd : d = 1 ∨ d = 2) (ea : aa = d * a) (eb : bb = d * b) (hf : q * bb + r2 = aa) (h0 : 0 ≤ r2) (h1 : r2 < bb) {G : Prop} (k : ∀ rr, r2 = d * rr → a.fdiv b = q → a.fmod b = rr → G) : G := by
  rcases hd with rfl | rfl
  · rw [Int.one_mul] at ea eb
    subst ea eb
    obtain ⟨e1, e2⟩ := xk9 hf h0 h1
    exact k r2 (Int.one_mul _).symm e1 e2
  · subst ea eb
    have e3 : q * (2 * b) = 2 * (q * b) := by grind
    rw [e3] at hf
    obtain ⟨e1, e2⟩ := xk9 (a := a) (b := b) (q := q) (r := a - q * b) (by lia) (by lia) (by lia)
    exact k (a - q * b) (by lia) e1 e2
theorem ln5 : True := by
  (k_with "exec If Name cons nil" => (k_here; (have hstop_ : hD9 := by with_reducible assumption); clear hstop_; refine zK9 ?_))
  (k_with "exec If Name" => (k_here; (have hstop_ : hD9 := by with_reducible assumption); clear hstop_; refine zK9 ?_))
  trivial
theorem tv9 (V : Wd)
    (D0 : ∀ (a b n : Int) (t1 t2 t3 : Tok), 0 < b → b.natAbs.log2 < 9000 → (Builtin.Int.intBits a : Int) - n ≤ 4000 → Spc V (.ref 38) [.int a t1, .int b t2, .int n t3] 1 8 [] (fun _ => True) (New1 fun o => ∃ t t', o = tupO [.int (a.fdiv b) t, .int (a.fmod b) t']))
    (D3 : ∀ (a12 a3 b b1 b2 : Int) (N : Nat) (t1 t2 t3 t4 t5 t6 : Tok), N ≤ 4000 → b = b1 * 2 ^ N + b2 → 0 < b1 → 0 ≤ b2 → b2 < 2 ^ N → 0 ≤ a3 → a3 < 2 ^ N → 0 ≤ a12 → a12 < 2 ^ (N + N) → b1 < 2 ^ 8000 → a12 * 2 ^ N + a3 < b * 2 ^ N →
      Spc V (.ref 45) [.int a12 t1, .int a3 t2, .int b t3, .int b1 t4, .int b2 t5, .int N t6] 2 16 [] (fun _ => True) (New1 fun o => ∃ t t', o = tupO [.int ((a12 * 2 ^ N + a3).fdiv b) t, .int ((a12 * 2 ^ N + a3).fmod b) t']))
    (a b : Int) (n : Nat) (t1 t2 t3 : Tok) (ha : 0 ≤ a) (hb0 : 2 ^ n ≤ 2 * b) (hb1 : b < 2 ^ n) (hab : a < b * 2 ^ n) (hn : n ≤ 7900) :
   Spc V (.ref 38) [.int a t1, .int b t2, .int n t3] 3 24 [] (fun _ => True)
     (New1 fun o => ∃ t t', o = tupO [.int (a.fdiv b) t, .int (a.fmod b) t']) := by
  have hp := zj9 n
  have hbpos : 0 < b := by lia
  by_cases hsmall : (Builtin.Int.intBits a : Int) - (n : Int) ≤ 4000
  · have hb9 : b.natAbs.log2 < 9000 := xr9 (qR9 (zT9 (by lia) hb1) (by lia))
    exact (D0 a b n t1 t2 t3 hbpos hb9 hsmall).up (by lia) (by lia)
  have hn4 : 4000 < n := by
    have h1 : a < 2 ^ (n + n) := by
      rw [Int.pow_add]
      exact Int.lt_trans hab (Int.mul_lt_mul_of_pos_right hb1 hp)
    have := zT9 ha h1
    lia
  have hbits : (Builtin.Int.intBits a : Int) ≤ 20000 := by
    have h1 : a < 2 ^ (n + n) := by
      rw [Int.pow_add]
      exact Int.lt_trans hab (Int.mul_lt_mul_of_pos_right hb1 hp)
    have := zT9 ha h1
    lia
  have hbits2 : (Builtin.Int.intBits b : Int) ≤ 20000 := by have := zT9 (by lia) hb1; lia
  refine' qp9 (binds := [(Str.ofString "a", .int a t1), (Str.ofString "b", .int b t2), (Str.ofString "n", .int n t3)]) ?k6 ?k7 ?k9 ?kB ?c5 ?c2 ?c3 ?c4 ?_
  walk_at "m_enter"
  intro dp un gd outer A₁ base g L' h₁ s Q hd hu _ F N0 B X T ret
  (try dsimp only)
  k_extra "v"
  refine jC9 ha hb0 hb1 hab fun h d aa bb hd12 eaa ebb hbl hbh haa haab => ?_
  have hdd : d = 1 ∨ d = 2 := hd12.imp And.right And.right
  have hh1 : 2000 ≤ h := by lia
  have hh2 : h ≤ 3951 := by lia
  refine bz9 (by lia) (by lia) hbl hbh haa haab fun P b1 b2 A1 Ah A2 A3 eP hPpos hbp hbb hb20 hb21 hA20 hA21 hA30 hA31 hb1p hb1K hA1n hA1K hparts hT1 hT1n m1 m2 m3 m4 m5 m6 m7 hhalf => ?_
  have hs0 : (Builtin.Int.intBits 1 : Int) + (h : Int) ≤ 2 ^ 27 := by have := yb9; lia
  obtain ⟨pd, hpad⟩ : ∃ pd, Builtin.bitAnd (n : Int) 1 = pd := ⟨_, rfl⟩
  have hstop : hD9 := trivial
  k_extra "u"
  k_steps
  unfold zC9
  refine viaF (g := g) (L := L') (fun m => ∃ (ta t2 tn tp : Tok) (m0 : Str → Option Value), m = fun y => if y = Str.ofString "a" then some (.int aa ta) else if y = Str.ofString "b" then some (.int bb t2) else if y = Str.ofString "n" then some (.int ((h + h : Nat) : Int) tn) else if y = Str.ofString "pad" then some (.int (d - 1) tp) else m0 y) (by k_asm) ?v1 ?k1
  case v1 =>
    clear hstop
    intro G hG
    rcases hd12 with ⟨hn1, hd1⟩ | ⟨hn1, hd1⟩
    · have hp0 : pd = 0 := by rw [← hpad, bitAnd_m1]; lia
      clear hpad
      subst hp0
      k_extra "u"
      k_steps
      rename Fr _ _ _ _ => F5
      rename News _ _ _ _ => N5
      rw [hd1, Int.one_mul] at eaa ebb
      subst eaa ebb hn1 hd1
      exact hG _ _ _ F5 N5 (ix5 _ _ _ _ _ (zq9 rfl rfl rfl rfl))
    · have hp0 : pd = 1 := by rw [← hpad, bitAnd_m1]; lia
      clear hpad
      subst hp0
      rw [hd1] at eaa ebb
      have la : a * 2 ^ Int.toNat 1 = aa := by rw [eaa, dN9, Int.mul_comm]; rfl
      have lb : b * 2 ^ Int.toNat 1 = bb := by rw [ebb, dN9, Int.mul_comm]; rfl
      have la2 : (Builtin.Int.intBits a : Int) + 1 ≤ 2 ^ 27 := by lia
      have lb2 : (Builtin.Int.intBits b : Int) + 1 ≤ 2 ^ 27 := by lia
      k_extra "u"
      k_steps
      rename Fr _ _ _ _ => F5
      rename News _ _ _ _ => N5
      have hn2 : (n : Int) + 1 = ((h + h : Nat) : Int) := by lia
      have hd2 : (1 : Int) = d - 1 := by lia
      clear eaa ebb la lb la2 lb2
      exact hG _ _ _ F5 N5 (ix5 _ _ _ _ _ (zq9 rfl rfl (congrArg (fun z => some (Value.int z _)) hn2) (congrArg (fun z => some (Value.int z _)) hd2)))
  case k1 =>
    intro h6 tk6 m6 F6 N6 hm6
    refine ex5 hm6 fun ta t2' tn tp m0 e6 => ?_
    clear hm6
    subst e6
    (try dsimp only)
    k_extra "u"
    k_steps
    unfold zC9
    refine use1 (D3 A1 A2 bb b1 b2 h _ _ _ _ _ _ (by lia) hbb hb1p hb20 (by rw [← eP]; exact hb21) hA20 (by rw [← eP]; exact hA21) hA1n hA1K hb1K (by rw [← eP]; exact hT1)) B (by k_asm) (by k_asm) X T rfl (by first | exact limD (by assumption) (by decide) | lia) (by first | exact limU (by assumption) (by decide) | exact limV (by assumption) (by decide) | lia) trivial ?_
    intro T1 o1 h1' tk1' F1 N1 hne1 ⟨u1, u1', ho1⟩
    rw [← eP] at ho1
    have hd1 := xv9 (A1 * P + A2) hbp
    have hq1 := qF9 hbp hT1n hT1
    revert ho1 hd1 hq1
    induction ((A1 * P + A2).fdiv bb) using gen1
    rename_i q1; intro ho1 hd1 hq1
    revert ho1 hd1
    induction ((A1 * P + A2).fmod bb) using gen1
    rename_i r1; intro ho1 hd1
    subst ho1
    dsimp only [xz9, qA9] at hne1
    have hT2 : r1 * P + A3 < bb * P := yt9 hPpos hd1.2.2 hA31
    have hT2n : 0 ≤ r1 * P + A3 := by have := Int.mul_nonneg hd1.2.1 (Int.le_of_lt hPpos); lia
    (try dsimp only)
    k_extra "u"
    k_steps
    unfold zC9
    refine use1 (D3 r1 A3 bb b1 b2 h _ _ _ _ _ _ (by lia) hbb hb1p hb20 (by rw [← eP]; exact hb21) hA30 (by rw [← eP]; exact hA31) hd1.2.1 (Int.lt_trans hd1.2.2 hbh) hb1K (by rw [← eP]; exact hT2)) B (by k_asm) (by k_asm) X T rfl (by first | exact limD (by assumption) (by decide) | lia) (by first | exact limU (by assumption) (by decide) | exact limV (by assumption) (by decide) | lia) trivial ?_
    intro T2 o2 h2' tk2' F2 N2 hne2 ⟨u2, u2', ho2⟩
    rw [← eP] at ho2
    have hd2 := xv9 (r1 * P + A3) hbp
    have hq2 := qF9 hbp hT2n hT2
    revert ho2 hd2 hq2
    induction ((r1 * P + A3).fdiv bb) using gen1
    rename_i q2; intro ho2 hd2 hq2
    revert ho2 hd2
    induction ((r1 * P + A3).fmod bb) using gen1
    rename_i r2; intro ho2 hd2
    subst ho2
    dsimp only [xz9, qA9] at hne2
    have hfin := gq9 hparts hd1.1 hd2.1
    have w1 : q1 * 2 ^ ((h : Int)).toNat = q1 * P := by rw [Int.toNat_natCast, eP]
    have w2 : Builtin.bitOr (q1 * P) q2 = q1 * P + q2 := by rw [eP]; exact tI9 hq1.1 hq2.1 (by rw [← eP]; exact hq2.2)
    have w3 : (Builtin.Int.intBits q1 : Int) + (h : Int) ≤ 2 ^ 27 := by have := zT9 (k := h) hq1.1 (by rw [← eP]; exact hq1.2); lia
    refine jD9 hdd eaa ebb hfin hd2.2.1 hd2.2.2 fun rr e2r hq hr => ?_
    rw [hq, hr] at ret
    (try dsimp only)
    k_extra "u"
    k_steps
    unfold zC9
    rename Fr _ _ _ _ => F7
    rename News _ _ _ _ => N7
    refine viaF (g := g) (L := L') (fun m => ∃ (tr t1 t2 t3 : Tok) (m0 : Str → Option Value), m = fun y => if y = Str.ofString "r" then some (.int rr tr) else if y = Str.ofString "q1" then some (.int q1 t1) else if y = Str.ofString "q2" then some (.int q2 t2) else if y = Str.ofString "half_n" then some (.int (h : Int) t3) else m0 y) N7 ?v2 ?k2
    case v2 =>
      clear hstop
      intro G hG
      rcases hdd with hd1 | hd1
      · dsimp +zetaDelta only at F7
        rw [hd1] at F7
        rw [hd1, Int.one_mul] at e2r
        k_extra "u"
        k_steps
        subst e2r
        rename Fr _ _ _ _ => F5
        rename News _ _ _ _ => N5
        exact hG _ _ _ F5 N5 (ix5 _ _ _ _ _ (zq9 rfl rfl rfl rfl))
      · dsimp +zetaDelta only at F7
        rw [hd1] at F7
        rw [hd1] at e2r
        have w4 : r2.fdiv (2 ^ Int.toNat 1) = rr := by rw [zO9 (by decide)]; show r2 / 2 = _; rw [(by assumption : r2 = 2 * rr)]; exact Int.mul_ediv_cancel_left rr (by decide)
        clear e2r
        k_extra "u"
        k_steps
        rename Fr _ _ _ _ => F5
        rename News _ _ _ _ => N5
        exact hG _ _ _ F5 N5 (ix5 _ _ _ _ _ (zq9 rfl rfl rfl rfl))
    case k2 =>
      clear F7 N7
      intro h8 tk8 m8 F8 N8 hm8
      refine ex5 hm8 fun tr t1' t2'' t3' m0' e8 => ?_
      clear hm8
      subst e8
      (try dsimp only)
      k_extra "u"
      k_steps
      rename Fr _ _ _ _ => F9
      rename News _ _ _ _ => N9
      exact ret _ _ _ _ F9 ⟨_, _, rfl, (N9 _ (.head _)).2.2, (N9 _ (.head _)).1, _, _, rfl⟩
end
section
theorem ln6 : True := by
  k_with_none
  (k_with "ne9" => repeat' (first | refine nep ?_ ?_ | exact neWd | exact xf9 | exact xh9 | exact xg9 | exact qM9 | exact qN9 | exact inferInstance))
  (k_with "ite" => first | with_reducible refine ite_tt ?_ | with_reducible refine ite_ff ?_ | (k_closed; first | refine ite_pos (by k_dflt decide) ?_ | refine ite_neg (by k_dflt decide) ?_))
  (k_with "eval Name" => (k_here; first | (refine' nmC ?_ ?_ ?_ ?_ ?_ ?_ ?_ ?_; rotate_right 8; (· k_dflt k_asm); (· k_dflt (exact rfl)); (· k_dflt k_mem); (· k_dflt (first | with_reducible assumption | exact rfl)); (· kernel_rfl); (· kernel_rfl!); (· kernel_rfl)) | (refine' nmK ?_ ?_ ?_ ?_ ?_ ?_ ?_ ?_; rotate_right 8; (iterate 3 (· k_dflt k_asm)); (· k_dflt k_is); iterate 3 (· kernel_rfl)) | (refine' nmB ?_ ?_ ?_ ?_ ?_ ?_ ?_ ?_ ?_ ?_; rotate_right 10; (iterate 3 (· k_dflt k_asm)); (· k_dflt k_is); (· k_dflt boot_fast); (· decide); iterate 3 (· kernel_rfl))))
  (k_with "exec Assign cons ListComp" => k_extra "exec Assign")
  (k_with "exec If" => refine wpAny_If ?_)
  (k_with "isTrue Compare" => refine wpAny_isTrue_Compare1 ?_)
  (k_with "exec Assign" => with_reducible refine wpAny_Assign_Name ?_ (by k_dflt rfl))
  (k_with "execs cons Assign cons" => k_extra "execs cons")
  (k_with "eval Call Attribute" => with_reducible refine MethodCall_ ?_ (by k_dflt rfl))
  (k_with "exec Expr" => with_reducible refine wpAny_Expr_any ?_ (by k_dflt rfl) (by k_dflt rfl))
  (k_with "isTrue" => with_reducible refine isTrue_plain ?_ (by k_dflt rfl))
  (k_with "eval Call Name" => k_extra "eval Call")
  (k_with "eval Call" => with_reducible refine Call_ ?_ (by k_dflt rfl))
  (k_with "spliced" => with_reducible refine args_cons ?_ (by k_dflt rfl))
  (k_with "callWith" => with_reducible (first | refine cwB1 ?_ (by k_dflt rfl) | refine callWith_method1 ?_ (by k_dflt rfl) (by k_dflt rfl)))
  (k_with "newList" => (k_here; refine newList_K (by k_dflt k_asm) (by k_dflt k_asm) ?_ (by k_dflt (exact Nat.le_of_ble_eq_true rfl)); intro _ _ _ _ l1; (try k_lt l1); (revert l1; intro _); (try k_sweep)))
  (k_with "z" => (with_reducible refine hG9 ?_; clear hG9 G9))
  (k_with "y" => (with_reducible refine zh9 fun G9 hG9 => ?_))
  (k_with "w" => (have h3 := @id (zM9 = ⟨_, [_, _, _, _, _, _, _, _, _, _, _, _, _, _, _, _, _, _, _, _, _, _, _, _, _, _, _, _, _, _, _, _, _, _, _, _, _], _, _, _⟩) rfl; rw [h3] at hsc; subst hsc; clear h3))
  (k_with "v" => (refine' let M9 : Model := _; let A9 : Around := _; let e9 : Env := _; (?_ : wpAny M9 A9 (execs _ e9) _ _ _)))
  (k_with "u" => (try (with_reducible refine' (?_ : wpAny M9 A9 _ _ _ _))))
  (k_with "m_k_steps" => repeat' (first | ((fail_if_success (fail_if_success k_unfold)); (first | (with_reducible refine' (?_ : wpAny _ _ _ _ _ _)) | k_unfold); (try dsimp only)) | (k_end; wrow_close) | walk1 | (dsimp only; walk1) | (leave1; walk_say "STEP leave1"; try dsimp only) | fail "no step"))
  (k_with "m_k_ne" => (refine neN ?_; (try dsimp only); lia))
  (k_with "storeName" => (k_here; (refine' (let m9' : Str → Option Value := fun y => if y = (_ : Str) then some (_ : Value) else (_ : Str → Option Value) y; stG m9' rfl ?_ ?_ (by k_dflt rfl) (by k_dflt rfl) ?_); (· k_dflt k_asm); (· k_dflt k_asm)); (revert m9'; intro _); intro _ _ _; (try k_sweep)))
  (k_with "execs cons" => (k_here; first | k_fold | dsimp only | ((fail_if_success (fail_if_success k_gentoks)); refine genT ?_; intro _) | ((with_reducible refine wpAny_execs_cons ?_); (refine' (?_ : let q9 : Flow → Shared → Prop := _; wpAny _ _ _ q9 _ _); intro _))))
  (k_with "eval BinOp" => (k_here; (fail_if_success (fail_if_success k_fold)); (refine' (?_ : let q9 : Value → Shared → Prop := _; wpAny _ _ _ q9 _ _); intro _)))
  (k_with "eval Call" => (k_here; (fail_if_success (fail_if_success k_fold)); (refine' (?_ : let q9 : Value → Shared → Prop := _; wpAny _ _ _ q9 _ _); intro _)))
  (k_with "eval Name" => (k_here; (refine' nmF ?_ ?_ ?_ ?_ ?_ ?_; rotate_right 6; (· k_dflt k_asm); (· k_dflt (exact rfl)); iterate 3 (· kernel_rfl))))
  (k_with "eval Constant int" => refine cI ?_)
  (k_with "eval Constant str" => refine cS ?_)
  (k_with "binaryOp Add int int" => refine addF ?_)
  (k_with "binaryOp Sub int int" => refine subF ?_)
  (k_with "m_enter" => ((case k6 => k_is); (case k7 => k_is); (case k9 => exact rfl); (case kB => exact locs rfl); (case c5 => decide); (case c2 => exact rfl); (case c3 => exact rfl); (case c4 => exact rfl)))
  (k_with "exec For Name Call cons nil" => (k_here; (rename Fr _ _ _ _ => lF'); (with_unfolding_all refine' For_invVF lF' ?_ ?_ ?_; rotate_right 3; (· (exact rfl)); (· (exact rfl)))))
  (k_with "call builtin:list.append" => (k_here; (with_reducible show wpAny _ _ (call (Value.builtin _) [Value.ref _, _]) _ _ _); k_dflt (refine' append_K ?_ ?_ ?_ ?_ ?_; rotate_right 5; (· k_asm); (· k_asm); (· k_upd); rotate_left; (· assumption)); intro _ _ _; (try k_sweep)))
  (k_with "subscriptTail" => (k_here; (with_reducible show wpAny _ _ (subscriptTail _ _ (Value.str (PySem.Str.ofString "ab") _) (Value.bool _)) _ _ _); (with_unfolding_all refine' vV9 ?_ ?_; rotate_right 2; rotate_left; (· (with_unfolding_all rfl)))))
  (k_with "binaryOp Add str str" => (k_here; (with_reducible show wpAny _ _ (binaryOp _ (Value.str _ _) (Value.str (PySem.Str.mk #[_]) _)) _ _ _); (refine wF9 (by assumption) ?_); (intro _ _); (try dsimp only)))
  (k_with "call builtin:divmod" => ((with_reducible show wpAny _ _ (call (Value.builtin _) [Value.int _ _, Value.int _ _]) _ _ _); refine divmod_N (by assumption) (by assumption) (by lia) ?_ (.inl (PyProof.noPylong_of_log2 (by assumption))); intro _ _ _))
  (k_with "binaryOp LShift int int" => (k_here; first | (refine' vQ9 ?_ ?_ ?_ ?_; rotate_right 4; (· lia); (· assumption); (· assumption)) | (refine' lshift_int ?_ ?_ ?_; rotate_right 3; (· lia); (· assumption))))
  (k_with "inplaceOp LShift int int" => (k_here; (refine' th9 ?_ ?_ ?_ ?_; rotate_right 4; (· lia); (· assumption); (· assumption))))
  (k_with "inplaceOp RShift int int" => (k_here; (refine' td9 ?_ ?_ ?_; rotate_right 3; (· lia); (· assumption))))
  (k_with "binaryOp BitAnd int int" => (k_here; (refine' db9 ?_ ?_; rotate_right 2; (· assumption))))
  (k_with "binaryOp BitOr int int" => (k_here; (refine' hY9 ?_ ?_; rotate_right 2; (· assumption))))
  (k_with "binaryOp RShift int int" => (k_here; first | (refine' dP9 ?_ ?_ ?_; rotate_right 3; (· lia); (· assumption)) | (refine' rshift_int ?_ ?_; rotate_right 2; (· lia))))
  (k_with "binaryOp Mult int int" => (k_here; first | (refine' tM9 ?_ ?_ ?_; rotate_right 3; (· assumption); (· assumption)) | (refine PyProof.Rows.mul_int ?_ (by assumption))))
  (k_with "binaryOp FloorDiv int int" => (k_here; first | (refine' qj9 ?_ ?_ ?_ ?_; rotate_right 4; (· (first | lia | assumption)); (· (first | assumption | decide +kernel)); (· assumption)) | (refine' vY9 ?_ ?_ ?_; rotate_right 3; (· (first | lia | assumption)); (· (first | assumption | decide +kernel)))))
  (k_with "binaryOp BitXor int int" => (k_here; (refine' hK9 ?_ ?_; rotate_right 2; (· assumption))))
  (k_with "binaryOp Mult ref int" => (k_here; (refine' mul1 ?_ ?_ ?_ ?_ ?_; rotate_right 5; (· k_asm); (· k_asm); (· k_mem); (· lia)); (intro _ _ _ _ l1); (try k_lt l1); (revert l1; intro _); (try k_sweep)))
  (k_with "call builtin:len" => (k_here; (with_reducible show wpAny _ _ (call (Value.builtin "len") [Value.ref _]) _ _ _); (refine' lenL ?_ ?_ ?_ ?_; rotate_right 4; (· k_asm); (· k_mem); (· (first | assumption | ((simp only [List.size_toArray, List.length_replicate]); lia)))); (intro _ _); (try simp only [List.size_toArray, List.length_replicate]); (try dsimp only)))
  (k_with "setItem ref int" => (k_here; refine zK9 ?_))
  (k_with "setItem ref int" => (k_here; (refine' setL ?_ ?_ ?_ ?_ ?_ ?_; rotate_right 6; (· k_asm); (· k_asm); (· k_upd); (· (first | assumption | lia)); (· assumption)); (intro _ _ _); (try k_sweep)))
  (k_with "exec While" => refine zK9 ?_)
  (k_with "call ref" => (k_here; refine zK9 ?_))
  (k_with "pyIter ref" => refine zK9 ?_)
  (k_with "m_enterF" => ((case k9 => exact rfl); (case kB => exact locs rfl); (case c5 => decide); (case c2 => exact rfl); (case c3 => exact rfl); (case c4 => exact rfl)))
  trivial
noncomputable def q52 : Str := (Str.ofString "_int2digits" ++ Str.ofString ".<locals>.") ++ Str.ofString "inner"
theorem yw9 {α : Type} {f : Option α} {x y : α} (h1 : f = some x) (h2 : f = some y) : x = y := Option.some.inj (h1.symm.trans h2)
theorem dU9 {kk : Nat} (h : 1 < kk) {G : Prop} (k : ∀ k1 k2, k1 = kk / 2 → k1 + k2 = kk → 0 < k1 → 0 < k2 → k1 < kk → k2 < kk → G) : G := by
  have h0 : 0 < kk := Nat.lt_of_succ_lt h
  have h1 : 0 < kk / 2 := Nat.div_pos h (by decide)
  have h2 : kk / 2 < kk := Nat.div_lt_self h0 (by decide)
  exact k _ (kk - kk / 2) rfl (Nat.add_sub_cancel' (Nat.le_of_lt h2)) h1 (Nat.sub_pos_of_lt h2) h2 (Nat.sub_lt h0 h1)
theorem dR9 (a k : Nat) : ((a : Int) + ((a + k : Nat) : Int)) / 2 = ((a + k / 2 : Nat) : Int) := by
  have h : (a + (a + k)) / 2 = a + k / 2 := by rw [← Nat.add_assoc, ← Nat.two_mul, Nat.add_comm, Nat.add_mul_div_left _ _ (by decide), Nat.add_comm]
  exact congrArg Int.ofNat h
theorem wj9 (a k : Nat) : ((a + k : Nat) : Int) - (a : Int) = (k : Int) := by rw [Int.natCast_add, Int.add_comm, Int.add_sub_cancel]
theorem h8 {a b : Nat} (h : a < b) : 8 * a + 3 ≤ 8 * b := Nat.le_trans (Nat.add_le_add_left (by decide : 3 ≤ 8) (8 * a)) (Nat.mul_le_mul_left 8 h)
theorem yv9 {k n : Nat} (hk : k ≤ 16) (hn : n ≤ 8000) : IntMulOk (k : Int) (n : Int) :=
  xq9 (zT9 (k := 10) (Int.natCast_nonneg _) (show (k : Int) < ((1024 : Nat) : Int) from Int.ofNat_lt.mpr (Nat.lt_of_le_of_lt hk (by decide)))) (zT9 (k := 14) (Int.natCast_nonneg _) (show (n : Int) < ((16384 : Nat) : Int) from Int.ofNat_lt.mpr (Nat.lt_of_le_of_lt hn (by decide)))) (by lia) (by lia)
theorem yH9 {x : Int} {k k' n : Nat} (h0 : 0 ≤ x) (h1 : x < 2 ^ (k * n)) (hk : k ≤ 16) (hk' : k' ≤ 16) (hn : n ≤ 8000) : (Builtin.Int.intBits x : Int) + ((k' * n : Nat) : Int) ≤ 2 ^ 27 := by
  have a := zT9 h0 h1
  have b : k * n ≤ 16 * 8000 := Nat.mul_le_mul hk hn
  have c : k' * n ≤ 16 * 8000 := Nat.mul_le_mul hk' hn
  lia
noncomputable def vg9 (V : Wd) (f' c' D ci ca cn : Addr) (oi oa on : Obj) (dcv pmv ctv : Value) (tn : Tok) : Prop := ∀ {oc : Value} {od : Option Addr} {osl : Array (Option Value)} {name qual : Str} {params : Arguments} {s1 : Stmt} {nm : Str} {ps : Arguments} {bd : List Stmt} {dl : List PySem.Expr} {rt : Option PySem.Expr} {tp : List TypeParam} {sc : Scope} {ts : Option Scope} {bind : Str} {pos : Pos} {rest : List Stmt} {scope : Scope} {doc pm cdv ct : Value} (ho : (getK.heap_1 V.w.params).lookup 52 = some ⟨oc, od, .func (fnX name qual params (s1 :: .FunctionDef nm ps bd dl rt tp sc ts bind pos :: rest) scope [] .none .none doc pm none cdv ct), osl⟩) (n : Nat) (hn2 : n ≤ 8000) (di : oi.data = .cell (some (.ref f'))) (da : oa.data = .cell (some (.ref D))) (dn : on.data = .cell (some (.int n tn))) (ne1 : @Ne Nat f' D) (ne2 : @Ne Nat ci D) (ne3 : @Ne Nat ca D) (ne4 : @Ne Nat cn D) (nc1 : @Ne Nat c' D) (nc2 : @Ne Nat c' f') (nc3 : @Ne Nat c' ci) (nc4 : @Ne Nat c' ca) (nc5 : @Ne Nat c' cn), ∀ (kk : Nat) (x : Int) (Lo : Nat) (vs : List Value) (e : Nat) (t1 t2 t3 : Tok) (lz hz : Int), lz = (Lo : Int) → hz = ((Lo + kk : Nat) : Int) → 0 < kk → 0 ≤ x → x < 2 ^ (kk * n) → Lo + kk ≤ vs.length → vs.length ≤ 16 →
    Spc V (.ref f') [.int x t1, .int lz t2, .int hz t3] kk (8 * kk)
      [(D, W.listOf vs.toArray e), (f', fnMade nm q52 ps bd sc [(Str.ofString "n", cn), (Str.ofString "inner", ci), (Str.ofString "a_digits", ca)] dcv pmv c' ctv), (ci, oi), (ca, oa), (cn, on)]
      (fun sh => sh.CodeRec (.ref c') q52)
      (zn9 [(D, W.listOf vs.toArray e), (f', fnMade nm q52 ps bd sc [(Str.ofString "n", cn), (Str.ofString "inner", ci), (Str.ofString "a_digits", ca)] dcv pmv c' ctv), (ci, oi), (ca, oa), (cn, on)]
        fun v nx => v = .none ∧ ∃ ds e', nx = [(D, W.listOf (vs.take Lo ++ ds ++ vs.drop (Lo + kk)).toArray e'), (f', fnMade nm q52 ps bd sc [(Str.ofString "n", cn), (Str.ofString "inner", ci), (Str.ofString "a_digits", ca)] dcv pmv c' ctv), (ci, oi), (ca, oa), (cn, on)] ∧ IntsAre ds (dig n kk x))
@[irreducible] noncomputable def zm9 := W14 vg9
theorem uH9 : A14 vg9 zm9 := by
  intro oc od osl name qual params s1 nm ps bd dl rt tp sc ts bind pos rest scope doc pm cdv ct ho n hn2 di da dn ne1 ne2 ne3 ne4 nc1 nc2 nc3 nc4 nc5
  have eo := yw9 ho (y := _) (by k_is)
  have nc : zm9.2.2.1 ∉ [zm9.2.2.2.1, zm9.2.1, zm9.2.2.2.2.1, zm9.2.2.2.2.2.1, zm9.2.2.2.2.2.2.1] := by
    simp only [List.mem_cons, List.not_mem_nil, or_false, not_or]
    exact ⟨nc1, nc2, nc3, nc4, nc5⟩
  have es : Stmt.FunctionDef nm ps bd dl rt tp sc ts bind pos = Stmt.FunctionDef _ _ _ _ _ _ _ _ _ _ := congrArg (fun o => theDef o 1) eo
  clear eo ho
  refine dV9 es fun e1 e2 e3 e4 => ?_
  clear es
  subst e1 e2 e3 e4
  intro kk
  induction kk using Nat.strongRecOn with
  | ind kk IH =>
  intro x Lo vs e t1 t2 t3 lz hz elz ehz hk0 hx0 hx1 hlo hvs
  subst elz ehz
  refine' dX9 (binds := [(Str.ofString "x", .int x t1), (Str.ofString "L", .int Lo t2), (Str.ofString "R", .int ((Lo + kk : Nat) : Int) t3)]) (.tail _ (.head _)) (fun sh h => h) ?k9 ?kB ?c5 ?c2 ?c3 ?c4 ?_
  walk_at "m_enterF"
  intro dp un gd outer A₁ base sh g L' h₁ s Q hd hu hp hsg hgh hsh F N0 hlt B X T ret
  (try dsimp only)
  k_extra "v"
  have hcg : g.CodeRec (.ref zm9.2.2.1) q52 := by
    k_extra "y"
    refine ex4 (hp) fun c₂ oc2 vs2 t2 hJ9 => ?_
    refine an3 hJ9 fun q1 q2 q3 q4 => ?_
    clear hJ9
    try clear hp
    k_extra "z"
    cases q1
    exact ix4 _ oc2 vs2 t2 (⟨rfl, hsg _ _ nc q2, q3, q4⟩)
  have C := codeHd_of_K (c := 51) (P := 47) X (by kernel_rfl)
  rcases Nat.lt_or_ge 1 kk with hk1 | hk1
  · refine dU9 hk1 fun k1 k2 ek1 ekk hp1 hp2 hl1k hl2k => ?_
    have hk16 : kk ≤ 16 := Nat.le_trans (Nat.le_add_left kk Lo) (Nat.le_trans hlo hvs)
    have hk116 : k1 ≤ 16 := Nat.le_trans (Nat.le_of_lt hl1k) hk16
    have hk216 : k2 ≤ 16 := Nat.le_trans (Nat.le_of_lt hl2k) hk16
    obtain ⟨sf, esf⟩ : ∃ sf, sf = k1 * n := ⟨_, rfl⟩
    have hsfp := zj9 sf
    obtain ⟨up, eup⟩ : ∃ u : Int, u = x / 2 ^ sf := ⟨_, rfl⟩
    obtain ⟨us, eus⟩ : ∃ u : Int, u = up * 2 ^ sf := ⟨_, rfl⟩
    obtain ⟨lw, elw⟩ : ∃ u : Int, u = x % 2 ^ sf := ⟨_, rfl⟩
    have hup0 : 0 ≤ up := by rw [eup]; exact Int.ediv_nonneg hx0 (Int.le_of_lt hsfp)
    have hupx : up ≤ x := by rw [eup]; exact Int.ediv_le_self _ hx0
    have hup1 : up < 2 ^ (k2 * n) := by
      rw [eup]
      refine Int.ediv_lt_of_lt_mul hsfp ?_
      rw [← Int.pow_add, esf, ← Nat.add_mul, Nat.add_comm, ekk]; exact hx1
    have hlw : 0 ≤ lw ∧ lw < 2 ^ sf := by rw [elw]; exact ⟨Int.emod_nonneg _ (Int.ne_of_gt hsfp), Int.emod_lt_of_pos _ hsfp⟩
    have m1 : ((Lo : Int) + ((Lo + kk : Nat) : Int)).fdiv (2 ^ Int.toNat 1) = ((Lo + k1 : Nat) : Int) := by rw [zO9 (by decide)]; rw [ek1]; exact dR9 Lo kk
    have m2 : IntMulOk (((Lo + k1 : Nat) : Int) - (Lo : Int)) (n : Int) := by rw [wj9]; exact yv9 hk116 hn2
    have m3 : (((Lo + k1 : Nat) : Int) - (Lo : Int)) * (n : Int) = (sf : Int) := by rw [esf, wj9]; rfl
    have m4 : x.fdiv (2 ^ ((sf : Int)).toNat) = up := by rw [Int.toNat_natCast, zO9 hsfp, eup]
    have m5 : (Builtin.Int.intBits up : Int) + (sf : Int) ≤ 2 ^ 27 := by rw [esf]; exact yH9 hup0 hup1 hk216 hk116 hn2
    have m6 : up * 2 ^ ((sf : Int)).toNat = us := by rw [Int.toNat_natCast, eus]
    have m7 : Builtin.bitXor x us = lw := by rw [eus, eup, elw]; exact ng9 hx0 sf
    have hL0 : Lo ≤ vs.length := Nat.le_trans (Nat.le_add_right Lo kk) hlo
    have hLk : Lo + k1 ≤ vs.length := Nat.le_trans (Nat.add_le_add_left (Nat.le_of_lt hl1k) Lo) hlo
    have hne : ¬ ((Lo : Int) + 1 = ((Lo + kk : Nat) : Int)) := by lia
    k_extra "u"
    k_steps
    · exfalso; lia
    unfold zC9
    have S1 := IH k1 hl1k lw Lo vs e
    refine xn9 (rest := []) (S1 _ _ _ _ _ rfl rfl hp1 hlw.1 (by rw [← esf]; exact hlw.2) hLk hvs) B (by k_asm) (by k_asm) News.nil (List.forall_mem_nil _) X T rfl (limD hd hl1k) (limU hu (h8 hl1k)) (hcg.keeps (Fr.keep (by k_asm))) ?_
    rintro v1 nx1 h1' tk1' F1 N1 _ hJ9 _ _
    k_extra "y"
    refine an1 hJ9 fun e9_0 hJ9 => ?_
    refine ex2 hJ9 fun ds1 e1 hJ9 => ?_
    refine an1 hJ9 fun e9_1 hds1 => ?_
    iterate 3 clear hJ9
    subst e9_0
    subst e9_1
    k_extra "z"
    have hl1 : ds1.length = k1 := by rw [hds1.length, tw9]
    (try dsimp only)
    k_extra "u"
    k_steps
    unfold zC9
    have S2 := IH k2 hl2k up (Lo + k1) (vs.take Lo ++ ds1 ++ vs.drop (Lo + k1)) e1
    rw [Nat.add_assoc, ekk] at S2
    have hl3 : (vs.take Lo ++ ds1).length = Lo + k1 := by rw [List.length_append, List.length_take, hl1, Nat.min_eq_left hL0]
    have hvl : (vs.take Lo ++ ds1 ++ vs.drop (Lo + k1)).length = vs.length := by rw [List.length_append, List.length_append, List.length_take, List.length_drop, hl1, Nat.min_eq_left hL0, Nat.add_sub_cancel' hLk]
    refine xn9 (rest := []) (S2 _ _ _ _ _ rfl rfl hp2 hup0 hup1 (by rw [hvl]; exact hlo) (by rw [hvl]; exact hvs)) B (by k_asm) (by k_asm) News.nil (List.forall_mem_nil _) X T rfl (limD hd hl2k) (limU hu (h8 hl2k)) (hcg.keeps (Fr.keep (by k_asm))) ?_
    rintro v2 nx2 h2' tk2' F2 N2 _ hJ9 _ _
    k_extra "y"
    refine an1 hJ9 fun e9_0 hJ9 => ?_
    refine ex2 hJ9 fun ds2 e2 hJ9 => ?_
    refine an1 hJ9 fun e9_1 hds2 => ?_
    iterate 3 clear hJ9
    subst e9_0
    subst e9_1
    k_extra "z"
    (try dsimp only)
    k_extra "u"
    k_steps
    refine ret _ _ _ _ _ F2 N2 ⟨rfl, ds1 ++ ds2, e2, ?_, ?_⟩
    · have q1 : (vs.take Lo ++ ds1 ++ vs.drop (Lo + k1)).take (Lo + k1) = vs.take Lo ++ ds1 := by
        rw [List.take_left' hl3]
      have q2 : (vs.take Lo ++ ds1 ++ vs.drop (Lo + k1)).drop (Lo + kk) = vs.drop (Lo + kk) := by
        rw [← ekk, ← Nat.add_assoc, ← List.drop_drop, List.drop_left' hl3, List.drop_drop]
      rw [q1, q2, List.append_assoc (vs.take Lo) ds1 ds2]
    · rw [← ekk, yF9, ← esf, ← elw, ← eup]
      exact hds1.append hds2
  · have hk1' : kk = 1 := by lia
    subst hk1'
    have hsz : vs.toArray.size ≤ 1000000 := by rw [List.size_toArray]; lia
    have hi : Lo < vs.toArray.size := by rw [List.size_toArray]; lia
    k_extra "u"
    k_steps
    · rename Fr _ _ _ _ => F5
      rename News _ _ _ _ => N5
      refine ret _ _ _ _ _ F5 N5 ⟨rfl, [.int x t1], e, ?_, ?_⟩
      · have q : (vs.toArray.setIfInBounds Lo (Value.int x t1)) = (vs.take Lo ++ [Value.int x t1] ++ vs.drop (Lo + 1)).toArray := by
          apply Array.ext'
          rw [Array.toList_setIfInBounds]
          show vs.set Lo _ = vs.take Lo ++ [_] ++ vs.drop (Lo + 1)
          rw [List.set_eq_take_append_cons_drop, if_pos (by lia)]
          simp
        exact q ▸ rfl
      · have : x % 2 ^ n = x := Int.emod_eq_of_lt hx0 (by rw [Nat.one_mul] at hx1; exact hx1)
        rw [bw9, gp9, this]
        exact .cons _ _ .nil
    · exfalso; lia
theorem yD9 (V : Wd) {oc : Value} {od : Option Addr} {osl : Array (Option Value)} {name qual : Str} {params : Arguments} {s1 : Stmt} {nm : Str} {ps : Arguments} {bd : List Stmt} {dl : List PySem.Expr} {rt : Option PySem.Expr} {tp : List TypeParam} {sc : Scope} {ts : Option Scope} {bind : Str} {pos : Pos} {rest : List Stmt} {scope : Scope} {doc pm cdv ct : Value} (ho : (getK.heap_1 V.w.params).lookup 52 = some ⟨oc, od, .func (fnX name qual params (s1 :: .FunctionDef nm ps bd dl rt tp sc ts bind pos :: rest) scope [] .none .none doc pm none cdv ct), osl⟩) (f' c' D ci ca cn : Addr) (oi oa on : Obj) (dcv pmv ctv : Value) (n : Nat) (tn : Tok) (hn2 : n ≤ 8000) (di : oi.data = .cell (some (.ref f'))) (da : oa.data = .cell (some (.ref D))) (dn : on.data = .cell (some (.int n tn))) (ne1 : @Ne Nat f' D) (ne2 : @Ne Nat ci D) (ne3 : @Ne Nat ca D) (ne4 : @Ne Nat cn D) (nc1 : @Ne Nat c' D) (nc2 : @Ne Nat c' f') (nc3 : @Ne Nat c' ci) (nc4 : @Ne Nat c' ca) (nc5 : @Ne Nat c' cn) : ∀ (kk : Nat) (x : Int) (Lo : Nat) (vs : List Value) (e : Nat) (t1 t2 t3 : Tok) (lz hz : Int), lz = (Lo : Int) → hz = ((Lo + kk : Nat) : Int) → 0 < kk → 0 ≤ x → x < 2 ^ (kk * n) → Lo + kk ≤ vs.length → vs.length ≤ 16 →
    Spc V (.ref f') [.int x t1, .int lz t2, .int hz t3] kk (8 * kk)
      [(D, W.listOf vs.toArray e), (f', fnMade nm q52 ps bd sc [(Str.ofString "n", cn), (Str.ofString "inner", ci), (Str.ofString "a_digits", ca)] dcv pmv c' ctv), (ci, oi), (ca, oa), (cn, on)]
      (fun sh => sh.CodeRec (.ref c') q52)
      (zn9 [(D, W.listOf vs.toArray e), (f', fnMade nm q52 ps bd sc [(Str.ofString "n", cn), (Str.ofString "inner", ci), (Str.ofString "a_digits", ca)] dcv pmv c' ctv), (ci, oi), (ca, oa), (cn, on)]
        fun v nx => v = .none ∧ ∃ ds e', nx = [(D, W.listOf (vs.take Lo ++ ds ++ vs.drop (Lo + kk)).toArray e'), (f', fnMade nm q52 ps bd sc [(Str.ofString "n", cn), (Str.ofString "inner", ci), (Str.ofString "a_digits", ca)] dcv pmv c' ctv), (ci, oi), (ca, oa), (cn, on)] ∧ IntsAre ds (dig n kk x)) :=
  H14 (by unfold zm9; rfl) @uH9 V f' c' D ci ca cn oi oa on dcv pmv ctv tn ho n hn2 di da dn ne1 ne2 ne3 ne4 nc1 nc2 nc3 nc4 nc5
end
section
theorem ln7 : True := by
  (k_with "binaryOp Mult int int" => (k_here; (refine PyProof.Rows.mul_int ?_ (by assumption))))
  (k_with "m_sep" => (repeat' (first | exact List.forall_mem_nil _ | refine List.forall_mem_cons.mpr ⟨?_, ?_⟩ | k_ne)))
  (k_with "m_enterC" => ((case k6 => k_is); (case k7 => k_is); (case k9 => exact rfl); (case kB => exact kindsX rfl); (case c5 => decide); (case c2 => exact rfl); (case c3 => exact rfl); (case c4 => exact rfl)))
  (k_with "m_enterC" => ((case k6 => k_is); (case k7 => k_is); (case k9 => exact rfl); (case kB => exact kindsX rfl); (case c5 => decide); (case c2 => exact rfl); (case c3 => exact rfl); (case c4 => exact rfl)))
  trivial
noncomputable def TabF (P : Addr) (l c : Int) (q : Str) (tb : List (Addr × Obj)) : Prop := ∃ c' oc vs t, tb = [(P, tabObj #[rawInt l, rawInt c, .ref c']), (c', oc)] ∧ oc.data = .fields vs ∧ vs[1]? = some (.str q t) ∧ @Ne Nat c' P
theorem News.sel {h₀ h : Heap} {L : Addr} {ns rs : List (Addr × Obj)} (N : News h₀ L h ns) (k : Nat) (is : List Nat) (e : selO ns k is = some rs) : News h₀ L h rs := fun q hq => N q (wN9 e hq)
theorem News.pick {h₀ h : Heap} {L : Addr} {ns rs : List (Addr × Obj)} {p : Addr × Obj} (N : News h₀ L h ns) (hm : p ∈ ns) (r : News h₀ L h rs) : News h₀ L h (p :: rs) := fun q hq => by
  rcases List.mem_cons.mp hq with rfl | hq
  · exact N _ hm
  · exact r q hq
theorem uG9 {a : Int} {n k : Nat} (ha : 0 ≤ a) (hn : 0 < n) (hk : ((Builtin.Int.intBits a : Int) + (n : Int) - 1).fdiv (n : Int) = (k : Int)) : a < 2 ^ (k * n) ∧ (a ≠ 0 → 0 < k) := by
  rw [zO9 (by lia)] at hk
  have h1 : Builtin.Int.intBits a ≤ k * n := by
    have h2 := Int.lt_ediv_add_one_mul_self ((Builtin.Int.intBits a : Int) + (n : Int) - 1) (show (0 : Int) < (n : Int) by lia)
    rw [hk] at h2
    have h3 : ((k : Int) + 1) * (n : Int) = ((k * n : Nat) : Int) + (n : Int) := by push_cast; grind
    lia
  have h2 := zp9 a
  have h3 : a.natAbs < 2 ^ (k * n) := Nat.lt_of_lt_of_le h2 (Nat.pow_le_pow_right (by decide) h1)
  constructor
  · have h4 : ((a.natAbs : Nat) : Int) < ((2 ^ (k * n) : Nat) : Int) := Int.ofNat_lt.mpr h3
    rw [Int.natAbs_of_nonneg ha] at h4
    push_cast at h4
    exact h4
  · intro h0
    rcases Nat.eq_zero_or_pos k with hk0 | hk0
    · subst hk0
      simp at h3
      exact absurd h3 h0
    · exact hk0
noncomputable def uW9 (V : Wd) (a : Int) (n : Nat) (k : Nat) (t1 : Tok) (t2 : Tok) (tb : List (Addr × Obj))  : Prop := ∀ (htb : tb = [(47, tabObj #[])] ∨ TabF 47 33 4 q52 tb) (ha : 0 ≤ a) (hn : 0 < n) (hn2 : n ≤ 8000) (hk : ((Builtin.Int.intBits a : Int) + (n : Int) - 1).fdiv (n : Int) = (k : Int)) (hk2 : k ≤ 16),
   Spc V (.ref 52) [.int a t1, .int n t2] 20 200 tb (fun _ => True)
     (zn9 tb fun v nx => ∃ l vs e tb', v = .ref l ∧ nx = (l, W.listOf (List.toArray vs) e) :: tb' ∧ IntsAre vs (dig n k a) ∧ TabF 47 33 4 q52 tb')
@[irreducible] noncomputable def wi2d_spec := W7 uW9
@[irreducible] noncomputable def zL9 := jv9 (C := Spc wi2d_spec.1 (.ref 52) [.int wi2d_spec.2.1 wi2d_spec.2.2.2.2.1, .int wi2d_spec.2.2.1 wi2d_spec.2.2.2.2.2.1] 20 200 wi2d_spec.2.2.2.2.2.2 (fun _ => True)
     (zn9 wi2d_spec.2.2.2.2.2.2 fun v nx => ∃ l vs e tb', v = .ref l ∧ nx = (l, W.listOf (List.toArray vs) e) :: tb' ∧ IntsAre vs (dig wi2d_spec.2.2.1 wi2d_spec.2.2.2.1 wi2d_spec.2.1) ∧ TabF 47 33 4 q52 tb')) (fun h => by
    refine' uM9 (binds := [(Str.ofString "a", .int wi2d_spec.2.1 wi2d_spec.2.2.2.2.1), (Str.ofString "n", .int wi2d_spec.2.2.1 wi2d_spec.2.2.2.2.2.1)]) ?k6 ?k7 ?k9 ?kB ?c5 ?c2 ?c3 ?c4 h
    walk_at "m_enterC"
    )
theorem cR9 : A7 uW9 wi2d_spec := by
  intro htb ha hn hn2 hk hk2
  have hn9 : ((wi2d_spec.2.2.1 : Int)).natAbs.log2 < 9000 := xr9 (qR9 (zT9 (k := 14) (by lia) (by show _ < (16384 : Int); lia)) (by lia))
  obtain ⟨hak, hkp⟩ := uG9 ha hn hk
  refine' uM9 (binds := [(Str.ofString "a", .int wi2d_spec.2.1 wi2d_spec.2.2.2.2.1), (Str.ofString "n", .int wi2d_spec.2.2.1 wi2d_spec.2.2.2.2.2.1)]) ?k6 ?k7 ?k9 ?kB ?c5 ?c2 ?c3 ?c4 ?_
  walk_at "m_enterC"
  refine H14 (c := zL9) (by unfold zL9; rfl) ?_
  intro hd hu hp hsg F N0 hlt Y B X T ret
  rcases htb with htb | ⟨c0, oc0, vs0, t0, htb, hoc, hvs0, hc0⟩
  · rw [htb] at N0 hlt hsg
    (try dsimp only)
    k_extra "y"
    refine ex3 (PyProof.Rows.CellsAre.three Y) fun o1 o2 o3 hJ9 => ?_
    refine an3 hJ9 fun hE d1 d2 d3 => ?_
    clear hJ9
    k_extra "z"
    rw [hE] at N0
    clear hE
    clear Y
    have hlt1 : @LT.lt Nat _ 47 zL9.2.2.2.2.2.2.2.2.1 := hlt _ (.head _)
    change o1.data = .cell none at d1
    change o2.data = .cell none at d2
    change o3.data = .cell (some (.int wi2d_spec.2.2.1 wi2d_spec.2.2.2.2.2.1)) at d3
    change Fr zL9.2.2.2.2.2.2.2.1 zL9.2.2.2.2.2.2.2.2.1 zL9.2.2.2.2.2.2.2.2.2.1 (fun y => if y = Str.ofString "a" then some (.int wi2d_spec.2.1 wi2d_spec.2.2.2.2.1) else none) at F
    change News zL9.2.2.2.2.2.2.2.1 zL9.2.2.2.2.2.2.2.2.1 zL9.2.2.2.2.2.2.2.2.2.1 [(zL9.2.2.2.2.2.2.2.2.1 + 1 + 1 + 1, o1), (zL9.2.2.2.2.2.2.2.2.1 + 1 + 1, o2), (zL9.2.2.2.2.2.2.2.2.1 + 1, o3), (47, tabObj #[])] at N0
    have C := codeHd_of_K (c := 51) (P := 47) X (by kernel_rfl)
    k_steps
    · unfold zC9
      rename News _ _ _ _ => N5
      rename Fr _ _ _ _ => F5
      rename_i l0 _ l1' _ _ D _ l2' _ oA dA _ _ f' c' oc vsc tc ctv dcv _ _ dc1 dc2 lc1 lc2 _ oF dF _ ha0 _ _ _ tz tkz
      generalize hq : qualnameIn _ _ _ = qn at dc2 N5
      have hq' : qn = q52 := hq.symm.trans (by with_unfolding_all rfl)
      subst hq'
      clear hq
      have No := News.pick N5 (.tail _ (.tail _ (.head _))) (News.pick N5 (.head _) (News.pick N5 (.tail _ (.tail _ (.tail _ (.tail _ (.head _))))) (News.pick N5 (.tail _ (.tail _ (.tail _ (.tail _ (.tail _ (.head _)))))) (News.pick N5 (.tail _ (.tail _ (.tail _ (.tail _ (.tail _ (.tail _ (.head _))))))) News.nil))))
      have Nr := News.pick N5 (.tail _ (.head _)) (News.pick N5 (.tail _ (.tail _ (.tail _ (.tail _ (.tail _ (.tail _ (.tail _ (.head _)))))))) News.nil)
      have hcr := codeRec_news N5 (.tail _ (.head _)) dc1 dc2
      refine xn9 (yD9 wi2d_spec.1 (by k_is) f' c' D (zL9.2.2.2.2.2.2.2.2.1 + 1 + 1 + 1) (zL9.2.2.2.2.2.2.2.2.1 + 1 + 1) (zL9.2.2.2.2.2.2.2.2.1 + 1) oF oA o3 dcv _ ctv wi2d_spec.2.2.1 wi2d_spec.2.2.2.2.2.1 hn2 dF dA d3 (by lia) (by lia) (by lia) (by lia) (by lia) (by lia) (by lia) (by lia) (by lia) wi2d_spec.2.2.2.1 wi2d_spec.2.1 0 (List.replicate wi2d_spec.2.2.2.1 (.int 0 _)) 0 _ _ _ 0 (wi2d_spec.2.2.2.1 : Int) rfl (by simp) (hkp ha0) ha hak (by simp) (by simp; lia)) B F5 No Nr ?hsep X T rfl (by first | exact limD (by assumption) (by decide) | lia) (by first | exact limU (by assumption) (by decide) | exact limV (by assumption) (by decide) | lia) hcr ?_
      case hsep => walk_at "m_sep"
      rintro v1 nx1 h1' tk1' F1 N1 Nr1 hJ9 hh1 hh2
      k_extra "y"
      refine an1 hJ9 fun e9_0 hJ9 => ?_
      refine ex2 hJ9 fun ds1 e1 hJ9 => ?_
      refine an1 hJ9 fun e9_1 hds1 => ?_
      iterate 3 clear hJ9
      subst e9_0
      subst e9_1
      k_extra "z"
      have hrep : List.take 0 (List.replicate wi2d_spec.2.2.2.1 (Value.int 0 zL9.2.2.2.2.2.2.2.2.2.2.1)) ++ ds1 ++ List.drop (0 + wi2d_spec.2.2.2.1) (List.replicate wi2d_spec.2.2.2.1 (Value.int 0 zL9.2.2.2.2.2.2.2.2.2.2.1)) = ds1 := by simp
      have N6 := News.pick N1 (.head _) (News.pick Nr1 (.tail _ (.head _)) (News.pick Nr1 (.head _) (News.pick N1 (.tail _ (.tail _ (.tail _ (.head _)))) News.nil)))
      clear hh1 hh2 N1 Nr1 N5 No Nr F5
      (try dsimp only)
      k_steps
      refine ret _ _ _ _ _ F1 (News.pick N6 (.head _) (News.pick N6 (.tail _ (.head _)) (News.pick N6 (.tail _ (.tail _ (.head _))) News.nil))) ⟨D, _, e1, _, rfl, rfl, ?_, c', oc, vsc, tc, rfl, dc1, dc2, neN (by lia)⟩
      simpa using hds1
    · rename_i l0 _ l1' _ _ D _ l2' _ oA dA _ _ f' c' oc vsc tc ctv dcv _ _ dc1 dc2 lc1 lc2 _ oF F5 N5 dF _ ha0 _
      have ha0' : wi2d_spec.2.1 = 0 := by
        first | exact ha0 | (by_cases h : wi2d_spec.2.1 = 0; exact h; exact absurd h (by simpa using ha0))
      rw [ha0'] at hk
      have hk0 : wi2d_spec.2.2.2.1 = 0 := by
        have : Builtin.Int.intBits 0 = 0 := rfl
        rw [this, zO9 (by lia)] at hk
        have h2 : ((0 : Nat) : Int) + (wi2d_spec.2.2.1 : Int) - 1 = (wi2d_spec.2.2.1 : Int) - 1 := by lia
        rw [h2, Int.ediv_eq_zero_of_lt (by lia) (by lia)] at hk
        lia
      generalize hq : qualnameIn _ _ _ = qn at dc2
      have hq' : qn = q52 := hq.symm.trans (by with_unfolding_all rfl)
      subst hq'
      refine ret _ _ _ _ _ F5 (News.pick N5 (.tail _ (.tail _ (.head _))) (News.pick N5 (.tail _ (.tail _ (.tail _ (.tail _ (.tail _ (.tail _ (.tail _ (.head _)))))))) (News.pick N5 (.tail _ (.head _)) News.nil))) ⟨D, _, _, _, rfl, rfl, (by rw [hk0]; exact .nil), c', oc, vsc, tc, rfl, dc1, dc2, neN (by lia)⟩
  · rw [htb] at N0 hlt hsg
    (try dsimp only)
    k_extra "y"
    refine ex3 (PyProof.Rows.CellsAre.three Y) fun o1 o2 o3 hJ9 => ?_
    refine an3 hJ9 fun hE d1 d2 d3 => ?_
    clear hJ9
    k_extra "z"
    rw [hE] at N0
    clear hE
    clear Y
    have hlt1 : @LT.lt Nat _ 47 zL9.2.2.2.2.2.2.2.2.1 := hlt _ (.head _)
    change o1.data = .cell none at d1
    change o2.data = .cell none at d2
    change o3.data = .cell (some (.int wi2d_spec.2.2.1 wi2d_spec.2.2.2.2.2.1)) at d3
    change Fr zL9.2.2.2.2.2.2.2.1 zL9.2.2.2.2.2.2.2.2.1 zL9.2.2.2.2.2.2.2.2.2.1 (fun y => if y = Str.ofString "a" then some (.int wi2d_spec.2.1 wi2d_spec.2.2.2.2.1) else none) at F
    change News zL9.2.2.2.2.2.2.2.1 zL9.2.2.2.2.2.2.2.2.1 zL9.2.2.2.2.2.2.2.2.2.1 [(zL9.2.2.2.2.2.2.2.2.1 + 1 + 1 + 1, o1), (zL9.2.2.2.2.2.2.2.2.1 + 1 + 1, o2), (zL9.2.2.2.2.2.2.2.2.1 + 1, o3), (47, tabObj #[rawInt 33, rawInt 4, .ref c0]), (c0, oc0)] at N0
    have hlt2 : @LT.lt Nat _ c0 zL9.2.2.2.2.2.2.2.2.1 := hlt _ (.tail _ (.head _))
    have C := codeHd_of_K (c := 51) (P := 47) X (by kernel_rfl)
    k_steps
    · unfold zC9
      rename News _ _ _ _ => N5
      rename Fr _ _ _ _ => F5
      rename_i l0 _ l1' _ _ D _ l2' _ oA dA _ _ f' ctv dcv _ _ lf _ oF dF _ ha0 _ _ _ tz tkz
      generalize hq : qualnameIn _ _ _ = qn at N5
      have hq' : qn = q52 := hq.symm.trans (by with_unfolding_all rfl)
      subst hq'
      clear hq
      have No := News.pick N5 (.tail _ (.head _)) (News.pick N5 (.head _) (News.pick N5 (.tail _ (.tail _ (.tail _ (.head _)))) (News.pick N5 (.tail _ (.tail _ (.tail _ (.tail _ (.head _))))) (News.pick N5 (.tail _ (.tail _ (.tail _ (.tail _ (.tail _ (.head _)))))) News.nil))))
      have Nr := News.pick N5 (.tail _ (.tail _ (.tail _ (.tail _ (.tail _ (.tail _ (.tail _ (.head _)))))))) (News.pick N5 (.tail _ (.tail _ (.tail _ (.tail _ (.tail _ (.tail _ (.head _))))))) News.nil)
      have hcr := codeRec_news N5 (.tail _ (.tail _ (.tail _ (.tail _ (.tail _ (.tail _ (.tail _ (.head _)))))))) hoc hvs0
      refine xn9 (yD9 wi2d_spec.1 (by k_is) f' c0 D (zL9.2.2.2.2.2.2.2.2.1 + 1 + 1 + 1) (zL9.2.2.2.2.2.2.2.2.1 + 1 + 1) (zL9.2.2.2.2.2.2.2.2.1 + 1) oF oA o3 dcv _ ctv wi2d_spec.2.2.1 wi2d_spec.2.2.2.2.2.1 hn2 dF dA d3 (by lia) (by lia) (by lia) (by lia) (by lia) (by lia) (by lia) (by lia) (by lia) wi2d_spec.2.2.2.1 wi2d_spec.2.1 0 (List.replicate wi2d_spec.2.2.2.1 (.int 0 _)) 0 _ _ _ 0 (wi2d_spec.2.2.2.1 : Int) rfl (by simp) (hkp ha0) ha hak (by simp) (by simp; lia)) B F5 No Nr ?hsep X T rfl (by first | exact limD (by assumption) (by decide) | lia) (by first | exact limU (by assumption) (by decide) | exact limV (by assumption) (by decide) | lia) hcr ?_
      case hsep => walk_at "m_sep"
      rintro v1 nx1 h1' tk1' F1 N1 Nr1 hJ9 hh1 hh2
      k_extra "y"
      refine an1 hJ9 fun e9_0 hJ9 => ?_
      refine ex2 hJ9 fun ds1 e1 hJ9 => ?_
      refine an1 hJ9 fun e9_1 hds1 => ?_
      iterate 3 clear hJ9
      subst e9_0
      subst e9_1
      k_extra "z"
      have hrep : List.take 0 (List.replicate wi2d_spec.2.2.2.1 (Value.int 0 zL9.2.2.2.2.2.2.2.2.2.2.1)) ++ ds1 ++ List.drop (0 + wi2d_spec.2.2.2.1) (List.replicate wi2d_spec.2.2.2.1 (Value.int 0 zL9.2.2.2.2.2.2.2.2.2.2.1)) = ds1 := by simp
      have N6 := News.pick N1 (.head _) (News.pick Nr1 (.tail _ (.head _)) (News.pick Nr1 (.head _) (News.pick N1 (.tail _ (.tail _ (.tail _ (.head _)))) News.nil)))
      clear hh1 hh2 N1 Nr1 N5 No Nr F5
      (try dsimp only)
      k_steps
      refine ret _ _ _ _ _ F1 (News.pick N6 (.head _) (News.pick N6 (.tail _ (.head _)) (News.pick N6 (.tail _ (.tail _ (.head _))) News.nil))) ⟨D, _, e1, _, rfl, rfl, ?_, c0, oc0, vs0, t0, rfl, hoc, hvs0, hc0⟩
      simpa using hds1
    · rename_i l0 _ l1' _ _ D _ l2' _ oA dA _ _ f' ctv dcv _ _ lf _ oF F5 N5 dF _ ha0 _
      have ha0' : wi2d_spec.2.1 = 0 := by
        first | exact ha0 | (by_cases h : wi2d_spec.2.1 = 0; exact h; exact absurd h (by simpa using ha0))
      rw [ha0'] at hk
      have hk0 : wi2d_spec.2.2.2.1 = 0 := by
        have : Builtin.Int.intBits 0 = 0 := rfl
        rw [this, zO9 (by lia)] at hk
        have h2 : ((0 : Nat) : Int) + (wi2d_spec.2.2.1 : Int) - 1 = (wi2d_spec.2.2.1 : Int) - 1 := by lia
        rw [h2, Int.ediv_eq_zero_of_lt (by lia) (by lia)] at hk
        lia
      refine ret _ _ _ _ _ F5 (News.pick N5 (.tail _ (.head _)) (News.pick N5 (.tail _ (.tail _ (.tail _ (.tail _ (.tail _ (.tail _ (.head _))))))) (News.pick N5 (.tail _ (.tail _ (.tail _ (.tail _ (.tail _ (.tail _ (.tail _ (.head _)))))))) News.nil))) ⟨D, _, _, _, rfl, rfl, (by rw [hk0]; exact .nil), c0, oc0, vs0, t0, rfl, hoc, hvs0, hc0⟩
theorem wf9 (V : Wd) (a : Int) (n k : Nat) (t1 t2 : Tok) (tb : List (Addr × Obj)) (htb : tb = [(47, tabObj #[])] ∨ TabF 47 33 4 q52 tb) (ha : 0 ≤ a) (hn : 0 < n) (hn2 : n ≤ 8000) (hk : ((Builtin.Int.intBits a : Int) + (n : Int) - 1).fdiv (n : Int) = (k : Int)) (hk2 : k ≤ 16) :
   Spc V (.ref 52) [.int a t1, .int n t2] 20 200 tb (fun _ => True)
     (zn9 tb fun v nx => ∃ l vs e tb', v = .ref l ∧ nx = (l, W.listOf (List.toArray vs) e) :: tb' ∧ IntsAre vs (dig n k a) ∧ TabF 47 33 4 q52 tb') := H7 (by unfold wi2d_spec; rfl) @cR9 V a n k t1 t2 tb  htb ha hn hn2 hk hk2
end
section
theorem ln8 : True := by
  (k_with "binaryOp Mult int int" => (k_here; first | (refine' tM9 ?_ ?_ ?_; rotate_right 3; (· assumption); (· assumption)) | (refine PyProof.Rows.mul_int ?_ (by assumption))))
  trivial
noncomputable def q59 : Str := (Str.ofString "_digits2int" ++ Str.ofString ".<locals>.") ++ Str.ofString "inner"
noncomputable def qr9 (f' c' D ci ca cn : Addr) (oi oa on : Obj) (dcv pmv ctv : Value) (vs : List Value) (e : Nat) : Prop := ∀ (V : Wd) {oc : Value} {od : Option Addr} {osl : Array (Option Value)} {name qual : Str} {params : Arguments} {nm : Str} {ps : Arguments} {bd : List Stmt} {dl : List PySem.Expr} {rt : Option PySem.Expr} {tp : List TypeParam} {sc : Scope} {ts : Option Scope} {bind : Str} {pos : Pos} {rest : List Stmt} {scope : Scope} {doc pm cdv ct : Value} (ho : (getK.heap_1 V.w.params).lookup 59 = some ⟨oc, od, .func (fnX name qual params (.FunctionDef nm ps bd dl rt tp sc ts bind pos :: rest) scope [] .none .none doc pm none cdv ct), osl⟩) (n : Nat) (tn : Tok) (hn2 : n ≤ 8000) (di : oi.data = .cell (some (.ref f'))) (da : oa.data = .cell (some (.ref D))) (dn : on.data = .cell (some (.int n tn))) (nc1 : @Ne Nat c' D) (nc2 : @Ne Nat c' f') (nc3 : @Ne Nat c' ci) (nc4 : @Ne Nat c' ca) (nc5 : @Ne Nat c' cn) (ns : List Int) (hvn : IntsAre vs ns) (hvs : ns.length ≤ 16) (hns : ∀ d ∈ ns, 0 ≤ d ∧ d < 2 ^ n), ∀ (kk : Nat) (Lo : Nat) (t2 t3 : Tok) (lz hz : Int), lz = (Lo : Int) → hz = ((Lo + kk : Nat) : Int) → 0 < kk → Lo + kk ≤ ns.length →
    Spc V (.ref f') [.int lz t2, .int hz t3] kk (8 * kk)
      [(D, W.listOf vs.toArray e), (f', fnMade nm q59 ps bd sc [(Str.ofString "n", cn), (Str.ofString "inner", ci), (Str.ofString "digits", ca)] dcv pmv c' ctv), (ci, oi), (ca, oa), (cn, on)]
      (fun sh => sh.CodeRec (.ref c') q59)
      (zn9 [(D, W.listOf vs.toArray e), (f', fnMade nm q59 ps bd sc [(Str.ofString "n", cn), (Str.ofString "inner", ci), (Str.ofString "digits", ca)] dcv pmv c' ctv), (ci, oi), (ca, oa), (cn, on)]
        fun v nx => nx = [(D, W.listOf vs.toArray e), (f', fnMade nm q59 ps bd sc [(Str.ofString "n", cn), (Str.ofString "inner", ci), (Str.ofString "digits", ca)] dcv pmv c' ctv), (ci, oi), (ca, oa), (cn, on)] ∧ ∃ t, v = .int (und n ((ns.drop Lo).take kk)) t)
@[irreducible] noncomputable def zk9 := W14 qr9
theorem yT9 : A14 qr9 zk9 := by
  intro V oc od osl name qual params nm ps bd dl rt tp sc ts bind pos rest scope doc pm cdv ct ho n tn hn2 di da dn nc1 nc2 nc3 nc4 nc5 ns hvn hvs hns
  have eo := yw9 ho (y := _) (by k_is)
  have nc : zk9.2.1 ∉ [zk9.2.2.1, zk9.1, zk9.2.2.2.1, zk9.2.2.2.2.1, zk9.2.2.2.2.2.1] := by
    simp only [List.mem_cons, List.not_mem_nil, or_false, not_or]
    exact ⟨nc1, nc2, nc3, nc4, nc5⟩
  have es : Stmt.FunctionDef nm ps bd dl rt tp sc ts bind pos = Stmt.FunctionDef _ _ _ _ _ _ _ _ _ _ := congrArg (fun o => theDef o 0) eo
  clear eo ho
  refine dV9 es fun e1 e2 e3 e4 => ?_
  clear es
  subst e1 e2 e3 e4
  intro kk
  induction kk using Nat.strongRecOn with
  | ind kk IH =>
  intro Lo t2 t3 lz hz elz ehz hk0 hlo
  subst elz ehz
  refine' dX9 (binds := [(Str.ofString "L", .int Lo t2), (Str.ofString "R", .int ((Lo + kk : Nat) : Int) t3)]) (.tail _ (.head _)) (fun sh h => h) ?k9 ?kB ?c5 ?c2 ?c3 ?c4 ?_
  walk_at "m_enterF"
  intro dp un gd outer A₁ base sh g L' h₁ s Q hd hu hp hsg hgh hsh F N0 hlt B X T ret
  (try dsimp only)
  k_extra "v"
  have hcg : g.CodeRec (.ref zk9.2.1) q59 := by
    k_extra "y"
    refine ex4 (hp) fun c₂ oc2 vs2 t2 hJ9 => ?_
    refine an3 hJ9 fun q1 q2 q3 q4 => ?_
    clear hJ9
    try clear hp
    k_extra "z"
    cases q1
    exact ix4 _ oc2 vs2 t2 (⟨rfl, hsg _ _ nc q2, q3, q4⟩)
  have C := codeHd_of_K (c := 58) (P := 54) X (by kernel_rfl)
  have hlen := hvn.length
  rcases Nat.lt_or_ge 1 kk with hk1 | hk1
  · refine dU9 hk1 fun k1 k2 ek1 ekk hp1 hp2 hl1k hl2k => ?_
    have hk16 : kk ≤ 16 := Nat.le_trans (Nat.le_add_left kk Lo) (Nat.le_trans hlo hvs)
    have hk116 : k1 ≤ 16 := Nat.le_trans (Nat.le_of_lt hl1k) hk16
    have hk216 : k2 ≤ 16 := Nat.le_trans (Nat.le_of_lt hl2k) hk16
    obtain ⟨sf, esf⟩ : ∃ sf, sf = k1 * n := ⟨_, rfl⟩
    obtain ⟨hi, ehi⟩ : ∃ u : Int, u = und n ((ns.drop (Lo + k1)).take k2) := ⟨_, rfl⟩
    obtain ⟨lo, elo⟩ : ∃ u : Int, u = und n ((ns.drop Lo).take k1) := ⟨_, rfl⟩
    obtain ⟨us, eus⟩ : ∃ u : Int, u = hi * 2 ^ sf := ⟨_, rfl⟩
    have hhi : 0 ≤ hi ∧ hi < 2 ^ (k2 * n) := by
      have := vv9 n ((ns.drop (Lo + k1)).take k2) fun d hd => hns d (List.mem_of_mem_drop (List.mem_of_mem_take hd))
      rw [List.length_take, List.length_drop, Nat.min_eq_left (Nat.le_sub_of_add_le (by rw [Nat.add_comm, Nat.add_assoc, ekk]; exact hlo))] at this
      rw [ehi]; exact this
    have m1 : ((Lo : Int) + ((Lo + kk : Nat) : Int)).fdiv (2 ^ Int.toNat 1) = ((Lo + k1 : Nat) : Int) := by rw [zO9 (by decide)]; rw [ek1]; exact dR9 Lo kk
    have m2 : IntMulOk (((Lo + k1 : Nat) : Int) - (Lo : Int)) (n : Int) := by rw [wj9]; exact yv9 hk116 hn2
    have m3 : (((Lo + k1 : Nat) : Int) - (Lo : Int)) * (n : Int) = (sf : Int) := by rw [esf, wj9]; rfl
    have m5 : (Builtin.Int.intBits hi : Int) + (sf : Int) ≤ 2 ^ 27 := by rw [esf]; exact yH9 hhi.1 hhi.2 hk216 hk116 hn2
    have m6 : hi * 2 ^ ((sf : Int)).toNat = us := by rw [Int.toNat_natCast, eus]
    k_extra "u"
    k_steps
    · exfalso; lia
    unfold zC9
    have S1 := IH k2 hl2k (Lo + k1)
    rw [Nat.add_assoc, ekk] at S1
    refine xn9 (rest := []) (S1 _ _ _ _ rfl rfl hp2 hlo) B (by k_asm) (by k_asm) News.nil (List.forall_mem_nil _) X T rfl (limD hd hl2k) (limU hu (h8 hl2k)) (hcg.keeps (Fr.keep (by k_asm))) ?_
    rintro v1 nx1 h1' tk1' F1 N1 _ hJ9 _ _
    k_extra "y"
    refine an1 hJ9 fun e9_0 hJ9 => ?_
    refine ex1 hJ9 fun t1' e9_1 => ?_
    iterate 2 clear hJ9
    subst e9_0
    subst e9_1
    k_extra "z"
    rw [← ehi]
    (try dsimp only)
    k_extra "u"
    k_steps
    unfold zC9
    have S2 := IH k1 hl1k Lo
    refine xn9 (rest := []) (S2 _ _ _ _ rfl rfl hp1 (Nat.le_trans (Nat.add_le_add_left (Nat.le_of_lt hl1k) Lo) hlo)) B (by k_asm) (by k_asm) News.nil (List.forall_mem_nil _) X T rfl (limD hd hl1k) (limU hu (h8 hl1k)) (hcg.keeps (Fr.keep (by k_asm))) ?_
    rintro v2 nx2 h2' tk2' F2 N2 _ hJ9 _ _
    k_extra "y"
    refine an1 hJ9 fun e9_0 hJ9 => ?_
    refine ex1 hJ9 fun t2' e9_1 => ?_
    iterate 2 clear hJ9
    subst e9_0
    subst e9_1
    k_extra "z"
    rw [← elo]
    (try dsimp only)
    k_extra "u"
    k_steps
    have q : (ns.drop Lo).take kk = (ns.drop Lo).take k1 ++ (ns.drop (Lo + k1)).take k2 := by
      rw [← ekk, List.take_add, List.drop_drop]
    have q2 : ((ns.drop Lo).take k1).length = k1 := by rw [List.length_take, List.length_drop, Nat.min_eq_left (Nat.le_sub_of_add_le (by rw [Nat.add_comm]; exact Nat.le_trans (Nat.add_le_add_left (Nat.le_of_lt hl1k) Lo) hlo))]
    have e2 : und n ((ns.drop Lo).take kk) = us + lo := by rw [q, vw9, q2, ← ehi, ← elo, ← esf, ← eus]
    rw [e2] at ret
    exact ret _ _ _ _ _ F2 N2 ⟨rfl, _, rfl⟩
  · have hk1' : kk = 1 := by lia
    subst hk1'
    have hi : Lo < ns.length := by lia
    k_extra "u"
    k_steps
    · rename Fr _ _ _ _ => F5
      rename News _ _ _ _ => N5
      have e1 : und n ((ns.drop Lo).take 1) = ns.getD ((Lo : Int)).toNat 0 := by
        rw [Int.toNat_natCast, List.drop_eq_getElem_cons hi]
        show und n [ns[Lo]] = _
        rw [yK9, cB9, Int.zero_mul, Int.add_zero]
        simp [List.getD, hi]
      rw [e1] at ret
      exact ret _ _ _ _ _ F5 N5 ⟨rfl, _, rfl⟩
    · exfalso; lia
theorem vX9 (V : Wd) {oc : Value} {od : Option Addr} {osl : Array (Option Value)} {name qual : Str} {params : Arguments} {nm : Str} {ps : Arguments} {bd : List Stmt} {dl : List PySem.Expr} {rt : Option PySem.Expr} {tp : List TypeParam} {sc : Scope} {ts : Option Scope} {bind : Str} {pos : Pos} {rest : List Stmt} {scope : Scope} {doc pm cdv ct : Value} (ho : (getK.heap_1 V.w.params).lookup 59 = some ⟨oc, od, .func (fnX name qual params (.FunctionDef nm ps bd dl rt tp sc ts bind pos :: rest) scope [] .none .none doc pm none cdv ct), osl⟩) (f' c' D ci ca cn : Addr) (oi oa on : Obj) (dcv pmv ctv : Value) (n : Nat) (tn : Tok) (hn2 : n ≤ 8000) (di : oi.data = .cell (some (.ref f'))) (da : oa.data = .cell (some (.ref D))) (dn : on.data = .cell (some (.int n tn))) (nc1 : @Ne Nat c' D) (nc2 : @Ne Nat c' f') (nc3 : @Ne Nat c' ci) (nc4 : @Ne Nat c' ca) (nc5 : @Ne Nat c' cn) (vs : List Value) (ns : List Int) (e : Nat) (hvn : IntsAre vs ns) (hvs : ns.length ≤ 16) (hns : ∀ d ∈ ns, 0 ≤ d ∧ d < 2 ^ n) : ∀ (kk : Nat) (Lo : Nat) (t2 t3 : Tok) (lz hz : Int), lz = (Lo : Int) → hz = ((Lo + kk : Nat) : Int) → 0 < kk → Lo + kk ≤ ns.length →
    Spc V (.ref f') [.int lz t2, .int hz t3] kk (8 * kk)
      [(D, W.listOf vs.toArray e), (f', fnMade nm q59 ps bd sc [(Str.ofString "n", cn), (Str.ofString "inner", ci), (Str.ofString "digits", ca)] dcv pmv c' ctv), (ci, oi), (ca, oa), (cn, on)]
      (fun sh => sh.CodeRec (.ref c') q59)
      (zn9 [(D, W.listOf vs.toArray e), (f', fnMade nm q59 ps bd sc [(Str.ofString "n", cn), (Str.ofString "inner", ci), (Str.ofString "digits", ca)] dcv pmv c' ctv), (ci, oi), (ca, oa), (cn, on)]
        fun v nx => nx = [(D, W.listOf vs.toArray e), (f', fnMade nm q59 ps bd sc [(Str.ofString "n", cn), (Str.ofString "inner", ci), (Str.ofString "digits", ca)] dcv pmv c' ctv), (ci, oi), (ca, oa), (cn, on)] ∧ ∃ t, v = .int (und n ((ns.drop Lo).take kk)) t) :=
  H14 (by unfold zk9; rfl) @yT9 f' c' D ci ca cn oi oa on dcv pmv ctv vs e V ho n tn hn2 di da dn nc1 nc2 nc3 nc4 nc5 ns hvn hvs hns
end
section
theorem ln9 : True := by
  (k_with "binaryOp Mult int int" => (k_here; (refine PyProof.Rows.mul_int ?_ (by assumption))))
  trivial
theorem wn9 (V : Wd) (D : Addr) (vs : List Value) (ns : List Int) (e : Nat) (hvn : IntsAre vs ns) (hvs : ns.length ≤ 16) (n : Nat) (t2 : Tok) (hns : ∀ d ∈ ns, 0 ≤ d ∧ d < 2 ^ n) (hn2 : n ≤ 8000) (tb : List (Addr × Obj)) (htb : tb = [(54, tabObj #[])] ∨ TabF 54 48 4 q59 tb) (hD : ∀ p ∈ tb, @Ne Nat p.1 D) :
   Spc V (.ref 59) [.ref D, .int n t2] 20 200 ((D, W.listOf vs.toArray e) :: tb) (fun _ => True)
     (zn9 ((D, W.listOf vs.toArray e) :: tb) fun v nx => ∃ t tb', v = .int (und n ns) t ∧ nx = (D, W.listOf vs.toArray e) :: tb' ∧ TabF 54 48 4 q59 tb') := by
  have hlen := hvn.length
  have hsz : vs.toArray.size ≤ 1000000 := by rw [List.size_toArray, hlen]; lia
  rcases htb with rfl | ⟨c0, oc0, vs0, t0, rfl, hoc, hvs0, hc0⟩
  · refine' uM9 (binds := [(Str.ofString "digits", .ref D), (Str.ofString "n", .int n t2)]) ?k6 ?k7 ?k9 ?kB ?c5 ?c2 ?c3 ?c4 ?_
    walk_at "m_enterC"
    intro dp un gd outer A₁ base sh g L' h₁ tk cells s Q hd hu hp hsg F N0 hlt Y B X T ret
    (try dsimp only)
    k_extra "v"
    k_extra "y"
    refine ex3 (PyProof.Rows.CellsAre.three Y) fun o1 o2 o3 hJ9 => ?_
    refine an3 hJ9 fun hE d1 d2 d3 => ?_
    clear hJ9
    k_extra "z"
    subst hE
    clear Y
    have hlt0 : @LT.lt Nat _ D L' := hlt _ (.head _)
    have hlt1 : @LT.lt Nat _ 54 L' := hlt _ (.tail _ (.head _))
    have hD1 : @Ne Nat 54 D := hD _ (.head _)
    change o1.data = .cell none at d1
    change o2.data = .cell (some (.int n t2)) at d2
    change o3.data = .cell (some (.ref D)) at d3
    change Fr g L' h₁ (fun y => none) at F
    change News g L' h₁ [(L' + 1 + 1 + 1, o1), (L' + 1 + 1, o2), (L' + 1, o3), (D, W.listOf vs.toArray e), (54, tabObj #[])] at N0
    have C := codeHd_of_K (c := 58) (P := 54) X (by kernel_rfl)
    k_extra "u"
    k_steps
    · unfold zC9
      rename News _ _ _ _ => N5
      rename Fr _ _ _ _ => F5
      rename_i f' c' oc vsc tc ctv dcv _ _ dc1 dc2 lc1 lc2 _ oF dF _ ha0 _ _
      generalize hq : qualnameIn _ _ _ = qn at dc2 N5
      have hq' : qn = q59 := hq.symm.trans (by with_unfolding_all rfl)
      subst hq'
      clear hq
      have No := News.pick N5 (.tail _ (.tail _ (.tail _ (.tail _ (.tail _ (.head _)))))) (News.pick N5 (.head _) (News.pick N5 (.tail _ (.tail _ (.head _))) (News.pick N5 (.tail _ (.tail _ (.tail _ (.tail _ (.head _))))) (News.pick N5 (.tail _ (.tail _ (.tail _ (.head _)))) News.nil))))
      have Nr := News.pick N5 (.tail _ (.head _)) (News.pick N5 (.tail _ (.tail _ (.tail _ (.tail _ (.tail _ (.tail _ (.head _))))))) News.nil)
      have hcr := codeRec_news N5 (.tail _ (.head _)) dc1 dc2
      refine xn9 (vX9 V (by k_is) f' c' D (L' + 1 + 1 + 1) (L' + 1) (L' + 1 + 1) oF o3 o2 dcv _ ctv n t2 hn2 dF d3 d2 (by lia) (by lia) (by lia) (by lia) (by lia) vs ns e hvn hvs hns ns.length 0 _ _ 0 (ns.length : Int) rfl (by simp) ha0 (by simp)) B F5 No Nr ?hsep X T rfl (by first | exact limD (by assumption) (by decide) | lia) (by first | exact limU (by assumption) (by decide) | exact limV (by assumption) (by decide) | lia) hcr ?_
      case hsep => walk_at "m_sep"
      rintro v1 nx1 h1' tk1' F1 N1 Nr1 hJ9 hh1 hh2
      k_extra "y"
      refine an1 hJ9 fun e9_0 hJ9 => ?_
      refine ex1 hJ9 fun t1' e9_1 => ?_
      iterate 2 clear hJ9
      subst e9_0
      subst e9_1
      k_extra "z"
      have hrep : (ns.drop 0).take ns.length = ns := by simp
      rw [hrep]
      have N6 := News.pick N1 (.head _) (News.pick Nr1 (.tail _ (.head _)) (News.pick Nr1 (.head _) News.nil))
      clear hh1 hh2 N1 Nr1 N5 No Nr F5
      (try dsimp only)
      k_extra "u"
      k_steps
      exact ret _ _ _ _ _ F1 N6 ⟨_, _, rfl, rfl, c', oc, vsc, tc, rfl, dc1, dc2, neN (by lia)⟩
    · rename News _ _ _ _ => N5
      rename Fr _ _ _ _ => F5
      rename_i f' c' oc vsc tc ctv dcv _ _ dc1 dc2 lc1 lc2 _ oF dF _ ha0
      generalize hq : qualnameIn _ _ _ = qn at dc2
      have hq' : qn = q59 := hq.symm.trans (by with_unfolding_all rfl)
      subst hq'
      clear hq
      have e0 : ns = [] := List.eq_nil_of_length_eq_zero (by lia)
      subst e0
      exact ret _ _ _ _ _ F5 (News.pick N5 (.tail _ (.tail _ (.tail _ (.tail _ (.tail _ (.head _)))))) (News.pick N5 (.tail _ (.tail _ (.tail _ (.tail _ (.tail _ (.tail _ (.head _))))))) (News.pick N5 (.tail _ (.head _)) News.nil))) ⟨_, _, rfl, rfl, c', oc, vsc, tc, rfl, dc1, dc2, neN (by lia)⟩
  · refine' uM9 (binds := [(Str.ofString "digits", .ref D), (Str.ofString "n", .int n t2)]) ?k6 ?k7 ?k9 ?kB ?c5 ?c2 ?c3 ?c4 ?_
    walk_at "m_enterC"
    intro dp un gd outer A₁ base sh g L' h₁ tk cells s Q hd hu hp hsg F N0 hlt Y B X T ret
    (try dsimp only)
    k_extra "v"
    k_extra "y"
    refine ex3 (PyProof.Rows.CellsAre.three Y) fun o1 o2 o3 hJ9 => ?_
    refine an3 hJ9 fun hE d1 d2 d3 => ?_
    clear hJ9
    k_extra "z"
    subst hE
    clear Y
    have hlt0 : @LT.lt Nat _ D L' := hlt _ (.head _)
    have hlt1 : @LT.lt Nat _ 54 L' := hlt _ (.tail _ (.head _))
    have hD1 : @Ne Nat 54 D := hD _ (.head _)
    have hlt2 : @LT.lt Nat _ c0 L' := hlt _ (.tail _ (.tail _ (.head _)))
    have hD2 : @Ne Nat c0 D := hD _ (.tail _ (.head _))
    change o1.data = .cell none at d1
    change o2.data = .cell (some (.int n t2)) at d2
    change o3.data = .cell (some (.ref D)) at d3
    change Fr g L' h₁ (fun y => none) at F
    change News g L' h₁ [(L' + 1 + 1 + 1, o1), (L' + 1 + 1, o2), (L' + 1, o3), (D, W.listOf vs.toArray e), (54, tabObj #[rawInt 48, rawInt 4, .ref c0]), (c0, oc0)] at N0
    have C := codeHd_of_K (c := 58) (P := 54) X (by kernel_rfl)
    k_extra "u"
    k_steps
    · unfold zC9
      rename News _ _ _ _ => N5
      rename Fr _ _ _ _ => F5
      rename_i f' ctv dcv _ _ lf _ oF dF _ ha0 _ _
      generalize hq : qualnameIn _ _ _ = qn at N5
      have hq' : qn = q59 := hq.symm.trans (by with_unfolding_all rfl)
      subst hq'
      clear hq
      have No := News.pick N5 (.tail _ (.tail _ (.tail _ (.tail _ (.head _))))) (News.pick N5 (.head _) (News.pick N5 (.tail _ (.head _)) (News.pick N5 (.tail _ (.tail _ (.tail _ (.head _)))) (News.pick N5 (.tail _ (.tail _ (.head _))) News.nil))))
      have Nr := News.pick N5 (.tail _ (.tail _ (.tail _ (.tail _ (.tail _ (.tail _ (.head _))))))) (News.pick N5 (.tail _ (.tail _ (.tail _ (.tail _ (.tail _ (.head _)))))) News.nil)
      have hcr := codeRec_news N5 (.tail _ (.tail _ (.tail _ (.tail _ (.tail _ (.tail _ (.head _))))))) hoc hvs0
      refine xn9 (vX9 V (by k_is) f' c0 D (L' + 1 + 1 + 1) (L' + 1) (L' + 1 + 1) oF o3 o2 dcv _ ctv n t2 hn2 dF d3 d2 (by lia) (by lia) (by lia) (by lia) (by lia) vs ns e hvn hvs hns ns.length 0 _ _ 0 (ns.length : Int) rfl (by simp) ha0 (by simp)) B F5 No Nr ?hsep X T rfl (by first | exact limD (by assumption) (by decide) | lia) (by first | exact limU (by assumption) (by decide) | exact limV (by assumption) (by decide) | lia) hcr ?_
      case hsep => walk_at "m_sep"
      rintro v1 nx1 h1' tk1' F1 N1 Nr1 hJ9 hh1 hh2
      k_extra "y"
      refine an1 hJ9 fun e9_0 hJ9 => ?_
      refine ex1 hJ9 fun t1' e9_1 => ?_
      iterate 2 clear hJ9
      subst e9_0
      subst e9_1
      k_extra "z"
      have hrep : (ns.drop 0).take ns.length = ns := by simp
      rw [hrep]
      have N6 := News.pick N1 (.head _) (News.pick Nr1 (.tail _ (.head _)) (News.pick Nr1 (.head _) News.nil))
      clear hh1 hh2 N1 Nr1 N5 No Nr F5
      (try dsimp only)
      k_extra "u"
      k_steps
      exact ret _ _ _ _ _ F1 N6 ⟨_, _, rfl, rfl, c0, oc0, vs0, t0, rfl, hoc, hvs0, hc0⟩
    · rename News _ _ _ _ => N5
      rename Fr _ _ _ _ => F5
      rename_i f' ctv dcv _ _ lf _ oF dF _ ha0
      have e0 : ns = [] := List.eq_nil_of_length_eq_zero (by lia)
      subst e0
      exact ret _ _ _ _ _ F5 (News.pick N5 (.tail _ (.tail _ (.tail _ (.tail _ (.head _))))) (News.pick N5 (.tail _ (.tail _ (.tail _ (.tail _ (.tail _ (.head _)))))) (News.pick N5 (.tail _ (.tail _ (.tail _ (.tail _ (.tail _ (.tail _ (.head _))))))) News.nil))) ⟨_, _, rfl, rfl, c0, oc0, vs0, t0, rfl, hoc, hvs0, hc0⟩
end
section
section
variable {prog : Program} {w : World} {A : Around} {E : Value → Shared → Prop} {s : Shared} {env : Env} {h₀ : Heap} {x : Str} {body : List Stmt} {Q : Flow → Shared → Prop}
theorem wd9 {D l : Addr} {vs : List Value} {m₀ : Str → Option Value} {news : List (Addr × Obj)} (J : Nat → (Str → Option Value) → List (Addr × Obj) → Prop)
    (hh : A.handled = none) (hls : s.heap.IsList l vs.toArray) (hlL : l ≠ env.locals) (hfx : (∃ o, h₀.get? l = some o) ∨ ∃ o, ∀ i m nx, J i m nx → (l, o) ∈ nx) (F : Fr h₀ env.locals s.heap m₀)
    (N : News h₀ env.locals s.heap ((D, revObj l ((vs.length : Int) - 1)) :: news)) (hoff : ∀ p ∈ news, p.1 ≠ D) (hlD : l ≠ D) (hj : J 0 m₀ news)
    (turn : ∀ i v m₁ nx oI h tk, vs.reverse[i]? = some v → (∀ p ∈ nx, p.1 ≠ D) → J i m₁ nx → Fr h₀ env.locals h (fun y => if y = x then some v else m₁ y) → News h₀ env.locals h (nx ++ [(D, oI)]) →
      wpAny (model prog w) A (execs body env) (yf9 h₀ env.locals (J (i + 1)) D oI { s with heap := h, toks := tk } Q) E { s with heap := h, toks := tk })
    (done : ∀ m₁ nx h tk, J vs.length m₁ nx → Fr h₀ env.locals h m₁ → News h₀ env.locals h nx → Q .next { s with heap := h, toks := tk }) :
    wpAny (model prog w) A (pyIter (.ref D)) (fun it s₂ => LoopAtV prog w A h₀ env x body Q E it s₂) E s := by
  have zD := N _ (.head _)
  have hit : s.heap.IsRevIter D l ((vs.length : Int) - 1) := ⟨_, zD.1, rfl, rfl⟩
  refine wpAny_pyIter_revIter hit ?_
  have W := Walks.listRev (prog := prog) (w := w) hh D l hlD vs.toArray
  have hlen : vs.toArray.size = vs.length := by simp
  rw [hlen] at W
  have W2 : Walks prog w A D [D, l] [D] vs.length (fun i v => vs.reverse[i]? = some v) (fun i h => i ≤ vs.length ∧ h.IsRevIter D l ((vs.length : Int) - 1 - (i : Int)) ∧ h.IsList l vs.toArray) := by
    refine ⟨W.sub, W.frame, fun i s Q E hi x hQ => ?_, W.done, W.self⟩
    refine W.item i s Q E hi x fun v h' tk hv => hQ v h' tk ?_
    rw [List.getElem?_reverse hi]
    simpa using hv
  refine tP9 J W2 ?_ zD.2.2 (fun i h st => ?_) hoff (fun b hb hne => ?_) ⟨Nat.zero_le _, ?_, hls⟩ F (fun p hp => N p (.tail _ hp)) hj ?_ done
  · intro hm
    rcases List.mem_cons.mp hm with e | hm
    · exact zD.2.1 e.symm
    · exact hlL (List.mem_singleton.mp hm).symm
  · obtain ⟨_, ⟨o, e, _⟩, _⟩ := st; exact ⟨o, e⟩
  · rcases List.mem_cons.mp hb with e | hb
    · exact absurd e hne
    · rw [List.mem_singleton.mp hb]; exact hfx
  · have e : (vs.length : Int) - 1 - ((0 : Nat) : Int) = (vs.length : Int) - 1 := by lia
    rw [e]
    exact hit
  · rintro i v m₁ nx h tk oI hin hP hne hJ F₁ N₁
    exact turn i v m₁ nx oI h tk hP hne hJ F₁ N₁
end
noncomputable def Tab2 (tb : List (Addr × Obj)) : Prop := ∃ c1 o1 vs1 t1 c2 o2 vs2 t2, tb = [(47, tabObj #[rawInt 33, rawInt 4, .ref c1]), (c1, o1), (54, tabObj #[rawInt 48, rawInt 4, .ref c2]), (c2, o2)] ∧
  o1.data = .fields vs1 ∧ vs1[1]? = some (.str q52 t1) ∧ o2.data = .fields vs2 ∧ vs2[1]? = some (.str q59 t2) ∧ @Ne Nat c1 47 ∧ @Ne Nat c1 54 ∧ @Ne Nat c2 54 ∧ @Ne Nat c2 47 ∧ @Ne Nat c1 c2
theorem cN9 {x : Int} (h : 0 < x) : 2 ^ Builtin.Int.intBits x ≤ 2 * x := by
  unfold Builtin.Int.intBits
  have hx : x.natAbs ≠ 0 := Int.natAbs_ne_zero.mpr (Int.ne_of_gt h)
  have h1 := Nat.log2_self_le hx
  split
  · lia
  · have h2 : ((2 ^ x.natAbs.log2 : Nat) : Int) ≤ ((x.natAbs : Nat) : Int) := Int.ofNat_le.mpr h1
    rw [Int.natAbs_of_nonneg (Int.le_of_lt h)] at h2
    push_cast at h2
    rw [Int.pow_add]
    lia
theorem zt9 {vs : List Value} {ns : List Int} (h : IntsAre vs ns) : ∀ {i : Nat} {v : Value}, vs[i]? = some v → ∃ x t, v = .int x t ∧ ns[i]? = some x := by
  induction h with
  | nil => intro i v e; simp at e
  | cons n t _ ih =>
    intro i v e
    cases i with
    | zero => simp at e; exact ⟨n, t, e.symm, rfl⟩
    | succ i => exact ih (by simpa using e)
theorem vE9 {vs : List Value} {ns : List Int} (h : IntsAre vs ns) : IntsAre vs.reverse ns.reverse := by
  induction h with
  | nil => exact .nil
  | cons n t _ ih => rw [List.reverse_cons, List.reverse_cons]; exact ih.append (.cons _ _ .nil)
theorem yE9 (n : Nat) : ∀ (k : Nat) (x : Int), ∀ d ∈ dig n k x, 0 ≤ d ∧ d < 2 ^ n
  | 0, x, d, hd => by cases hd
  | k + 1, x, d, hd => by
    have hp := zj9 n
    rcases List.mem_cons.mp hd with rfl | hd
    · exact ⟨Int.emod_nonneg _ (Int.ne_of_gt hp), Int.emod_lt_of_pos _ hp⟩
    · exact yE9 n k _ d hd
section
variable {prog : Program} {w : World} {A : Around} {E : Value → Shared → Prop} {s : Shared} {h₀ : Heap} {L : Addr} {m : Str → Option Value} {news : List (Addr × Obj)}
theorem revL {D : Addr} {vs : List Value} {n : Nat} {news' : List (Addr × Obj)} {Q : Value → Shared → Prop} (F : Fr h₀ L s.heap m) (N : News h₀ L s.heap news) (U : Upd D (W.listOf vs.toArray n) (W.listOf vs.reverse.toArray n) news news') (hz : vs.length ≤ 1000000)
    (h : ∀ h', Fr h₀ L h' m → News h₀ L h' news' → Q .none { s with heap := h' }) : wpAny (model prog w) A (call (.builtin "list.reverse") [.ref D]) Q E s :=
  kl_reverse F N (by simp) U (by rw [sizeLine_eq]; simp; lia) h
end
end
section
theorem ln10 : True := by
  (k_with "call builtin:list.reverse" => (k_here; (with_reducible show wpAny _ _ (call (Value.builtin _) [Value.ref _]) _ _ _); (refine' revL ?_ ?_ ?_ ?_ ?_; rotate_right 5; (· k_asm); (· k_asm); (· k_upd); (· assumption)); intro _ _ _; (try k_sweep)))
  trivial
noncomputable def xm9 (V : Wd) (a : Int) (b : Int) (t1 : Tok) (t2 : Tok) (tb : List (Addr × Obj))  : Prop := ∀ (DIV2 : ∀ (a b : Int) (n : Nat) (t1 t2 t3 : Tok), 0 ≤ a → 2 ^ n ≤ 2 * b → b < 2 ^ n → a < b * 2 ^ n → n ≤ 7900 → Spc V (.ref 38) [.int a t1, .int b t2, .int n t3] 3 24 [] (fun _ => True) (New1 fun o => ∃ t t', o = tupO [.int (a.fdiv b) t, .int (a.fmod b) t'])) (htb : tb = [(47, tabObj #[]), (54, tabObj #[])] ∨ Tab2 tb) (ha : 0 ≤ a) (hb : 0 < b) (hn7 : Builtin.Int.intBits b ≤ 7900) (hk16 : Builtin.Int.intBits a ≤ 14 * Builtin.Int.intBits b),
   Spc V (.ref 66) [.int a t1, .int b t2] 24 300 tb (fun _ => True)
     (zn9 tb fun v nx => ∃ l t t' tb', v = .ref l ∧ nx = (l, tupO [.int (a.fdiv b) t, .int (a.fmod b) t']) :: tb' ∧ Tab2 tb' ∧ AllNe l tb')
@[irreducible] noncomputable def wdivmod_pos_spec := W6 xm9
@[irreducible] noncomputable def zH9 := hF9 (C := Spc wdivmod_pos_spec.1 (.ref 66) [.int wdivmod_pos_spec.2.1 wdivmod_pos_spec.2.2.2.1, .int wdivmod_pos_spec.2.2.1 wdivmod_pos_spec.2.2.2.2.1] 24 300 wdivmod_pos_spec.2.2.2.2.2 (fun _ => True)
     (zn9 wdivmod_pos_spec.2.2.2.2.2 fun v nx => ∃ l t t' tb', v = .ref l ∧ nx = (l, tupO [.int (wdivmod_pos_spec.2.1.fdiv wdivmod_pos_spec.2.2.1) t, .int (wdivmod_pos_spec.2.1.fmod wdivmod_pos_spec.2.2.1) t']) :: tb' ∧ Tab2 tb' ∧ AllNe l tb')) (fun h => by
    refine' uL9 (binds := [(Str.ofString "a", .int wdivmod_pos_spec.2.1 wdivmod_pos_spec.2.2.2.1), (Str.ofString "b", .int wdivmod_pos_spec.2.2.1 wdivmod_pos_spec.2.2.2.2.1)]) ?k6 ?k7 ?k9 ?kB ?c5 ?c2 ?c3 ?c4 h
    walk_at "m_enter"
    )
theorem qk9 : A6 xm9 wdivmod_pos_spec := by
  intro DIV2 htb ha hb hn7 hk16
  obtain ⟨n, en⟩ : ∃ n, n = Builtin.Int.intBits wdivmod_pos_spec.2.2.1 := ⟨_, rfl⟩
  have hb0 : 2 ^ n ≤ 2 * wdivmod_pos_spec.2.2.1 := by rw [en]; exact cN9 hb
  have hb1 : wdivmod_pos_spec.2.2.1 < 2 ^ n := by
    have h1 := zp9 wdivmod_pos_spec.2.2.1
    rw [← en] at h1
    have h2 : ((wdivmod_pos_spec.2.2.1.natAbs : Nat) : Int) < ((2 ^ n : Nat) : Int) := Int.ofNat_lt.mpr h1
    rw [Int.natAbs_of_nonneg (by lia)] at h2
    push_cast at h2
    exact h2
  have hn0 : 0 < n := by
    rcases Nat.eq_zero_or_pos n with e | e
    · subst e; simp at hb0 hb1; lia
    · exact e
  rw [← en] at hn7 hk16
  obtain ⟨k, hk⟩ : ∃ k : Nat, ((Builtin.Int.intBits wdivmod_pos_spec.2.1 : Int) + (n : Int) - 1).fdiv (n : Int) = (k : Int) := by
    rw [zO9 (by lia)]
    exact ⟨_, (Int.toNat_of_nonneg (Int.ediv_nonneg (by lia) (by lia))).symm⟩
  have hk2 : k ≤ 16 := by
    rw [zO9 (by lia)] at hk
    have h1 : ((Builtin.Int.intBits wdivmod_pos_spec.2.1 : Int) + (n : Int) - 1) / (n : Int) < 16 := Int.ediv_lt_of_lt_mul (by lia) (by lia)
    lia
  have hds := yE9 n k wdivmod_pos_spec.2.1
  have hund : und n (dig n k wdivmod_pos_spec.2.1) = wdivmod_pos_spec.2.1 := cd9 n k wdivmod_pos_spec.2.1 ha (uG9 ha hn0 hk).1
  have hdl := tw9 n k wdivmod_pos_spec.2.1
  generalize hds' : dig n k wdivmod_pos_spec.2.1 = ds at *
  have hP := zj9 n
  have hnb : (Builtin.Int.intBits wdivmod_pos_spec.2.2.1 : Int) = (n : Int) := by rw [en]
  refine' uL9 (binds := [(Str.ofString "a", .int wdivmod_pos_spec.2.1 wdivmod_pos_spec.2.2.2.1), (Str.ofString "b", .int wdivmod_pos_spec.2.2.1 wdivmod_pos_spec.2.2.2.2.1)]) ?k6 ?k7 ?k9 ?kB ?c5 ?c2 ?c3 ?c4 ?_
  walk_at "m_enter"
  refine H12 (c := zH9) (by unfold zH9; rfl) ?_
  intro hd hu hp hsg F N0 hlt B X T ret
  rcases htb with htb | ⟨c1, oc1, vs1, x1, c2, oc2, vs2, x2, htb, hc1, hc1', hc2, hc2', d1, d2, d3, d4, d5⟩
  · rw [htb] at N0 hlt hsg
    (try dsimp only)
    have hlt1 : @LT.lt Nat _ 47 zH9.2.2.2.2.2.2.2.2.1 := hlt _ (.head _)
    have hlt2 : @LT.lt Nat _ 54 zH9.2.2.2.2.2.2.2.2.1 := hlt _ (.tail _ (.head _))
    k_steps
    rw [hnb]
    unfold zC9
    rename News _ _ _ _ => N5
    rename Fr _ _ _ _ => F5
    refine xn9 (wf9 wdivmod_pos_spec.1 wdivmod_pos_spec.2.1 n k _ _ [(47, tabObj #[])] (.inl rfl) ha hn0 (by lia) hk hk2) B F5 (News.pick N5 (.head _) News.nil) (News.pick N5 (.tail _ (.head _)) News.nil) ?hsep X T rfl (by first | exact limD (by assumption) (by decide) | lia) (by first | exact limU (by assumption) (by decide) | exact limV (by assumption) (by decide) | lia) trivial ?_
    case hsep => walk_at "m_sep"
    rintro v1 nx1 h1' tk1' F1 N1 Nr1 hJ9 hh1 hh2
    k_extra "y"
    refine ex4 hJ9 fun D vs e tb' hJ9 => ?_
    refine an3 hJ9 fun e9_0 e9_1 hvs hJ9 => ?_
    refine ex4 hJ9 fun c oc vsc xc hJ9 => ?_
    refine an3 hJ9 fun e9_2 hoc hoc' hcP => ?_
    iterate 4 clear hJ9
    subst e9_0
    subst e9_1
    subst e9_2
    k_extra "z"
    rw [hds'] at hvs
    (try dsimp only)
    have N6 := News.pick N1 (.head _) (News.pick N1 (.tail _ (.head _)) (News.pick N1 (.tail _ (.tail _ (.head _))) Nr1))
    have q1 : AllNe D [(54, tabObj #[])] := hh1 _ (.head _)
    have q2 : AllNe c [(54, tabObj #[])] := hh1 _ (.tail _ (.tail _ (.head _)))
    have q3 : @Ne Nat D 47 := by
      intro e; subst e
      have z1 := (N1 _ (.head _)).1
      have z2 := (N1 _ (.tail _ (.head _))).1
      rw [z1] at z2; cases z2
    have q4 : @Ne Nat D c := by
      intro e; subst e
      have z1 := (N1 _ (.head _)).1
      have z2 := (N1 _ (.tail _ (.tail _ (.head _)))).1
      have z3 : _ = oc := Option.some.inj (z1.symm.trans z2)
      rw [← z3] at hoc; cases hoc
    dsimp only [xz9, qA9] at q1 q2
    clear hh1 hh2 N1 Nr1 N5 F5
    k_steps
    unfold zC9
    clear hlt
    rename_i Q1 _ lq1 _ _ _ _ _ D1 _ F6 N6' lD1
    dsimp +zetaDelta only at F6
    rw [hnb] at F6
    have hvl : vs.length = k := by rw [hvs.length, hdl]
    have hls : ∀ h', News zH9.2.2.2.2.2.2.2.1 zH9.2.2.2.2.2.2.2.2.1 h' _ → h'.IsList D vs.toArray := fun h' (N : News zH9.2.2.2.2.2.2.2.1 zH9.2.2.2.2.2.2.2.2.1 h' [(D1, revObj D (↑vs.length - 1)), (Q1, W.listOf #[] 0), (D, W.listOf vs.toArray e), (47, tabObj #[rawInt 33, rawInt 4, .ref c]), (c, oc), (54, tabObj #[])]) => ⟨_, (N _ (.tail _ (.tail _ (.head _)))).1, rfl, _, rfl⟩
    refine wd9 (l := D) (vs := vs) (J := fun i m nx => ∃ (vq : List Value) (qs : List Int) (eq : Nat) (r : Int) (tr tn tbk : Tok) (m' : Str → Option Value), m = (fun y => if y = Str.ofString "q_digits" then some (.ref Q1) else if y = Str.ofString "r" then some (.int r tr) else if y = Str.ofString "n" then some (.int n tn) else if y = Str.ofString "b" then some (.int wdivmod_pos_spec.2.2.1 tbk) else m' y) ∧
       nx = [(Q1, W.listOf (List.toArray vq) eq), (D, W.listOf vs.toArray e), (47, tabObj #[rawInt 33, rawInt 4, .ref c]), (c, oc), (54, tabObj #[])] ∧ IntsAre vq qs ∧ qs.length = i ∧ (∀ d ∈ qs, 0 ≤ d ∧ d < 2 ^ n) ∧ 0 ≤ r ∧ r < wdivmod_pos_spec.2.2.1 ∧ und n qs.reverse * wdivmod_pos_spec.2.2.1 + r = und n (ds.drop (k - i)))
      rfl (hls _ N6') (N6' _ (.tail _ (.tail _ (.head _)))).2.1 (.inr ⟨W.listOf vs.toArray e, ?_⟩) F6 N6' ?_ ?_ ⟨[], [], 0, 0, _, _, _, _, zq9 rfl rfl rfl rfl, rfl, .nil, rfl, List.forall_mem_nil _, by lia, hb, ?_⟩ ?_ ?_
    · rintro i m nx hJ9
      k_extra "y"
      refine ex8 hJ9 fun vq qs eq r tr tn tbk m' hJ9 => ?_
      refine an2 hJ9 fun e9_0 e9_1 _ => ?_
      iterate 2 clear hJ9
      subst e9_0
      subst e9_1
      k_extra "z"
      exact (.tail _ (.head _))
    · intro p hp; revert p; walk_at "m_sep"
    · show D ≠ D1; exact neN (by lia)
    · rw [Nat.sub_zero, List.drop_of_length_le (by lia)]
      simp [cB9]
    · rintro i v m₁ nx oI h tk hi hne hJ9 F7 N7
      k_extra "y"
      refine ex8 hJ9 fun vq qs eq r tr tn tbk m' hJ9 => ?_
      refine an7 hJ9 fun e9_0 e9_1 hq1 hq2 hq3 hr0 hr1 hq4 => ?_
      iterate 2 clear hJ9
      subst e9_0
      subst e9_1
      k_extra "z"
      k_extra "y"
      refine ex2 (zt9 (vE9 hvs) hi) fun d td hJ9 => ?_
      refine an1 hJ9 fun e9_0 hdi => ?_
      clear hJ9
      subst e9_0
      k_extra "z"
      have hik : i < k := by
        have := (List.getElem?_eq_some_iff.mp hdi).1
        rw [List.length_reverse] at this; lia
      have hd0 : 0 ≤ d ∧ d < 2 ^ n := hds d (List.mem_reverse.mp (List.mem_of_getElem? hdi))
      have hdrop : ds.drop (k - (i + 1)) = d :: ds.drop (k - i) := by
        have h1 : k - (i + 1) < ds.length := by rw [hdl]; exact Nat.sub_lt (Nat.lt_of_le_of_lt (Nat.zero_le i) hik) (Nat.succ_pos i)
        rw [List.drop_eq_getElem_cons h1, show k - (i + 1) + 1 = k - i from Nat.succ_pred_eq_of_pos (Nat.sub_pos_of_lt hik)]
        congr 1
        rw [List.getElem?_reverse (by lia)] at hdi
        rw [show ds.length - 1 - i = k - (i + 1) by lia, List.getElem?_eq_getElem h1] at hdi
        exact Option.some.inj hdi
      have w1 : (Builtin.Int.intBits r : Int) + (n : Int) ≤ 2 ^ 27 := by
        have := zT9 hr0 (Int.lt_trans hr1 hb1); lia
      have w2 : r * 2 ^ ((n : Int)).toNat = r * 2 ^ n := by rw [Int.toNat_natCast]
      have w3 : r * 2 ^ n + d < wdivmod_pos_spec.2.2.1 * 2 ^ n := yt9 hP hr1 hd0.2
      have w4 : 0 ≤ r * 2 ^ n + d := by have := Int.mul_nonneg hr0 (Int.le_of_lt hP); lia
      have w5 : vq.toArray.size ≤ sizeLine := by rw [sizeLine_eq, List.size_toArray, hq1.length]; lia
      have hneQ : @Ne Nat Q1 D1 := hne _ (.head _)
      have hneD : @Ne Nat D D1 := hne _ (.tail _ (.head _))
      revert w2 w3 w4
      induction (r * 2 ^ n) using gen1
      rename_i rs; intro w2 w3 w4
      k_steps
      unfold zC9
      refine use1 (DIV2 (rs + d) wdivmod_pos_spec.2.2.1 n _ _ _ w4 hb0 hb1 w3 hn7) B (by k_asm) (by k_asm) X T rfl (by first | exact limD (by assumption) (by decide) | lia) (by first | exact limU (by assumption) (by decide) | exact limV (by assumption) (by decide) | lia) trivial ?_
      intro T1 o1 h1' tk1' F8 N8 hne1 ⟨u1, u1', ho1⟩
      have hd1 := xv9 (rs + d) hb
      have hd2 := qF9 hb w4 w3
      revert ho1 hd1 hd2
      induction ((rs + d).fdiv wdivmod_pos_spec.2.2.1) using gen1
      rename_i q1; intro ho1 hd1 hd2
      revert ho1 hd1
      induction ((rs + d).fmod wdivmod_pos_spec.2.2.1) using gen1
      rename_i r1; intro ho1 hd1
      subst ho1
      simp only [List.cons_append, List.nil_append, AllNe] at hne1
      (try dsimp only)
      k_steps
      rename Fr _ _ _ _ => F9
      rename News _ _ _ _ => N9
      simp only [List.push_toArray] at N9
      have e5 : und n ((q1 :: qs.reverse)) * wdivmod_pos_spec.2.2.1 + r1 = und n (d :: ds.drop (k - i)) := by
        rw [yK9, yK9, ← hq4]
        rw [Int.toNat_natCast] at w2
        have := hd1.1
        grind
      refine ix4 _ _ _ ([(Q1, _), (D, _), (47, _), (c, _), (54, _)]) (⟨rfl, F9, fun p hp => N9 p (.tail _ hp), ?_, ix8 (vq ++ [.int q1 u1]) (qs ++ [q1]) _ r1 _ _ _ _ (⟨zq9 rfl rfl rfl rfl, rfl, hq1.append (.cons _ _ .nil), by rw [List.length_append, hq2]; rfl, ?_, hd1.2.1, hd1.2.2, ?_⟩)⟩)
      · intro p hp; revert p; walk_at "m_sep"
      · intro x hx
        rcases List.mem_append.mp hx with hx | hx
        · exact hq3 x hx
        · rw [List.mem_singleton.mp hx]; exact hd2
      · rw [hdrop, List.reverse_append]; exact e5
    · rintro m₁ nx h tk hJ9 F7 N7
      k_extra "y"
      refine ex8 hJ9 fun vq qs eq r tr tn tbk m' hJ9 => ?_
      refine an7 hJ9 fun e9_0 e9_1 hq1 hq2 hq3 hr0 hr1 hq4 => ?_
      iterate 2 clear hJ9
      subst e9_0
      subst e9_1
      k_extra "z"
      rw [hvl] at hq2 hq4
      rw [Nat.sub_self, List.drop_zero, hund] at hq4
      obtain ⟨z1, z2⟩ := xk9 hq4 hr0 hr1
      have w5 : vq.length ≤ 1000000 := by rw [hq1.length]; lia
      clear F6 N6'
      k_steps
      unfold zC9
      rename News _ _ _ _ => N8
      rename Fr _ _ _ _ => F8
      refine xn9 (wn9 wdivmod_pos_spec.1 Q1 vq.reverse qs.reverse eq (vE9 hq1) (by rw [List.length_reverse]; lia) n _ (fun d hd => hq3 d (List.mem_reverse.mp hd)) (by lia) [(54, tabObj #[])] (.inl rfl) ?hD) B F8 (News.pick N8 (.head _) (News.pick N8 (.tail _ (.tail _ (.tail _ (.tail _ (.head _))))) News.nil)) (News.pick N8 (.tail _ (.tail _ (.head _))) (News.pick N8 (.tail _ (.tail _ (.tail _ (.head _)))) News.nil)) ?hsep X T rfl (by first | exact limD (by assumption) (by decide) | lia) (by first | exact limU (by assumption) (by decide) | exact limV (by assumption) (by decide) | lia) trivial ?_
      case hsep => walk_at "m_sep"
      case hD => intro p hp; revert p; walk_at "m_sep"
      rintro v1 nx1 h1' tk1' F9 N9 Nr9 hJ9 hh1 hh2
      k_extra "y"
      refine ex2 hJ9 fun t9 tb' hJ9 => ?_
      refine an2 hJ9 fun e9_0 e9_1 hJ9 => ?_
      refine ex4 hJ9 fun cc occ vscc xcc hJ9 => ?_
      refine an3 hJ9 fun e9_2 hocc hocc' hccP => ?_
      iterate 4 clear hJ9
      subst e9_0
      subst e9_1
      subst e9_2
      k_extra "z"
      have N10 := News.pick Nr9 (.head _) (News.pick Nr9 (.tail _ (.head _)) (News.pick N9 (.tail _ (.head _)) (News.pick N9 (.tail _ (.tail _ (.head _))) News.nil)))
      have q5 : AllNe cc [(47, tabObj #[rawInt 33, rawInt 4, .ref c]), (c, oc)] := hh1 _ (.tail _ (.tail _ (.head _)))
      dsimp only [xz9, qA9] at q5
      clear hh1 hh2 N9 Nr9 N8
      (try dsimp only)
      k_steps
      rename News _ _ _ _ => N11
      rename Fr _ _ _ _ => F11
      rename_i T11 _ l11
      rw [z1, z2] at ret
      exact ret _ _ _ _ _ F11 N11 ⟨_, _, _, _, rfl, rfl, ⟨c, oc, vsc, xc, cc, occ, vscc, xcc, rfl, hoc, hoc', hocc, hocc', hcP, (q2.1).symm, hccP, (q5.1).symm, q5.2.1⟩, neN (by lia), neN (by lia), neN (by lia), neN (by lia), trivial⟩
  · rw [htb] at N0 hlt hsg
    (try dsimp only)
    have hlt1 : @LT.lt Nat _ 47 zH9.2.2.2.2.2.2.2.2.1 := hlt _ (.head _)
    have hlt2 : @LT.lt Nat _ 54 zH9.2.2.2.2.2.2.2.2.1 := hlt _ (.tail _ (.tail _ (.head _)))
    have hlt3 : @LT.lt Nat _ c1 zH9.2.2.2.2.2.2.2.2.1 := hlt _ (.tail _ (.head _))
    have hlt4 : @LT.lt Nat _ c2 zH9.2.2.2.2.2.2.2.2.1 := hlt _ (.tail _ (.tail _ (.tail _ (.head _))))
    k_steps
    rw [hnb]
    unfold zC9
    rename News _ _ _ _ => N5
    rename Fr _ _ _ _ => F5
    refine xn9 (wf9 wdivmod_pos_spec.1 wdivmod_pos_spec.2.1 n k _ _ [(47, tabObj #[rawInt 33, rawInt 4, .ref c1]), (c1, oc1)] (.inr ⟨_, _, _, _, rfl, hc1, hc1', d1⟩) ha hn0 (by lia) hk hk2) B F5 (News.pick N5 (.head _) (News.pick N5 (.tail _ (.head _)) News.nil)) (News.pick N5 (.tail _ (.tail _ (.head _))) (News.pick N5 (.tail _ (.tail _ (.tail _ (.head _)))) News.nil)) ?hsep X T rfl (by first | exact limD (by assumption) (by decide) | lia) (by first | exact limU (by assumption) (by decide) | exact limV (by assumption) (by decide) | lia) trivial ?_
    case hsep => walk_at "m_sep"
    rintro v1 nx1 h1' tk1' F1 N1 Nr1 hJ9 hh1 hh2
    k_extra "y"
    refine ex4 hJ9 fun D vs e tb' hJ9 => ?_
    refine an3 hJ9 fun e9_0 e9_1 hvs hJ9 => ?_
    refine ex4 hJ9 fun c oc vsc xc hJ9 => ?_
    refine an3 hJ9 fun e9_2 hoc hoc' hcP => ?_
    iterate 4 clear hJ9
    subst e9_0
    subst e9_1
    subst e9_2
    k_extra "z"
    rw [hds'] at hvs
    (try dsimp only)
    have N6 := News.pick N1 (.head _) (News.pick N1 (.tail _ (.head _)) (News.pick N1 (.tail _ (.tail _ (.head _))) Nr1))
    have q1 : AllNe D [(54, tabObj #[rawInt 48, rawInt 4, .ref c2]), (c2, oc2)] := hh1 _ (.head _)
    have q2 : AllNe c [(54, tabObj #[rawInt 48, rawInt 4, .ref c2]), (c2, oc2)] := hh1 _ (.tail _ (.tail _ (.head _)))
    have q3 : @Ne Nat D 47 := by
      intro e; subst e
      have z1 := (N1 _ (.head _)).1
      have z2 := (N1 _ (.tail _ (.head _))).1
      rw [z1] at z2; cases z2
    have q4 : @Ne Nat D c := by
      intro e; subst e
      have z1 := (N1 _ (.head _)).1
      have z2 := (N1 _ (.tail _ (.tail _ (.head _)))).1
      have z3 : _ = oc := Option.some.inj (z1.symm.trans z2)
      rw [← z3] at hoc; cases hoc
    dsimp only [xz9, qA9] at q1 q2
    clear hh1 hh2 N1 Nr1 N5 F5
    k_steps
    unfold zC9
    clear hlt
    rename_i Q1 _ lq1 _ _ _ _ _ D1 _ F6 N6' lD1
    dsimp +zetaDelta only at F6
    rw [hnb] at F6
    have hvl : vs.length = k := by rw [hvs.length, hdl]
    have hls : ∀ h', News zH9.2.2.2.2.2.2.2.1 zH9.2.2.2.2.2.2.2.2.1 h' _ → h'.IsList D vs.toArray := fun h' (N : News zH9.2.2.2.2.2.2.2.1 zH9.2.2.2.2.2.2.2.2.1 h' [(D1, revObj D (↑vs.length - 1)), (Q1, W.listOf #[] 0), (D, W.listOf vs.toArray e), (47, tabObj #[rawInt 33, rawInt 4, .ref c]), (c, oc), (54, tabObj #[rawInt 48, rawInt 4, .ref c2]), (c2, oc2)]) => ⟨_, (N _ (.tail _ (.tail _ (.head _)))).1, rfl, _, rfl⟩
    refine wd9 (l := D) (vs := vs) (J := fun i m nx => ∃ (vq : List Value) (qs : List Int) (eq : Nat) (r : Int) (tr tn tbk : Tok) (m' : Str → Option Value), m = (fun y => if y = Str.ofString "q_digits" then some (.ref Q1) else if y = Str.ofString "r" then some (.int r tr) else if y = Str.ofString "n" then some (.int n tn) else if y = Str.ofString "b" then some (.int wdivmod_pos_spec.2.2.1 tbk) else m' y) ∧
       nx = [(Q1, W.listOf (List.toArray vq) eq), (D, W.listOf vs.toArray e), (47, tabObj #[rawInt 33, rawInt 4, .ref c]), (c, oc), (54, tabObj #[rawInt 48, rawInt 4, .ref c2]), (c2, oc2)] ∧ IntsAre vq qs ∧ qs.length = i ∧ (∀ d ∈ qs, 0 ≤ d ∧ d < 2 ^ n) ∧ 0 ≤ r ∧ r < wdivmod_pos_spec.2.2.1 ∧ und n qs.reverse * wdivmod_pos_spec.2.2.1 + r = und n (ds.drop (k - i)))
      rfl (hls _ N6') (N6' _ (.tail _ (.tail _ (.head _)))).2.1 (.inr ⟨W.listOf vs.toArray e, ?_⟩) F6 N6' ?_ ?_ ⟨[], [], 0, 0, _, _, _, _, zq9 rfl rfl rfl rfl, rfl, .nil, rfl, List.forall_mem_nil _, by lia, hb, ?_⟩ ?_ ?_
    · rintro i m nx hJ9
      k_extra "y"
      refine ex8 hJ9 fun vq qs eq r tr tn tbk m' hJ9 => ?_
      refine an2 hJ9 fun e9_0 e9_1 _ => ?_
      iterate 2 clear hJ9
      subst e9_0
      subst e9_1
      k_extra "z"
      exact (.tail _ (.head _))
    · intro p hp; revert p; walk_at "m_sep"
    · show D ≠ D1; exact neN (by lia)
    · rw [Nat.sub_zero, List.drop_of_length_le (by lia)]
      simp [cB9]
    · rintro i v m₁ nx oI h tk hi hne hJ9 F7 N7
      k_extra "y"
      refine ex8 hJ9 fun vq qs eq r tr tn tbk m' hJ9 => ?_
      refine an7 hJ9 fun e9_0 e9_1 hq1 hq2 hq3 hr0 hr1 hq4 => ?_
      iterate 2 clear hJ9
      subst e9_0
      subst e9_1
      k_extra "z"
      k_extra "y"
      refine ex2 (zt9 (vE9 hvs) hi) fun d td hJ9 => ?_
      refine an1 hJ9 fun e9_0 hdi => ?_
      clear hJ9
      subst e9_0
      k_extra "z"
      have hik : i < k := by
        have := (List.getElem?_eq_some_iff.mp hdi).1
        rw [List.length_reverse] at this; lia
      have hd0 : 0 ≤ d ∧ d < 2 ^ n := hds d (List.mem_reverse.mp (List.mem_of_getElem? hdi))
      have hdrop : ds.drop (k - (i + 1)) = d :: ds.drop (k - i) := by
        have h1 : k - (i + 1) < ds.length := by rw [hdl]; exact Nat.sub_lt (Nat.lt_of_le_of_lt (Nat.zero_le i) hik) (Nat.succ_pos i)
        rw [List.drop_eq_getElem_cons h1, show k - (i + 1) + 1 = k - i from Nat.succ_pred_eq_of_pos (Nat.sub_pos_of_lt hik)]
        congr 1
        rw [List.getElem?_reverse (by lia)] at hdi
        rw [show ds.length - 1 - i = k - (i + 1) by lia, List.getElem?_eq_getElem h1] at hdi
        exact Option.some.inj hdi
      have w1 : (Builtin.Int.intBits r : Int) + (n : Int) ≤ 2 ^ 27 := by
        have := zT9 hr0 (Int.lt_trans hr1 hb1); lia
      have w2 : r * 2 ^ ((n : Int)).toNat = r * 2 ^ n := by rw [Int.toNat_natCast]
      have w3 : r * 2 ^ n + d < wdivmod_pos_spec.2.2.1 * 2 ^ n := yt9 hP hr1 hd0.2
      have w4 : 0 ≤ r * 2 ^ n + d := by have := Int.mul_nonneg hr0 (Int.le_of_lt hP); lia
      have w5 : vq.toArray.size ≤ sizeLine := by rw [sizeLine_eq, List.size_toArray, hq1.length]; lia
      have hneQ : @Ne Nat Q1 D1 := hne _ (.head _)
      have hneD : @Ne Nat D D1 := hne _ (.tail _ (.head _))
      revert w2 w3 w4
      induction (r * 2 ^ n) using gen1
      rename_i rs; intro w2 w3 w4
      k_steps
      unfold zC9
      refine use1 (DIV2 (rs + d) wdivmod_pos_spec.2.2.1 n _ _ _ w4 hb0 hb1 w3 hn7) B (by k_asm) (by k_asm) X T rfl (by first | exact limD (by assumption) (by decide) | lia) (by first | exact limU (by assumption) (by decide) | exact limV (by assumption) (by decide) | lia) trivial ?_
      intro T1 o1 h1' tk1' F8 N8 hne1 ⟨u1, u1', ho1⟩
      have hd1 := xv9 (rs + d) hb
      have hd2 := qF9 hb w4 w3
      revert ho1 hd1 hd2
      induction ((rs + d).fdiv wdivmod_pos_spec.2.2.1) using gen1
      rename_i q1; intro ho1 hd1 hd2
      revert ho1 hd1
      induction ((rs + d).fmod wdivmod_pos_spec.2.2.1) using gen1
      rename_i r1; intro ho1 hd1
      subst ho1
      simp only [List.cons_append, List.nil_append, AllNe] at hne1
      (try dsimp only)
      k_steps
      rename Fr _ _ _ _ => F9
      rename News _ _ _ _ => N9
      simp only [List.push_toArray] at N9
      have e5 : und n ((q1 :: qs.reverse)) * wdivmod_pos_spec.2.2.1 + r1 = und n (d :: ds.drop (k - i)) := by
        rw [yK9, yK9, ← hq4]
        rw [Int.toNat_natCast] at w2
        have := hd1.1
        grind
      refine ix4 _ _ _ ([(Q1, _), (D, _), (47, _), (c, _), (54, _), (c2, _)]) (⟨rfl, F9, fun p hp => N9 p (.tail _ hp), ?_, ix8 (vq ++ [.int q1 u1]) (qs ++ [q1]) _ r1 _ _ _ _ (⟨zq9 rfl rfl rfl rfl, rfl, hq1.append (.cons _ _ .nil), by rw [List.length_append, hq2]; rfl, ?_, hd1.2.1, hd1.2.2, ?_⟩)⟩)
      · intro p hp; revert p; walk_at "m_sep"
      · intro x hx
        rcases List.mem_append.mp hx with hx | hx
        · exact hq3 x hx
        · rw [List.mem_singleton.mp hx]; exact hd2
      · rw [hdrop, List.reverse_append]; exact e5
    · rintro m₁ nx h tk hJ9 F7 N7
      k_extra "y"
      refine ex8 hJ9 fun vq qs eq r tr tn tbk m' hJ9 => ?_
      refine an7 hJ9 fun e9_0 e9_1 hq1 hq2 hq3 hr0 hr1 hq4 => ?_
      iterate 2 clear hJ9
      subst e9_0
      subst e9_1
      k_extra "z"
      rw [hvl] at hq2 hq4
      rw [Nat.sub_self, List.drop_zero, hund] at hq4
      obtain ⟨z1, z2⟩ := xk9 hq4 hr0 hr1
      have w5 : vq.length ≤ 1000000 := by rw [hq1.length]; lia
      clear F6 N6'
      k_steps
      unfold zC9
      rename News _ _ _ _ => N8
      rename Fr _ _ _ _ => F8
      refine xn9 (wn9 wdivmod_pos_spec.1 Q1 vq.reverse qs.reverse eq (vE9 hq1) (by rw [List.length_reverse]; lia) n _ (fun d hd => hq3 d (List.mem_reverse.mp hd)) (by lia) [(54, tabObj #[rawInt 48, rawInt 4, .ref c2]), (c2, oc2)] (.inr ⟨_, _, _, _, rfl, hc2, hc2', d3⟩) ?hD) B F8 (News.pick N8 (.head _) (News.pick N8 (.tail _ (.tail _ (.tail _ (.tail _ (.head _))))) (News.pick N8 (.tail _ (.tail _ (.tail _ (.tail _ (.tail _ (.head _)))))) News.nil))) (News.pick N8 (.tail _ (.tail _ (.head _))) (News.pick N8 (.tail _ (.tail _ (.tail _ (.head _)))) News.nil)) ?hsep X T rfl (by first | exact limD (by assumption) (by decide) | lia) (by first | exact limU (by assumption) (by decide) | exact limV (by assumption) (by decide) | lia) trivial ?_
      case hsep => walk_at "m_sep"
      case hD => intro p hp; revert p; walk_at "m_sep"
      rintro v1 nx1 h1' tk1' F9 N9 Nr9 hJ9 hh1 hh2
      k_extra "y"
      refine ex2 hJ9 fun t9 tb' hJ9 => ?_
      refine an2 hJ9 fun e9_0 e9_1 hJ9 => ?_
      refine ex4 hJ9 fun cc occ vscc xcc hJ9 => ?_
      refine an3 hJ9 fun e9_2 hocc hocc' hccP => ?_
      iterate 4 clear hJ9
      subst e9_0
      subst e9_1
      subst e9_2
      k_extra "z"
      have N10 := News.pick Nr9 (.head _) (News.pick Nr9 (.tail _ (.head _)) (News.pick N9 (.tail _ (.head _)) (News.pick N9 (.tail _ (.tail _ (.head _))) News.nil)))
      have q5 : AllNe cc [(47, tabObj #[rawInt 33, rawInt 4, .ref c]), (c, oc)] := hh1 _ (.tail _ (.tail _ (.head _)))
      dsimp only [xz9, qA9] at q5
      clear hh1 hh2 N9 Nr9 N8
      (try dsimp only)
      k_steps
      rename News _ _ _ _ => N11
      rename Fr _ _ _ _ => F11
      rename_i T11 _ l11
      rw [z1, z2] at ret
      exact ret _ _ _ _ _ F11 N11 ⟨_, _, _, _, rfl, rfl, ⟨c, oc, vsc, xc, cc, occ, vscc, xcc, rfl, hoc, hoc', hocc, hocc', hcP, (q2.1).symm, hccP, (q5.1).symm, q5.2.1⟩, neN (by lia), neN (by lia), neN (by lia), neN (by lia), trivial⟩
theorem vc9 (V : Wd) (DIV2 : ∀ (a b : Int) (n : Nat) (t1 t2 t3 : Tok), 0 ≤ a → 2 ^ n ≤ 2 * b → b < 2 ^ n → a < b * 2 ^ n → n ≤ 7900 → Spc V (.ref 38) [.int a t1, .int b t2, .int n t3] 3 24 [] (fun _ => True) (New1 fun o => ∃ t t', o = tupO [.int (a.fdiv b) t, .int (a.fmod b) t'])) (a b : Int) (t1 t2 : Tok) (tb : List (Addr × Obj)) (htb : tb = [(47, tabObj #[]), (54, tabObj #[])] ∨ Tab2 tb) (ha : 0 ≤ a) (hb : 0 < b) (hn7 : Builtin.Int.intBits b ≤ 7900) (hk16 : Builtin.Int.intBits a ≤ 14 * Builtin.Int.intBits b) :
   Spc V (.ref 66) [.int a t1, .int b t2] 24 300 tb (fun _ => True)
     (zn9 tb fun v nx => ∃ l t t' tb', v = .ref l ∧ nx = (l, tupO [.int (a.fdiv b) t, .int (a.fmod b) t']) :: tb' ∧ Tab2 tb' ∧ AllNe l tb') := H6 (by unfold wdivmod_pos_spec; rfl) @qk9 V a b t1 t2 tb  DIV2 htb ha hb hn7 hk16
end
section
noncomputable def yJ9 (a b : Int) (v : Value) (nx : List (Addr × Obj)) : Prop := ∃ l t t' tb', v = .ref l ∧ nx = (l, tupO [.int (a.fdiv b) t, .int (a.fmod b) t']) :: tb' ∧ Tab2 tb' ∧ AllNe l tb'
noncomputable def Tab0 (tb : List (Addr × Obj)) : Prop := tb = [(47, tabObj #[]), (54, tabObj #[])] ∨ Tab2 tb
theorem gd9 (V : Wd)
    (DMP : ∀ (a b : Int) (t1 t2 : Tok) (tb : List (Addr × Obj)), Tab0 tb → 0 ≤ a → 0 < b → Builtin.Int.intBits b ≤ 7900 → Builtin.Int.intBits a ≤ 14 * Builtin.Int.intBits b → Spc V (.ref 66) [.int a t1, .int b t2] 24 300 tb (fun _ => True) (zn9 tb (yJ9 a b)))
    (a b : Int) (t1 t2 : Tok) (tb : List (Addr × Obj)) (htb : Tab0 tb) (ha : 0 ≤ a) (hb : 0 < b) (hn7 : Builtin.Int.intBits b ≤ 7900) (hk16 : Builtin.Int.intBits a ≤ 14 * Builtin.Int.intBits b) :
   Spc V (.ref 73) [.int a t1, .int b t2] 26 320 tb (fun _ => True) (zn9 tb (yJ9 a b)) := by
  refine' uL9 (binds := [(Str.ofString "a", .int a t1), (Str.ofString "b", .int b t2)]) ?k6 ?k7 ?k9 ?kB ?c5 ?c2 ?c3 ?c4 ?_
  walk_at "m_enter"
  intro dp un gd outer A₁ base sh g L' h₁ s Q hd hu hp hsg F N0 hlt B X T ret
  (try dsimp only)
  k_extra "v"
  k_extra "u"
  k_steps
  all_goals (try (exfalso; lia))
  unfold zC9
  refine xn9 (rest := []) (DMP a b _ _ tb htb ha hb hn7 hk16) B (by k_asm) (by k_asm) News.nil (List.forall_mem_nil _) X T rfl (by first | exact limD (by assumption) (by decide) | lia) (by first | exact limU (by assumption) (by decide) | exact limV (by assumption) (by decide) | lia) trivial ?_
  rintro v1 nx1 h1' tk1' F1 N1 _ R1 _ _
  exact ret _ _ _ _ _ F1 N1 R1
theorem bg9 (V : Wd)
    (POS : ∀ (a b : Int) (t1 t2 : Tok) (tb : List (Addr × Obj)), Tab0 tb → 0 ≤ a → 0 < b → Builtin.Int.intBits b ≤ 7900 → Builtin.Int.intBits a ≤ 14 * Builtin.Int.intBits b → Spc V (.ref 73) [.int a t1, .int b t2] 26 320 tb (fun _ => True) (zn9 tb (yJ9 a b)))
    (a b : Int) (t1 t2 : Tok) (tb : List (Addr × Obj)) (htb : Tab0 tb) (hb : 0 < b) (hn7 : Builtin.Int.intBits b ≤ 7900) (hk16 : Builtin.Int.intBits a ≤ 14 * Builtin.Int.intBits b) :
   Spc V (.ref 73) [.int a t1, .int b t2] 28 340 tb (fun _ => True) (zn9 tb (yJ9 a b)) := by
  rcases Int.lt_or_le a 0 with ha | ha
  case inr => exact (POS a b t1 t2 tb htb ha hb hn7 hk16).up (by lia) (by lia)
  refine' uL9 (binds := [(Str.ofString "a", .int a t1), (Str.ofString "b", .int b t2)]) ?k6 ?k7 ?k9 ?kB ?c5 ?c2 ?c3 ?c4 ?_
  walk_at "m_enter"
  intro dp un gd outer A₁ base sh g L' h₁ s Q hd hu hp hsg F N0 hlt B X T ret
  (try dsimp only)
  k_extra "v"
  k_extra "u"
  k_steps
  all_goals (try (exfalso; lia))
  unfold zC9
  have ha' : 0 ≤ Builtin.bitNot a := by unfold Builtin.bitNot; lia
  have hbn : Builtin.Int.intBits (Builtin.bitNot a) ≤ Builtin.Int.intBits a := by
    refine xD9 ?_
    have := zp9 a
    unfold Builtin.bitNot
    exact jm9 (by assumption) this
  have hdf := xv9 (Builtin.bitNot a) hb
  refine xn9 (rest := []) (POS (Builtin.bitNot a) b _ _ tb htb ha' hb hn7 (by lia)) B (by k_asm) (by k_asm) News.nil (List.forall_mem_nil _) X T rfl (by first | exact limD (by assumption) (by decide) | lia) (by first | exact limU (by assumption) (by decide) | exact limV (by assumption) (by decide) | lia) trivial ?_
  rintro v1 nx1 h1' tk1' F1 N1 _ hJ9 _ _
  k_extra "y"
  refine ex4 hJ9 fun l t t' tb' hJ9 => ?_
  refine an3 hJ9 fun e9_0 e9_1 htb' hln => ?_
  iterate 2 clear hJ9
  subst e9_0
  subst e9_1
  k_extra "z"
  generalize (Builtin.bitNot a).fdiv b = q at hdf N1
  generalize (Builtin.bitNot a).fmod b = r at hdf N1
  have hq : a.fdiv b = Builtin.bitNot q ∧ a.fmod b = b + Builtin.bitNot r := by
    refine xk9 ?_ ?_ ?_ <;> (unfold Builtin.bitNot at *)
    · have := hdf.1; grind
    · lia
    · lia
  clear hbn ha'
  k_extra "y"
  refine ex8 (htb') fun c1 o1 vs1 x1 c2 o2 vs2 x2 hJ9 => ?_
  refine an9 hJ9 fun e9_0 hc1 hc1' hc2 hc2' d1 d2 d3 d4 d5 => ?_
  clear hJ9
  try clear htb'
  subst e9_0
  k_extra "z"
  dsimp only [xz9, qA9] at hln
  (try dsimp only)
  k_extra "u"
  k_steps
  rename News _ _ _ _ => N11
  rename Fr _ _ _ _ => F11
  rename_i T11 _ l11
  simp only [yJ9, hq.1, hq.2] at ret
  exact ret _ _ _ _ _ F11 (News.pick N11 (.head _) (fun p hp => N11 p (.tail _ (.tail _ hp)))) ⟨_, _, _, _, rfl, rfl, ⟨c1, o1, vs1, x1, c2, o2, vs2, x2, rfl, hc1, hc1', hc2, hc2', d1, d2, d3, d4, d5⟩, neN (by lia), neN (by lia), neN (by lia), neN (by lia), trivial⟩
end
section
theorem dB9 (V : Wd) (x y : Str) (t1 t2 : Tok) :
   Spc V (.ref 125) [.str x t1, .str y t2] 1 8 [] (fun _ => True)
     (fun h v h' => ∃ t, v = .int (b2i (decide (y.cps.toList < x.cps.toList)) - b2i (decide (x.cps.toList < y.cps.toList))) t) := by
  refine' qp9 (binds := [(Str.ofString "x", .str x t1), (Str.ofString "y", .str y t2)]) ?k6 ?k7 ?k9 ?kB ?c5 ?c2 ?c3 ?c4 ?_
  walk_at "m_enter"
  intro dp un gd outer A₁ base g L' h₁ s Q hd hu _ F N B X T ret
  (try dsimp only)
  k_extra "v"
  k_extra "u"
  k_steps
  exact ret _ _ _ _ (by assumption) ⟨_, rfl⟩
end
section
open PyProof.Rows.TI in
theorem cU9 {prog : Program} {w : World} {A₀ : Around} {E : Value → Shared → Prop} {s' : Shared} {h₀ h : Heap} {L' a e L : Addr} {m : Str → Option Value} {name : Str} {scope : Scope} {cd : Value} {new : List (Addr × Obj)}
  {b₀ : Stmt} {suite : List Stmt} {pos np : Pos} {rest : List ExceptHandler} {Q : Flow → Shared → Prop} {oL : Obj} {envc : Env}
  (hfr : A₀.frames = some [envc]) (Fs : Frs [envc] [(L, oL)]) (hx : Heap.NewExc h s'.heap e "ValueError") (F : Fr h₀ L' h m) (N : News h₀ L' h (new ++ [(L, oL)])) (hap : ∀ q ∈ new, q.1 ≠ L) 
  (hcls : ∀ (A : Around) (E' Q' : Value → Shared → Prop) (s₁ : Shared), Fr h₀ L' s₁.heap m → Q' (.type "ValueError") s₁ → wpAny (model prog w) A (eval (.Name (Str.ofString "ValueError") np) (envOf name scope L' a cd)) Q' E' s₁)
  (k : ∀ h' sl, Fr h₀ L' h' m → News h₀ L' h' (new ++ [(L, { oL with slots := sl })]) → wpAny (model prog w) ((A₀.deeper (envOf name scope L' a cd)).mark (some (.ref e))) (execs (b₀ :: suite) (envOf name scope L' a cd)) Q E { s' with heap := h' })
  (hE : PassesOwnAt (model prog w) ((A₀.deeper (envOf name scope L' a cd)).mark (some (.ref e))) (A₀.deeper (envOf name scope L' a cd)) (envOf name scope L' a cd) E) (hk : scope.kind = .function) :
  wpAny (model prog w) (A₀.deeper (envOf name scope L' a cd)) (noteFrame (.ref e) (envOf name scope L' a cd))
    (fun _ s₂ => wpAny (model prog w) (A₀.deeper (envOf name scope L' a cd)) (setFlight (.ref e) none) (fun _ s₃ =>
      wpAny (model prog w) (A₀.deeper (envOf name scope L' a cd)) (handleBy (.ref e) (envOf name scope L' a cd) (.ExceptHandler (some (.Name (Str.ofString "ValueError") np)) none (b₀ :: suite) pos :: rest)) Q E s₃) E s₂) E s' := by
  refine TLg.noted_newA (new := new) hfr Fs hx F N (fun q hq hm => ?_) (fun h' frs' SU Fs' H => ?_) hk
  · rcases List.mem_cons.mp hm with z | hm
    · exact (N q (List.mem_append_left _ hq)).2.1 z
    · exact hap q hq (List.mem_singleton.mp hm)
  · obtain ⟨sl, rfl⟩ := TLg.one_up SU
    refine TT.HeldNA.land H fun h'' H' => ?_
    refine wpAny_handleBy_builtin (X := "ValueError") (T := "ValueError") (b := true) ?_ ?_ ?_ (wpAny_passesOwnAt hE (hcls _ _ _ _ H'.held.fr ⟨rfl, H'.isA, ?_⟩))
    · exact isSubtype_of_subB (by decide +kernel)
    · exact isSubtype_of_subB (by decide +kernel)
    · exact isSubtype_of_subB (by decide +kernel)
    · rw [if_pos rfl]
      exact H'.lands fun h3 F3 N3 => wpAny_passesOwnAt hE (k h3 sl F3 N3)
section
variable {prog : Program} {w : World} {A : Around} {E : Value → Shared → Prop} {s : Shared} {h₀ : Heap} {L D : Addr} {m : Str → Option Value} {news news' : List (Addr × Obj)} {vs : List Value} {ss : List Str} {n : Nat} {c : Str} {t : Tok}
noncomputable def eqRm (c : Str) : Value → Bool
  | .str x _ => x.cps.toList == c.cps.toList
  | _ => false
theorem ug9 : ∀ {vs : List Value} {ss : List Str}, StrsAre vs ss → ∀ y ∈ vs, MeetsSeq.EqGives y (.str c t) (eqRm c y) := by
  intro vs ss h
  induction h with
  | nil => intro y hy; cases hy
  | cons x u _ ih =>
    intro y hy
    rcases List.mem_cons.mp hy with rfl | hy
    · exact SeqRoads2.EqGives.str x c u t
    · exact ih y hy
theorem ck9 {x y : Str} (h : x.cps.toList = y.cps.toList) : x = y := by
  cases x; cases y; congr 1; exact Array.toList_inj.mp h
theorem zr9 {vs : List Value} {ss : List Str} (h : StrsAre vs ss) : vs.length = ss.length := by
  induction h with
  | nil => rfl
  | cons _ _ _ ih => simp [ih]
theorem zd9 {vs ws : List Value} {ss us : List Str} (h : StrsAre vs ss) (h2 : StrsAre ws us) : StrsAre (vs ++ ws) (ss ++ us) := by
  induction h with
  | nil => exact h2
  | cons _ _ _ ih => exact .cons _ _ ih
theorem xW9 {vs : List Value} {ss : List Str} (h : StrsAre vs ss) : ∀ {i : Nat} {v : Value}, vs[i]? = some v → ∃ x t, v = .str x t ∧ ss[i]? = some x := by
  induction h with
  | nil => intro i v e; simp at e
  | cons n t _ ih =>
    intro i v e
    cases i with
    | zero => simp at e; exact ⟨n, t, e.symm, rfl⟩
    | succ i => exact ih (by simpa using e)
theorem cj9 {vs : List Value} {ss : List Str} {c : Str} (h : StrsAre vs (ss ++ [c])) : ∃ ws t, vs = ws ++ [.str c t] ∧ StrsAre ws ss := by
  induction ss generalizing vs with
  | nil =>
    cases h with
    | cons _ t h2 => cases h2; exact ⟨[], t, rfl, .nil⟩
  | cons x ss ih =>
    cases h with
    | cons _ t h2 =>
      obtain ⟨ws, u, rfl, h3⟩ := ih h2
      exact ix2 (.str x t :: ws) u (⟨rfl, .cons _ _ h3⟩)
theorem cH9 {vs : List Value} {ss : List Str} (h : StrsAre vs ss) : ∀ j, StrsAre (vs.eraseIdx j) (ss.eraseIdx j) := by
  induction h with
  | nil => intro j; simp; exact .nil
  | cons x t h2 ih =>
    intro j
    cases j with
    | zero => exact h2
    | succ j => exact .cons _ _ (ih j)
theorem tj9 {ss : List Str} {c : Str} (h : c ∈ ss) : ∃ j, j < ss.length ∧ ss[j]? = some c ∧ (∀ i, i < j → ss[i]? ≠ some c) ∧ ss.erase c = ss.eraseIdx j := by
  induction ss with
  | nil => cases h
  | cons x ss ih =>
    by_cases e : x = c
    · subst e
      exact ix1 0 (⟨Nat.succ_pos _, rfl, fun i hi => absurd hi (Nat.not_lt_zero i), List.erase_cons_head ..⟩)
    · rcases List.mem_cons.mp h with h | h
      · exact absurd h.symm e
      · refine (ih h).elim fun j q => ⟨j + 1, Nat.succ_lt_succ q.1, q.2.1, ?_, ?_⟩
        · intro i hi
          cases i with
          | zero => exact fun z => e (Option.some.inj z)
          | succ i => exact q.2.2.1 i (Nat.lt_of_succ_lt_succ hi)
        · rw [List.erase_cons_tail (beq_eq_false_iff_ne.mpr e ▸ Bool.false_ne_true), q.2.2.2]; rfl
theorem hV9 {news'' : Obj → List (Addr × Obj)} {Q : Value → Shared → Prop} (F : Fr h₀ L s.heap m) (N : News h₀ L s.heap news) (hs : StrsAre vs ss) (hm : c ∈ ss) (hz : vs.length ≤ 1000000) (U : UpdF D (W.listOf vs.toArray n) news news'')
    (h : ∀ h' ws, StrsAre ws (ss.erase c) → Fr h₀ L h' m → News h₀ L h' (news'' (W.listOf ws.toArray (n + 1))) → Q .none { s with heap := h' }) : wpAny (model prog w) A (call (.builtin "list.remove") [.ref D, .str c t]) Q E s := by
  obtain ⟨j, h1, h2, h3, h4⟩ := tj9 hm
  have hl := zr9 hs
  have hw := cH9 hs j
  rw [← h4] at hw
  obtain ⟨pre, post, e1, e2, a', b'⟩ := U.split
  subst e1
  have z := N (D, W.listOf vs.toArray n) (List.mem_append.mpr (.inr (.head _)))
  have key : ∀ i (hi : i < vs.toArray.size), eqRm c vs.toArray[i] = decide (ss[i]? = some c) := by
    intro i hi
    have hi' : i < vs.length := by simpa using hi
    obtain ⟨x, t', e3, e4⟩ := xW9 hs (i := i) (List.getElem?_eq_getElem hi')
    have e5 : vs.toArray[i] = .str x t' := by simpa using e3
    rw [e5, e4]
    show (x.cps.toList == c.cps.toList) = _
    by_cases q : x = c
    · rw [q, decide_eq_true rfl]; exact beq_self_eq_true _
    · rw [decide_eq_false fun z => q (Option.some.inj z)]; exact beq_eq_false_iff_ne.mpr fun z => q (ck9 z)
  refine call_meets PySem.F.slot_list_remove ⟨_, z.1, rfl⟩ PySem.F.entry_list_remove (PySem.F.args_list_remove_2 _ _)
    (MeetsSeq.list_remove D vs.toArray n (.str c t) (eqRm c) (fun y hy => ug9 hs y (by simpa using hy)) j (by simp; lia) ?_ (fun i hi hlt => ?_) (by rw [sizeLine_eq]; simp; lia))
    ⟨z.1, h _ _ hw (F.change (Heap.SameBut.update ..) z.2.1 z.2.2) ?_⟩
  · rw [key, h2]; simp
  · rw [key]; simpa using h3 i hlt
  · rw [e2 (W.listOf (vs.eraseIdx j).toArray (n + 1))]
    refine ki_turn _ N a' b' ?_ ?_
    · show vs.toArray.eraseIdxIfInBounds j = (vs.eraseIdx j).toArray
      apply Array.toList_inj.mp
      simp [Array.toList_eraseIdxIfInBounds]
    · have : (vs.eraseIdx j).length = vs.length - 1 := List.length_eraseIdx_of_lt (by lia)
      rw [if_neg (by simp [this]; lia)]
theorem gN9 {Q : Value → Shared → Prop} (hh : A.handled = none) (N : News h₀ L s.heap news) (hD : (D, W.listOf vs.toArray n) ∈ news) (hs : StrsAre vs ss) (hm : c ∉ ss)
    (hE : ∀ h' tk e, Heap.NewExc s.heap h' e "ValueError" → E (.ref e) { s with heap := h', toks := tk }) : wpAny (model prog w) A (call (.builtin "list.remove") [.ref D, .str c t]) Q E s := by
  have z := N _ hD
  refine call_meets PySem.F.slot_list_remove ⟨_, z.1, rfl⟩ PySem.F.entry_list_remove (PySem.F.args_list_remove_2 _ _)
    (MeetsSeq.list_remove_none D vs.toArray n (.str c t) (eqRm c) (fun y hy => ug9 hs y (by simpa using hy)) (fun i hi => ?_))
    ⟨z.1, hh, fun h' tk e hx => hE h' tk e hx⟩
  have hi' : i < vs.length := by simpa using hi
  obtain ⟨x, t', e3, e4⟩ := xW9 hs (i := i) (List.getElem?_eq_getElem hi')
  have e5 : vs.toArray[i] = .str x t' := by simpa using e3
  rw [e5]
  have : x ∈ ss := List.mem_of_getElem? e4
  exact beq_eq_false_iff_ne.mpr fun z => hm (ck9 z ▸ this)
end
noncomputable def SpcT (V : Wd) (f : Value) (args : List Value) (d u : Nat) (obs : List (Addr × Obj)) (pre : Heap → Prop) (post : Heap → Value → Heap → Prop) : Prop :=
  ∀ (dp un : Nat) (gd : Option (List Code)) (cn : Str) (cs : Scope) (a : Addr) (ccd : Value) (cl : List (Str × Addr)) (A₀ : Around) (base h₀ : Heap) (L : Addr) (m : Str → Option Value) (s : Shared) (Q E : Value → Shared → Prop) (oL : Obj),
    Below A₀ base [] h₀ → Fr h₀ L s.heap m → (getK.heap_1 V.w.params).In h₀ → Top V.p V.loose V.mean V.mg V.mb h₀ → cs.kind = .function →
    dp + d < recursionLimit → un + u < cLine → News h₀ L s.heap obs → pre s.heap → s.heap.get? L = some oL →
    (∀ v h' tk' sl, (∀ b o, b ∉ obs.map (·.1) → b ≠ L → s.heap.get? b = some o → h'.get? b = some o) → h'.get? L = some { oL with slots := sl } → s.heap.objs.size ≤ h'.objs.size → post s.heap v h' → Q v { s with heap := h', toks := tk' }) →
      wpAny (model prg V.w) (ktrTop dp un gd cn cs L a ccd cl []) (call f args) Q E s
theorem jM9 {V : Wd} {f : Value} {args : List Value} {d u : Nat} {obs rest : List (Addr × Obj)} {pre : Heap → Prop} {R : Value → List (Addr × Obj) → Prop}
    {dp un : Nat} {gd : Option (List Code)} {cn : Str} {cs : Scope} {a : Addr} {ccd : Value} {cl : List (Str × Addr)} {A₀ : Around} {base h₀ : Heap} {L : Addr} {m : Str → Option Value} {s : Shared} {Q E : Value → Shared → Prop}
    (S : SpcT V f args d u obs pre (zn9 obs R)) (B : Below A₀ base [] h₀) (F : Fr h₀ L s.heap m) (No : News h₀ L s.heap obs) (Nr : News h₀ L s.heap rest) (hsep : ∀ p ∈ rest, ∀ q ∈ obs, p.1 ≠ q.1)
    (X : (getK.heap_1 V.w.params).In h₀) (T : Top V.p V.loose V.mean V.mg V.mb h₀) (hk : cs.kind = .function)
    (hd : dp + d < recursionLimit) (hu : un + u < cLine) (hp : pre s.heap)
    (k : ∀ v nx h' tk', Fr h₀ L h' m → News h₀ L h' nx → News h₀ L h' rest → R v nx → (∀ p ∈ nx, AllNe p.1 rest) → (∀ p ∈ nx, p.1 ∈ obs.map (·.1) ∨ AllNe p.1 obs) → Q v { s with heap := h', toks := tk' }) :
    wpAny (model prg V.w) (ktrTop dp un gd cn cs L a ccd cl []) (call f args) Q E s := by
  obtain ⟨oL, es, ep, hL, a1, a2, a3⟩ := F.ns
  refine S dp un gd cn cs a ccd cl A₀ base h₀ L m s Q E oL B F X T hk hd hu No hp hL fun v h' tk' sl hkp hL' _ hP => hP.elim fun nx hP => ?_
  have hR := hP.1; have hnx := hP.2
  have hobs : ∀ b o, h₀.get? b = some o → b ∉ obs.map (·.1) := fun b o e q => by
    obtain ⟨p, hp, rfl⟩ := List.mem_map.mp q
    rw [(No p hp).2.2] at e; cases e
  have hLn : L ∉ obs.map (·.1) := fun q => by
    obtain ⟨p, hp, e⟩ := List.mem_map.mp q
    exact (No p hp).2.1 e
  have hL0 : ∀ b o, h₀.get? b = some o → b ≠ L := fun b o e q => by
    subst q
    exact absurd (Nat.lt_of_lt_of_le (Heap.lt_size e) F.above) (Nat.lt_irrefl _)
  have F' : Fr h₀ L h' m := ⟨⟨_, es, ep, hL', a1, a2, a3⟩, fun b o e => hkp b o (hobs b o e) (hL0 b o e) (F.keep b o e), F.above⟩
  refine k v nx h' tk' F' (fun p hp => ?_) (fun p hp => ?_) hR (fun p hp => ?_) (fun p hp => ?_)
  · refine ⟨(hnx p hp).1, fun e => ?_, ?_⟩
    · rcases (hnx p hp).2 with q | q
      · exact hLn (e ▸ q)
      · rw [e, hL] at q; cases q
    · cases q : h₀.get? p.1 with
      | none => rfl
      | some o' =>
        rcases (hnx p hp).2 with q2 | q2
        · exact absurd q2 (hobs _ _ q)
        · have := F.keep _ _ q; rw [q2] at this; cases this
  · have hno : p.1 ∉ obs.map (·.1) := fun q => by
      obtain ⟨q, hq, e⟩ := List.mem_map.mp q
      exact hsep p hp q hq e.symm
    exact ⟨hkp _ _ hno (Nr p hp).2.1 (Nr p hp).1, (Nr p hp).2⟩
  · refine AllNe.of fun q hq e => ?_
    rcases (hnx p hp).2 with z | z
    · obtain ⟨y, hy, ey⟩ := List.mem_map.mp z
      exact hsep q hq y hy (e.trans ey.symm)
    · rw [← e, (Nr q hq).1] at z; cases z
  · rcases (hnx p hp).2 with z | z
    · exact .inl z
    · refine .inr (AllNe.of fun q hq e => ?_)
      rw [← e, (No q hq).1] at z; cases z
section
variable {V : Wd} {f : Addr} {args : List Value} {d u : Nat} {obs : List (Addr × Obj)} {pre : Heap → Prop} {R : Value → List (Addr × Obj) → Prop}
    {name qual : Str} {params : Arguments} {body : List Stmt} {scope : Scope} {doc pm cdv ct oc : Value} {od : Option Addr} {osl : Array (Option Value)} {binds : List (Str × Value)}
theorem dW9 (ho : (getK.heap_1 V.w.params).lookup f = some ⟨oc, od, .func (fnX name qual params body scope [] .none .none doc pm none cdv ct), osl⟩) (hcd : codeIn (getK.heap_1 V.w.params) cdv qual = true)
    (hbind : bindArgs (fnX name qual params body scope [] .none .none doc pm none cdv ct) ⟨args, []⟩ = pure binds) (hloc : ∀ y ∈ binds, scope.names.lookup y.1 = some .local)
    (hcell : ∀ x ∈ scope.names, x.2 ≠ .cell) (hco : scope.isCoroutine = false) (hgen : scope.isGenerator = false) (hk : scope.kind = .function)
    (h : ∀ (dp un : Nat) (gd : Option (List Code)) (envc : Env) (L : Addr) (oL : Obj) (sh g : Heap) (L' : Addr) (h₁ : Heap) (s : Shared) (Q : Value → Shared → Prop),
      dp + d < recursionLimit → un + u < cLine → pre sh → TI.Frs [envc] [(L, oL)] → (∀ p ∈ obs, p.1 ≠ L) → Fr g L' h₁ (fun y => binds.reverse.lookup y) → News g L' h₁ (obs ++ [(L, oL)]) → (∀ p ∈ obs, p.1 < L') → @LT.lt Nat _ L L' →
      (getK.heap_1 V.w.params).In g → Top V.p V.loose V.mean V.mg V.mb g →
      (∀ v h' tk' m' nx sl, Fr g L' h' m' → News g L' h' (nx ++ [(L, { oL with slots := sl })]) → (∀ p ∈ nx, p.1 ≠ L) → R v nx → Q v { s with heap := h', toks := tk' }) →
      wpAny (model prg V.w) (ktrTop (dp + 1) (un + 3) gd qual scope L' f cdv [] [envc]) (execs body (envX qual scope L' f cdv []))
        (fun fl s' => Q (match fl with | .ret v => v | _ => .none) s') (fun _ _ => False) { s with heap := h₁, toks := s.toks + binds.length }) :
    SpcT V (.ref f) args d u obs pre (zn9 obs R) := by
  intro dp un gd cn cs a ccd cl A₀ base h₀ L m s Q E oL B F X T hkc hd hu N hp hL ret
  have Xs := Frag.In.keeps X F.keep
  have hd0 : dp < recursionLimit := lt0 (by assumption)
  obtain ⟨oL', es, ep, hL2, hLd, hLk, hLf⟩ := F.ns
  obtain rfl : oL = oL' := Option.some.inj (hL.symm.trans hL2)
  have hLt := Heap.lt_size hL
  obtain ⟨l, el⟩ : ∃ l, l = L :: obs.map (·.1) := ⟨_, rfl⟩
  have hLobs : ∀ p ∈ obs, p.1 ≠ L := fun p hp => (N p hp).2.1
  have st : ∀ b o, h₀.get? b = some o → (hideAll s.heap l).get? b = some o := fun b o e => by
    refine hideAll_get _ (F.keep b o e) ?_
    rw [el]
    intro q
    rcases List.mem_cons.mp q with q | q
    · subst q
      exact absurd (Nat.lt_of_lt_of_le (Heap.lt_size e) F.above) (Nat.lt_irrefl _)
    · obtain ⟨p, hp, rfl⟩ := List.mem_map.mp q
      rw [(N p hp).2.2] at e; cases e
  refine wpAny_call (codeAny_call_def (fd := fnX name qual params body scope [] .none .none doc pm none cdv ct) (body := body) (binds := binds) hd0 (Xs _ _ ho) rfl (T.keeps F.keep).nolimit (codeRec_of Xs hcd) rfl (BindsTo.of_eq hbind) hcell hloc (fun h₁ hns hk₁ => ?_) hco hgen hk)
  have FG : Fr (hideAll s.heap l) s.heap.objs.size h₁ (fun y => binds.reverse.lookup y) := ⟨hns, fun b o e => hk₁ b o (of_hideAll _ e), Nat.le_of_eq (hideAll_size _ _)⟩
  have NG : News (hideAll s.heap l) s.heap.objs.size h₁ (obs ++ [(L, oL)]) := fun p hp => by
    rcases List.mem_append.mp hp with hp | hp
    · exact ⟨hk₁ _ _ (N p hp).1, Nat.ne_of_lt (Heap.lt_size (N p hp).1), hideAll_none _ (el ▸ List.mem_cons_of_mem _ (List.mem_map_of_mem hp))⟩
    · rw [List.mem_singleton.mp hp]
      exact ⟨hk₁ _ _ hL, Nat.ne_of_lt hLt, hideAll_none _ (el ▸ List.mem_cons_self)⟩
  refine wpAny_mono (h dp un gd (envX cn cs L a ccd cl) L oL s.heap _ s.heap.objs.size h₁ s Q hd hu hp ⟨by show cs.kind ≠ .module; rw [hkc]; decide, rfl, ⟨es, ep, hLd⟩, trivial⟩ hLobs FG NG (fun p hp => Heap.lt_size (N p hp).1) hLt (X.keeps st) (T.keeps st) (fun v h' tk' m' nx sl F' N' hnL r => ?_)) (fun fl s' hq => hq) (fun _ _ x => x.elim)
  refine ret v h' tk' sl (fun b o hb hbL e => F'.keep b o (hideAll_get _ e (by rw [el]; intro q; rcases List.mem_cons.mp q with q | q; exact hbL q; exact hb q))) (N' _ (List.mem_append_right _ (List.mem_singleton.mpr rfl))).1 (Nat.le_of_lt F'.ns.lt) ⟨nx, r, fun p hp => ?_⟩
  have z := N' p (List.mem_append_left _ hp)
  refine ⟨z.1, ?_⟩
  by_cases hb : p.1 ∈ obs.map (·.1)
  · exact .inl hb
  · refine .inr ?_
    have hpL : p.1 ≠ L := hnL p hp
    cases q : s.heap.get? p.1 with
    | none => rfl
    | some o => 
      have := hideAll_get l q (by rw [el]; intro q; rcases List.mem_cons.mp q with q | q; exact hpL q; exact hb q)
      rw [z.2.2] at this; cases this
end
end
section
noncomputable def vq9 : List Str → List Str → List Str → List Str × List Str
  | [], act, mis => (mis, act)
  | c :: r, act, mis => if c ∈ act then vq9 r (act.erase c) mis else vq9 r act (mis ++ [c])
section
variable {prog : Program} {w : World} {A : Around} {E : Value → Shared → Prop} {s : Shared} {h₀ : Heap} {L : Addr} {m : Str → Option Value} {news : List (Addr × Obj)}
theorem popL {D : Addr} {vs : List Value} {v : Value} {n : Nat} {news' : List (Addr × Obj)} {Q : Value → Shared → Prop} (F : Fr h₀ L s.heap m) (N : News h₀ L s.heap news) (U : Upd D (W.listOf (vs ++ [v]).toArray n) (W.listOf vs.toArray (n + 1)) news news') (hz : vs.length ≤ 1000000)
    (h : ∀ h', Fr h₀ L h' m → News h₀ L h' news' → Q v { s with heap := h' }) : wpAny (model prog w) A (call (.builtin "list.pop") [.ref D]) Q E s := by
  obtain ⟨pre, post, rfl, rfl, a, b⟩ := U.split
  have z := N (D, W.listOf (vs ++ [v]).toArray n) (List.mem_append.mpr (.inr (.head _)))
  have hz' : (vs ++ [v]).toArray.size ≤ sizeLine := by rw [sizeLine_eq, List.size_toArray, List.length_append]; simp; lia
  have hk : (vs ++ [v]).toArray.size - 1 = vs.length := by rw [List.size_toArray, List.length_append]; rfl
  have hy : (vs ++ [v]).toArray[(vs ++ [v]).toArray.size - 1]? = some v := by rw [hk]; simp
  refine call_meets PySem.F.slot_list_pop ⟨_, z.1, rfl⟩ PySem.F.entry_list_pop (PySem.F.args_list_pop_1 _) (PySem.MeetsSeq.list_pop_last D _ n v hy hz') ⟨z.1, h _ (F.change (Heap.SameBut.update ..) z.2.1 z.2.2) (kl_turn _ N a b ?_ ?_)⟩
  · show (vs ++ [v]).toArray.eraseIdxIfInBounds ((vs ++ [v]).toArray.size - 1) = vs.toArray
    rw [hk, kl_erase, List.append_nil]
  · rw [List.size_toArray, List.size_toArray, List.length_append]
    simp
theorem nm9 {D : Addr} {vs : List Value} {v : Value} {n : Nat} {Q : Bool → Shared → Prop} (N : News h₀ L s.heap news) (hm : (D, W.listOf (vs ++ [v]).toArray n) ∈ news) (hz : vs.length ≤ 1000000) (h : ∀ tk', Q true { s with toks := tk' }) : wpAny (model prog w) A (truthy (.ref D)) Q E s := by
  have z := N _ hm
  refine wpAny_truthy_list (items := (vs ++ [v]).toArray) ⟨_, z.1, rfl, _, rfl⟩ (by simp; lia) ?_
  have e : (!(vs ++ [v]).toArray.isEmpty) = true := by simp
  rw [e]
  exact h _
theorem cf9 {hh9 : Heap} {gg9 : Array GenState} {dd9 : Drawn} {tt9 : Nat} {oo9 : OsState} {D : Addr} {vs : List Value} {v : Value} {n : Nat} {Q : Bool → Shared → Prop} (N : News h₀ L hh9 news) (hm : (D, W.listOf (vs ++ [v]).toArray n) ∈ news) (hz : vs.length ≤ 1000000) (h : ∀ tk', Q true ⟨hh9, gg9, dd9, tk', oo9⟩) : wpAny (model prog w) A (truthy (.ref D)) Q E ⟨hh9, gg9, dd9, tt9, oo9⟩ := nm9 (s := ⟨hh9, gg9, dd9, tt9, oo9⟩) N hm hz h
end
theorem ln11 : True := by
  (k_with "truthy ref" => (k_here; (with_reducible show wpAny _ _ (truthy (Value.ref _)) _ _ _); k_dflt (refine' cf9 ?_ ?_ ?_ ?_; rotate_right 4; (· k_asm); (· k_mem); (· assumption)); intro _))
  (k_with "call builtin:list.pop" => (k_here; (with_reducible show wpAny _ _ (call (Value.builtin _) [Value.ref _]) _ _ _); (refine' popL ?_ ?_ ?_ ?_ ?_; rotate_right 5; (· k_asm); (· k_asm); (· k_upd); (· assumption)); intro _ _ _; (try k_sweep)))
  (k_with "call builtin:list.remove" => (k_here; refine zK9 ?_))
  (k_with "exec Try" => refine wpAny_Try_except ?_)
  trivial
noncomputable def uT9 (V : Wd) (Ea : Addr) (Aa : Addr) (vs : List Value) (va : List Value) (es : Nat) (ea : Nat) (ss : List Str) (sa : List Str) (RES : List Str × List Str)  : Prop := ∀ (hEA : @Ne Nat Ea Aa) (hs : StrsAre vs ss) (ha : StrsAre va sa) (hsl : ss.length ≤ 1000) (hal : sa.length ≤ 1000) (hR : vq9 ss.reverse sa [] = RES),
   SpcT V (.ref 118) [.ref Ea, .ref Aa] 1 40 [(Ea, W.listOf vs.toArray es), (Aa, W.listOf va.toArray ea)] (fun _ => True)
     (zn9 [(Ea, W.listOf vs.toArray es), (Aa, W.listOf va.toArray ea)] fun v nx => ∃ T M vm em va' ea', v = .ref T ∧ nx = [(T, tupO [.ref M, .ref Aa]), (M, W.listOf (List.toArray vm) em), (Aa, W.listOf (List.toArray va') ea')] ∧ StrsAre vm RES.1 ∧ StrsAre va' RES.2 ∧ @Ne Nat M T ∧ @Ne Nat Aa T ∧ @Ne Nat M Aa)
@[irreducible] noncomputable def wuld_spec := W10 uT9
@[irreducible] noncomputable def zY9 := hF9 (C := SpcT wuld_spec.1 (.ref 118) [.ref wuld_spec.2.1, .ref wuld_spec.2.2.1] 1 40 [(wuld_spec.2.1, W.listOf wuld_spec.2.2.2.1.toArray wuld_spec.2.2.2.2.2.1), (wuld_spec.2.2.1, W.listOf wuld_spec.2.2.2.2.1.toArray wuld_spec.2.2.2.2.2.2.1)] (fun _ => True)
     (zn9 [(wuld_spec.2.1, W.listOf wuld_spec.2.2.2.1.toArray wuld_spec.2.2.2.2.2.1), (wuld_spec.2.2.1, W.listOf wuld_spec.2.2.2.2.1.toArray wuld_spec.2.2.2.2.2.2.1)] fun v nx => ∃ T M vm em va' ea', v = .ref T ∧ nx = [(T, tupO [.ref M, .ref wuld_spec.2.2.1]), (M, W.listOf (List.toArray vm) em), (wuld_spec.2.2.1, W.listOf (List.toArray va') ea')] ∧ StrsAre vm wuld_spec.2.2.2.2.2.2.2.2.2.1 ∧ StrsAre va' wuld_spec.2.2.2.2.2.2.2.2.2.2 ∧ @Ne Nat M T ∧ @Ne Nat wuld_spec.2.2.1 T ∧ @Ne Nat M wuld_spec.2.2.1)) (fun h => by
    refine' dW9 (binds := [(Str.ofString "expected", .ref wuld_spec.2.1), (Str.ofString "actual", .ref wuld_spec.2.2.1)]) ?k6 ?k7 ?k9 ?kB ?c5 ?c2 ?c3 ?c4 h
    walk_at "m_enter"
    )
theorem cC9 : A10 uT9 wuld_spec := by
  intro hEA hs ha hsl hal hR
  refine' dW9 (binds := [(Str.ofString "expected", .ref wuld_spec.2.1), (Str.ofString "actual", .ref wuld_spec.2.2.1)]) ?k6 ?k7 ?k9 ?kB ?c5 ?c2 ?c3 ?c4 ?_
  walk_at "m_enter"
  refine H12 (c := zY9) (by unfold zY9; rfl) ?_
  intro hd hu hp Fs hLn F N0 hlt hLL X T ret
  (try dsimp only)
  have hlt1 : @LT.lt Nat _ wuld_spec.2.1 zY9.2.2.2.2.2.2.2.2.1 := hlt _ (.head _)
  have hlt2 : @LT.lt Nat _ wuld_spec.2.2.1 zY9.2.2.2.2.2.2.2.2.1 := hlt _ (.tail _ (.head _))
  have hEL : @Ne Nat wuld_spec.2.1 zY9.2.2.2.2.1 := hLn _ (.head _)
  have hAL : @Ne Nat wuld_spec.2.2.1 zY9.2.2.2.2.1 := hLn _ (.tail _ (.head _))
  change News zY9.2.2.2.2.2.2.2.1 zY9.2.2.2.2.2.2.2.2.1 zY9.2.2.2.2.2.2.2.2.2.1 [(wuld_spec.2.1, W.listOf wuld_spec.2.2.2.1.toArray wuld_spec.2.2.2.2.2.1), (wuld_spec.2.2.1, W.listOf wuld_spec.2.2.2.2.1.toArray wuld_spec.2.2.2.2.2.2.1), (zY9.2.2.2.2.1, zY9.2.2.2.2.2.1)] at N0
  k_steps
  unfold zC9
  rename_i M1 _ lM _ _ F2 N2 _ _
  refine qZ9 (n₀ := wuld_spec.2.2.2.2.2.2.2.1.length) (J := fun n m nx => ∃ (v1 : List Value) (s1 : List Str) (e1 : Nat) (v2 : List Value) (s2 : List Str) (e2 : Nat) (v3 : List Value) (s3 : List Str) (e3 : Nat) (sl : Array (Option Value)) (m' : Str → Option Value), n = s1.length ∧ m = (fun y => if y = Str.ofString "missing" then some (.ref M1) else if y = Str.ofString "expected" then some (.ref wuld_spec.2.1) else if y = Str.ofString "actual" then some (.ref wuld_spec.2.2.1) else m' y) ∧
    nx = [(M1, W.listOf (List.toArray v3) e3), (wuld_spec.2.1, W.listOf (List.toArray v1) e1), (wuld_spec.2.2.1, W.listOf (List.toArray v2) e2), (zY9.2.2.2.2.1, { zY9.2.2.2.2.2.1 with slots := sl })] ∧ StrsAre v1 s1 ∧ StrsAre v2 s2 ∧ StrsAre v3 s3 ∧ s1.length + s3.length ≤ 1000 ∧ s2.length ≤ 1000 ∧ vq9 s1.reverse s2 s3 = wuld_spec.2.2.2.2.2.2.2.2.2) PassesOwn.never F2 N2
    ⟨wuld_spec.2.2.2.1, wuld_spec.2.2.2.2.2.2.2.1, wuld_spec.2.2.2.2.2.1, wuld_spec.2.2.2.2.1, wuld_spec.2.2.2.2.2.2.2.2.1, wuld_spec.2.2.2.2.2.2.1, [], [], 0, zY9.2.2.2.2.2.1.slots, _, rfl, zz9 rfl rfl rfl, rfl, hs, ha, .nil, by simpa using hsl, hal, hR⟩ ?_
  rintro n _ _ h tk hJ9 F4 N4
  k_extra "y"
  refine ex11 hJ9 fun v1 s1 e1 v2 s2 e2 v3 s3 e3 sl m' hJ9 => ?_
  refine an8 hJ9 fun e9_0 e9_1 e9_2 h1 h2 h3 hl1 hl2 hRR => ?_
  iterate 2 clear hJ9
  subst e9_0
  subst e9_1
  subst e9_2
  k_extra "z"
  rcases List.eq_nil_or_concat s1 with rfl | ⟨s1, c, rfl⟩
  · cases h1
    clear N2 F2
    k_steps
    rename Fr _ _ _ _ => F5
    rename News _ _ _ _ => N5
    rename_i T5 _ l5
    rw [← hRR] at ret
    exact ret _ _ _ _ [(T5, _), (M1, _), (wuld_spec.2.2.1, _)] _ F5 (News.pick N5 (.head _) (News.pick N5 (.tail _ (.head _)) (News.pick N5 (.tail _ (.tail _ (.tail _ (.head _)))) (News.pick N5 (.tail _ (.tail _ (.tail _ (.tail _ (.head _))))) News.nil)))) (by walk_at "m_sep") ⟨_, _, _, _, _, _, rfl, rfl, h3, h2, neN (by lia), neN (by lia), neN (by lia)⟩
  · rw [List.concat_eq_append] at *
    k_extra "y"
    refine ex2 (cj9 h1) fun w1 tc hJ9 => ?_
    refine an1 hJ9 fun e9_0 h4 => ?_
    clear hJ9
    subst e9_0
    k_extra "z"
    clear N2 F2
    have hw := zr9 h4
    rw [List.length_append] at hl1
    have q1 : w1.length ≤ 1000000 := by lia
    k_steps
    unfold zC9
    rename Fr _ _ _ _ => F5
    rename News _ _ _ _ => N5
    have hv2 := zr9 h2
    by_cases hm : c ∈ s2
    · refine hV9 F5 N5 h2 hm (by lia) (by k_updF) ?_
      intro h' ws hws F6 N6
      clear F5 N5
      (try dsimp only at N6)
      k_steps
      refine ix5 s1.length _ _ _ _ (⟨rfl, (by rw [List.length_append]; simp), F6, N6, ix11 w1 s1 _ ws (s2.erase c) _ v3 s3 _ sl _ (⟨rfl, zz9 rfl rfl rfl, rfl, h4, hws, h3, by simp at hl1; lia, Nat.le_trans (List.length_erase_le) hl2, ?_⟩)⟩)
      rw [← hRR, List.reverse_append]
      show _ = vq9 (c :: s1.reverse) s2 s3
      exact (if_pos hm).symm
    · refine gN9 rfl N5 (.tail _ (.tail _ (.head _))) h2 hm ?_
      intro h' tk' e hx
      (try dsimp only)
      refine cU9 (A₀ := { handled := none, depth := zY9.1, frames := some [zY9.2.2.2.1], guards := zY9.2.2.1, units := zY9.2.1 }) (new := [(M1, _), (wuld_spec.2.1, _), (wuld_spec.2.2.1, _)]) (L := zY9.2.2.2.2.1) (oL := { zY9.2.2.2.2.2.1 with slots := sl }) rfl ⟨Fs.1, Fs.2.1, Fs.2.2.1, trivial⟩ hx F5 N5 (by walk_at "m_sep") ?_ ?_ PassesOwnAt.never rfl
      · intro A E' Q' s₁ F6 hq
        clear F5 N5
        k_steps
        exact hq
      · intro h6 sl' F6 N6
        clear F5 N5
        have q4 : v3.toArray.size ≤ sizeLine := by have := zr9 h3; rw [sizeLine_eq, List.size_toArray, this]; lia
        k_steps
        rename Fr _ _ _ _ => F7
        rename News _ _ _ _ => N7
        simp only [List.push_toArray] at N7
        refine ix5 s1.length _ _ _ _ (⟨rfl, (by rw [List.length_append]; simp), F7, N7, ix11 w1 s1 _ v2 s2 _ (v3 ++ [.str c tc]) (s3 ++ [c]) _ sl' _ (⟨rfl, zz9 rfl rfl rfl, rfl, h4, h2, zd9 h3 (.cons _ _ .nil), by simp at hl1 ⊢; lia, hl2, ?_⟩)⟩)
        rw [← hRR, List.reverse_append]
        show _ = vq9 (c :: s1.reverse) s2 s3
        exact (if_neg hm).symm
theorem nl9 (V : Wd) (Ea Aa : Addr) (vs va : List Value) (es ea : Nat) (ss sa : List Str) (hEA : @Ne Nat Ea Aa) (hs : StrsAre vs ss) (ha : StrsAre va sa) (hsl : ss.length ≤ 1000) (hal : sa.length ≤ 1000) (RES : List Str × List Str) (hR : vq9 ss.reverse sa [] = RES) :
   SpcT V (.ref 118) [.ref Ea, .ref Aa] 1 40 [(Ea, W.listOf vs.toArray es), (Aa, W.listOf va.toArray ea)] (fun _ => True)
     (zn9 [(Ea, W.listOf vs.toArray es), (Aa, W.listOf va.toArray ea)] fun v nx => ∃ T M vm em va' ea', v = .ref T ∧ nx = [(T, tupO [.ref M, .ref Aa]), (M, W.listOf (List.toArray vm) em), (Aa, W.listOf (List.toArray va') ea')] ∧ StrsAre vm RES.1 ∧ StrsAre va' RES.2 ∧ @Ne Nat M T ∧ @Ne Nat Aa T ∧ @Ne Nat M Aa) := H10 (by unfold wuld_spec; rfl) @cC9 V Ea Aa vs va es ea ss sa RES  hEA hs ha hsl hal hR
end
section
set_option maxRecDepth 100000
theorem bI9 : Manifest.owners.lookup (String.ofList ['r', 'o', 't', 'p', 'i', 'r', 'c', 's', 'e', 'd', '_', 'd', 'o', 'h', 't', 'e', 'm'].reverse) = some Manifest.sig_method_descriptor := by kernel_rfl
theorem slot_md_get : Slot "method_descriptor" "__get__" "method_descriptor.__get__" :=
  .of (owner := "method_descriptor") (n := "__get__") (by rw [typeLookup_type, builtinLookup_eq_fast]; kernel_rfl) (by decide +kernel) (by decide +kernel) (by decide +kernel)
    (by first | exact .inl (by decide +kernel) | exact .inr (by decide +kernel)) (by rw [isSubtype_type]; kernel_rfl)
theorem uK9 : entryFor table "method_descriptor.__get__" = some Builtin.«method_descriptor.__get__» := entryFor_of_tree (by kernel_rfl)
theorem wE9 (a b c : Value) : argsOk "method_descriptor.__get__" ⟨[a, b, c], []⟩ := by
  unfold argsOk; rw [signature?_of (id := "method_descriptor.__get__") (n := ['_', '_', 't', 'e', 'g', '_', '_']) (o := ['r', 'o', 't', 'p', 'i', 'r', 'c', 's', 'e', 'd', '_', 'd', 'o', 'h', 't', 'e', 'm']) (by kernel_rfl) bI9]; kernel_rfl
theorem up9 : typeLookup (.type "method_descriptor") "__set__" = pure none := by rw [typeLookup_type, builtinLookup_eq_fast]; kernel_rfl
theorem ur9 : typeLookup (.type "method_descriptor") "__delete__" = pure none := by rw [typeLookup_type, builtinLookup_eq_fast]; kernel_rfl
theorem tQ9 : typeLookup (.type "list") "append" = pure (some (.builtin "list.append")) := by rw [typeLookup_type, builtinLookup_eq_fast]; kernel_rfl
theorem ub9 : Manifest.toldItsClass.contains "list.append" = false := by decide +kernel
theorem yz9 : (".".intercalate ("list.append".cutAt '.').dropLast) = "list" := by
  have e0 : "list.append".cutAt '.' = ["list", "append"] := by first | rfl | decide +kernel
  rw [e0]; decide +kernel
theorem cG9 : isSubtype (.type "list") (.type (".".intercalate ("list.append".cutAt '.').dropLast)) = pure true := by
  rw [yz9, isSubtype_type]; kernel_rfl
noncomputable def zw9 (l : Addr) : Obj := { cls := .type "builtin_function_or_method", data := .fields #[.builtin "list.append", .ref l] }
theorem uq9 {A : Around} {prog : Program} {w : World} {s : Shared} {l : Addr} {o : Obj} {R : Result → Shared → Prop} (hx : s.heap.get? l = some o) (hc : o.cls = .type "list")
    (hq : R (.ok (.ret (.ref s.heap.objs.size))) { s with heap := s.heap.push (zw9 l) }) :
    codeAny (model prog w) A (.call (.builtin "method_descriptor.__get__") ⟨[.builtin "list.append", .ref l, .type "list"], []⟩) R s := by
  obtain ⟨h, g, d, t, os⟩ := s
  have hT : (⟨h, g, d, t, os⟩ : Shared).TypeIs (.ref l) "list" := ⟨_, hx, hc⟩
  have hT5 : (⟨h, g, d, t, os⟩ : Shared).TypeIs (.builtin "list.append") "method_descriptor" := F.type_list_append
  refine codeAny_call_builtin slot_md_get.plain uK9 (slot_md_get.check _ _ _ _ _ _ _ _ hT5 (wE9 _ _ _) ?_)
  have f8 := cG9
  unfold Builtin.«method_descriptor.__get__»
  refine wpAny_bind (wpAny_of_eq (a := (Value.builtin "list.append", some (.ref l), some (.type "list"))) (by first | rfl | kernel_rfl) ?_)
  dsimp only
  rw [if_neg (by rw [ub9]; decide)]
  repeat (any_goals (first | assumption | wp_step))
theorem bk9 (a : Addr) (xs : Array Value) (k : Nat) (sl : Array (Option Value)) (u : Tok) :
    Meets (Builtin.«object.__getattribute__» ⟨[.ref a, .str "append" u], []⟩) (fun A R s => s.heap.get? a = some { cls := .type "list", dict := none, data := .seq xs k, slots := sl } ∧ R (.ok (.ret (.ref s.heap.objs.size))) { s with heap := s.heap.push (zw9 a) }) :=
  Meets.of_wp fun prog w A R s hs => by
    obtain ⟨hp, g, d, tk, os⟩ := s
    obtain ⟨hx, hs⟩ := hs
    have hT : (⟨hp, g, d, tk, os⟩ : Shared).TypeIs (.ref a) "list" := ⟨_, hx, rfl⟩
    have f1 := tQ9
    have f5 := F.type_list_append
    have f6 := slot_md_get.lookup
    have f7 := up9
    have f8 := ur9
    unfold Builtin.«object.__getattribute__»
    refine wpAny_bind (wpAny_of_eq (a := (Value.ref a, [Value.str "append" u])) (by first | rfl | kernel_rfl) ?_)
    dsimp only
    refine wpAny_bind (wpAny_of_eq (a := Str.ofString "append") (by first | rfl | kernel_rfl) ?_)
    refine wpAny_bind (wpAny_typeOf hT ?_)
    refine wpAny_bind ?_
    repeat (any_goals (first | assumption | wp_step))
    refine uq9 (o := { cls := .type "list", dict := none, data := .seq xs k, slots := sl }) hx rfl ?_
    repeat (any_goals (first | assumption | wp_step))
    exact ⟨_, rfl, hs⟩
section
variable {prog : Program} {w : World} {A : Around} {E : Value → Shared → Prop} {s : Shared} {h₀ : Heap} {L : Addr} {m : Str → Option Value} {news : List (Addr × Obj)}
noncomputable def xU9 (prog : Program) (w : World) (a : Addr) (xs : Array Value) (k : Nat) (Q : Value → Shared → Prop) : Prop := ∀ {A : Around} {E : Value → Shared → Prop} {s : Shared} (hx : s.heap.get? a = some (W.listOf xs k)) (h : ∀ tk, Q (.ref s.heap.objs.size) { s with heap := s.heap.push (zw9 a), toks := tk }), wpAny (model prog w) A (getAttr (.ref a) (Str.ofString "append") true) Q E s
@[irreducible] noncomputable def zg9 := W6 xU9
theorem vA9 : A6 xU9 zg9 := by
  intro A E s hx h
  obtain ⟨hp, g, d, tk, os⟩ := s
  have hT : ∀ tk', (⟨hp, g, d, tk', os⟩ : Shared).TypeIs (.ref zg9.2.2.1) "list" := fun _ => ⟨_, hx, rfl⟩
  have f3 := F.slot_list_getattribute.lookup
  have f4 := F.slot_list_getattribute.bind (.ref zg9.2.2.1)
  have f5 := am_list_getattr_none
  unfold getAttr getAttrBy
  repeat (any_goals (first | assumption | exact hT _ | ((with_reducible show wpAny _ _ (call (Value.builtin "list.__getattribute__") _ _) _ _ _); refine call_meets F.slot_list_getattribute (hT _) am_entry_list_getattribute (F.args_list_getattribute_2 _ _) (bk9 zg9.2.2.1 zg9.2.2.2.1 zg9.2.2.2.2.1 #[] _) ⟨hx, ?_⟩) | wp_step))
  show wpAny _ _ (handedOut _) _ _ _
  exact handed_on rfl (h _)
theorem vn9 {prog w a xs k Q : _} : xU9 prog w a xs k Q := H6 (by unfold zg9; rfl) @vA9 prog w a xs k Q
theorem ut9 : builtinKind "list.append" = some .method := by decide +kernel
theorem vN9 : isSubtype (.type "list") (.type "module") = pure false := by rw [isSubtype_type]; kernel_rfl
theorem cc9 : Manifest.varargsMethods.contains "list.append" = false := by decide +kernel
theorem uv9 {M : Model} {A : Around} {E : Value → Shared → Prop} {s : Shared} {l : Addr} {its : Array Value} {n : Nat} {Q : Bool → Shared → Prop} (h : s.heap.get? l = some (W.listOf its n)) (hq : Q false s) : wpAny M A (isType (.ref l)) Q E s := by
  obtain ⟨hp, g, d, tk, os⟩ := s
  unfold isType
  repeat (any_goals (first | assumption | wp_step))
theorem yA9 : ∃ sig, Manifest.signature? "list.append" = some sig ∧ ∀ a b, Bind.checkArgs "list.append" { sig with full := toString (Bind.lastOf "list") ++ toString "." ++ toString (Bind.lastOf "list.append") } ⟨[a, b], []⟩ = pure () := by
  refine ⟨⟨.oneArg, "list.append", "append", .self, [⟨"object", .posOnly, true⟩]⟩, (signature?_of (id := "list.append") (n := ['d', 'n', 'e', 'p', 'p', 'a']) (o := ['t', 's', 'i', 'l']) (by kernel_rfl) F.owner_list).trans (by kernel_rfl), fun a b => ?_⟩
  kernel_rfl
noncomputable def xY9 (prog : Program) (w : World) (A : Around) (E : Value → Shared → Prop) (q l : Addr) (its : Array Value) (n : Nat) (x : Value) (Q : Value → Shared → Prop) : Prop := ∀ {s : Shared} (hq : s.heap.get? q = some (zw9 l)) (ho : s.heap.get? l = some (W.listOf its n)) (h : ∀ h', Heap.SameBut l s.heap h' → h'.get? l = some (W.listOf (its.push x) (n + 1)) → Q .none { s with heap := h' }) (hsz : its.size ≤ sizeLine), wpAny (model prog w) A (call (.ref q) [x]) Q E s
@[irreducible] noncomputable def zZ9 := W10 xY9
theorem vd9 : A10 xY9 zZ9 := by
  intro s hq ho h hsz
  obtain ⟨hp, g, d, tk, os⟩ := s
  have hT : (⟨hp, g, d, tk, os⟩ : Shared).TypeIs (.ref zZ9.2.2.2.2.2.1) "list" := ⟨_, ho, rfl⟩
  refine wpAny_call (codeAny_of_tree ?_)
  show wpAny _ _ (callAny (.ref zZ9.2.2.2.2.1) _) _ _ _
  dsimp only at hq
  refine nd_load hq ?_
  show wpAny _ _ (checkBoundCall "list.append" ⟨[.ref zZ9.2.2.2.2.2.1, zZ9.2.2.2.2.2.2.2.2.1], []⟩ >>= _) _ _ _
  refine wpAny_bind ?_
  unfold checkBoundCall
  k_extra "y"
  refine ex1 (yA9) fun sig hJ9 => ?_
  refine an1 hJ9 fun hs hc => ?_
  clear hJ9
  try clear yA9
  k_extra "z"
  rw [ut9, hs]
  dsimp only
  rw [if_neg (by decide)]
  refine wpAny_bind (wpAny_isInstance hT vN9 ?_)
  rw [if_neg (by rw [cc9]; decide)]
  refine wpAny_bind (uv9 (its := zZ9.2.2.2.2.2.2.1) (n := zZ9.2.2.2.2.2.2.2.1) ho ?_)
  rw [if_neg (by decide)]
  refine wpAny_bind (wpAny_typeOf hT ?_)
  refine wpAny_of_eq (hc _ _) ?_
  refine wpAny_pure ⟨plainId_quiet F.slot_list_append.plain _, codeAny_builtin F.entry_list_append ?_⟩
  show wpAny _ _ (updateSeq zZ9.2.2.2.2.2.1 (·.push zZ9.2.2.2.2.2.2.2.2.1) >>= fun _ => ret .none) _ _ _
  refine wpAny_bind ?_
  refine wpAny_updateSeq ho rfl (wpAny_pure (h _ (Heap.SameBut.update ..) ?_))
  rw [Heap.get?_update_self _ ho (by rw [mapSeq_push]; rfl), mapSeq_push]
theorem yY9 {prog w A E q l its n x Q : _} : xY9 prog w A E q l its n x Q := H10 (by unfold zZ9; rfl) @vd9 prog w A E q l its n x Q
end
section
variable {prog : Program} {w : World} {A : Around} {E : Value → Shared → Prop} {s : Shared} {h₀ : Heap} {L : Addr} {m : Str → Option Value} {news news' : List (Addr × Obj)} {Q : Value → Shared → Prop}
theorem nJ9 {D : Addr} {its : Array Value} {n : Nat} (F : Fr h₀ L s.heap m) (N : News h₀ L s.heap news) (hm : (D, W.listOf its n) ∈ news)
    (h : ∀ q h' tk, Fr h₀ L h' m → News h₀ L h' ((q, zw9 D) :: news) → (∀ p ∈ news, p.1 < q) → Q (.ref q) { s with heap := h', toks := tk }) :
    wpAny (model prog w) A (getAttr (.ref D) (Str.ofString "append") true) Q E s :=
  vn9 (N _ hm).1 fun tk => h _ _ tk (F.push _) (N.push F _) fun p hp => Heap.lt_size (N p hp).1
theorem wv9 {hh9 : Heap} {gg9 : Array GenState} {dd9 : Drawn} {tt9 : Nat} {oo9 : OsState} {D : Addr} {its : Array Value} {n : Nat} (F : Fr h₀ L hh9 m) (N : News h₀ L hh9 news) (hm : (D, W.listOf its n) ∈ news)
    (h : ∀ q h' tk, Fr h₀ L h' m → News h₀ L h' ((q, zw9 D) :: news) → (∀ p ∈ news, p.1 < q) → Q (.ref q) ⟨h', gg9, dd9, tk, oo9⟩) :
    wpAny (model prog w) A (getAttr (.ref D) (Str.ofString "append") true) Q E ⟨hh9, gg9, dd9, tt9, oo9⟩ := nJ9 (s := ⟨hh9, gg9, dd9, tt9, oo9⟩) F N hm h
theorem nC9 {q D : Addr} {its : Array Value} {n : Nat} {x : Value} (F : Fr h₀ L s.heap m) (N : News h₀ L s.heap news) (hq : (q, zw9 D) ∈ news) (U : Upd D (W.listOf its n) (W.listOf (its.push x) (n + 1)) news news')
    (h : ∀ h', Fr h₀ L h' m → News h₀ L h' news' → Q .none { s with heap := h' }) (hsz : its.size ≤ sizeLine) : wpAny (model prog w) A (call (.ref q) [x]) Q E s := by
  have zq := (N _ hq).1
  obtain ⟨pre, post, rfl, rfl, a, b⟩ := U.split
  have z := N (D, W.listOf its n) (List.mem_append.mpr (.inr (.head _)))
  exact yY9 (hsz := hsz) zq z.1 fun h' hs ho' => h h' (F.change hs z.2.1 z.2.2) (news_set N a b hs ho')
theorem callAppL {hh9 : Heap} {gg9 : Array GenState} {dd9 : Drawn} {tt9 : Nat} {oo9 : OsState} {q D : Addr} {its : Array Value} {n : Nat} {x : Value} (F : Fr h₀ L hh9 m) (N : News h₀ L hh9 news) (hq : (q, zw9 D) ∈ news) (U : Upd D (W.listOf its n) (W.listOf (its.push x) (n + 1)) news news')
    (h : ∀ h', Fr h₀ L h' m → News h₀ L h' news' → Q .none ⟨h', gg9, dd9, tt9, oo9⟩) (hsz : its.size ≤ sizeLine) : wpAny (model prog w) A (call (.ref q) [x]) Q E ⟨hh9, gg9, dd9, tt9, oo9⟩ := nC9 (s := ⟨hh9, gg9, dd9, tt9, oo9⟩) F N hq U h hsz
end
end
section
set_option maxRecDepth 100000
section
open Builtin Builtin.Str
variable {prog : Program} {w : World} {A : Around} {E : Value → Shared → Prop} {s : Shared}
theorem qK9 : isSubtype (.type "KeyError") (.type "LookupError") = pure true := by rw [isSubtype_type]; kernel_rfl
noncomputable def xx9 (prog : Program) (w : World) (A : Around) (s : Shared) (d : Addr) (c : Nat) : Prop := ∀ {E : Value → Shared → Prop} {f : Int → Option Value} {Q : Mapped → Shared → Prop} (hd : (d == sysModules) = false) (hh : A.handled = none) (hm : s.heap.MapOf (intKind prog w) d f) (hv : f c = none) (h : ∀ h' tk, (∀ b o, s.heap.get? b = some o → h'.get? b = some o) → Q .keep { s with heap := h', toks := tk }), wpAny (model prog w) A (tableLookup (.ref d) c) Q E s
@[irreducible] noncomputable def xG9 := W6 xx9
theorem yP9 : A6 xx9 xG9 := by
  intro E f Q hd hh hm hv h
  unfold tableLookup
  refine wpAny_bind (wpAny_attempt ?_)
  refine wpAny_bind (wpAny_mkInt ?_)
  refine wpAny_getItem_missing_of (knd := intKind xG9.1 xG9.2.1) (k := (xG9.2.2.2.2.2 : Int)) (by simp [intKind, Value.isInt]) hd hh hm hv fun h' e hx => ?_
  obtain ⟨ob, t, he, hcls, _⟩ := hx.there
  show wpAny _ _ (isInstance (.ref e) (.type "LookupError") >>= _) _ _ _
  refine wpAny_bind (wpAny_isInstance (T := "KeyError") ⟨ob, he, hcls⟩ qK9 ?_)
  rw [if_pos rfl]
  exact wpAny_bind (wpAny_rule (wpAny_pure (h _ _ hx.keeps)))
theorem us9 {prog w A s d c : _} : xx9 prog w A s d c := H6 (by unfold xG9; rfl) @yP9 prog w A s d c
noncomputable def xT9 (prog : Program) (w : World) (A : Around) (E : Value → Shared → Prop) (s : Shared) (d : Addr) (c : Nat) (t : Tok) (f : Int → Option Value) (Q : Value → Shared → Prop) : Prop := ∀ (hd : (d == sysModules) = false) (hh : A.handled = none) (hm : s.heap.MapOf (intKind prog w) d f) (hv : f c = none) (hc : c < 128) (h : ∀ h' t' tk, (∀ b o, s.heap.get? b = some o → h'.get? b = some o) → Q (.str ⟨#[c]⟩ t') { s with heap := h', toks := tk }), wpAny (model prog w) A (call (.builtin "str.translate") [.str ⟨#[c]⟩ t, .ref d]) Q E s
@[irreducible] noncomputable def zU9 := W10 xT9
theorem qs9 : A10 xT9 zU9 := by
  intro hd hh hm hv hc h
  refine wpAny_call_entry F.slot_str_translate (typeIs_str zU9.2.2.2.2.1 _ zU9.2.2.2.2.2.2.2.1) F.entry_str_translate ?_ (F.args_str_translate_2 _ _)
  unfold Builtin.«str.translate»
  dsimp only
  refine wpAny_bind (wpAny_of_eq (a := (Value.str ⟨#[zU9.2.2.2.2.2.2.1]⟩ zU9.2.2.2.2.2.2.2.1, (⟨#[zU9.2.2.2.2.2.2.1]⟩ : Str), Value.ref zU9.2.2.2.2.2.1)) (by first | rfl | kernel_rfl) ?_)
  dsimp only
  have e0 : ((⟨#[zU9.2.2.2.2.2.2.1]⟩ : Str).length == 0) = false := by simp [Str.length]
  have e1 : (#[zU9.2.2.2.2.2.2.1].all fun x => decide (x < 128)) = true := by simp [hc]
  rw [e0, e1, if_neg (by decide)]
  refine wpAny_bind ?_
  rw [← Array.forIn_toList]
  show wpAny _ _ (forIn [zU9.2.2.2.2.2.2.1] _ _) _ _ _
  rw [List.forIn_cons]
  have tl0 : tooLong 0 = false := by decide
  have tl1 : tooLong (0 + 1) = false := by decide
  refine wpAny_bind ?_
  dsimp only
  rw [tl0, if_neg Bool.false_ne_true]
  dsimp only [List.lookup_nil]
  refine wpAny_bind (us9 hd hh hm hv fun h' tk hk => ?_)
  dsimp only
  refine wpAny_pure ?_
  dsimp only
  rw [List.forIn_nil]
  refine wpAny_pure ?_
  dsimp only
  rw [tl1, if_neg (by decide)]
  refine wpAny_bind (wpAny_mkStr ?_ (by show 1 ≤ sizeLine; decide))
  exact wpAny_pure ⟨_, rfl, h _ _ _ hk⟩
theorem vh9 {prog w A E s d c t f Q : _} : xT9 prog w A E s d c t f Q := H10 (by unfold zU9; rfl) @qs9 prog w A E s d c t f Q
noncomputable def nx9 (es : Array DictEntry) (n : Nat) : Obj := { cls := .type "dict", data := .dict es n }
noncomputable def bb9 (es : List DictEntry) : Bool := es.all fun e => match e.key with | .int k _ => e.hash == hashInt k | _ => false
theorem cM9 {h : Heap} {d : Addr} {es : Array DictEntry} {n : Nat} (ho : h.get? d = some (nx9 es n)) (hk : bb9 es.toList = true) : h.MapOf (intKind prog w) d (fun k => findBy Value.isInt es k) := by
  refine ix3 _ es n (⟨ho, ⟨rfl, rfl, rfl⟩, rfl, fun e he => ?_, fun k => rfl⟩)
  have := List.all_eq_true.mp hk e (by simpa using he)
  revert this
  cases hkey : e.key <;> intro this <;> simp at this
  rename_i k t
  exact ⟨k, by simp [intKind, Value.isInt], this⟩
end
end
section
set_option maxRecDepth 100000
section
open Builtin Builtin.Re
noncomputable def patCode : Array Nat := #[14, 14, 4, 1, 1, 9, 0, 64, 0, 1342177280, 0, 0, 0, 0, 0, 17, 0, 13, 11, 9, 0, 64, 0, 1342177280, 0, 0, 0, 0, 0, 17, 1, 1]
noncomputable def drv : Nat → Sre.M → Option Sre.M
  | 0, _ => none
  | k + 1, m => let m' := m.runFor reTurnSteps; if m'.outcome.isSome then some m' else drv k m'
noncomputable def noHit (x : Array Nat) : Bool := ((drv 200 (Sre.forSearch patCode x 1 0 x.size false)).bind fun m => m.outcome).elim false fun o => o.ctorIdx == 1
theorem nj9 {M : Model} {A : Around} {E : Value → Shared → Prop} {s : Shared} {Q : Sre.M → Shared → Prop} (k n : Nat) (m m' : Sre.M) (hk : k ≤ n) (h : drv k m = some m') (hq : Q m' s) : wpAny M A (reDrive n m) Q E s := by
  induction k generalizing n m with
  | zero => cases h
  | succ k ih => cases n with
    | zero => exact absurd hk (Nat.not_succ_le_zero _)
    | succ n =>
      replace h : (if (m.runFor reTurnSteps).outcome.isSome = true then some (m.runFor reTurnSteps) else drv k (m.runFor reTurnSteps)) = some m' := h
      show wpAny M A (if (m.runFor reTurnSteps).outcome.isSome = true then _ else _) Q E s
      by_cases e : (m.runFor reTurnSteps).outcome.isSome = true
      · rw [if_pos e] at h ⊢
        cases h
        exact wpAny_pure hq
      · rw [if_neg e] at h ⊢
        exact wpAny_bind (wpAny_rule (ih n _ (Nat.le_of_succ_le_succ hk) h))
theorem nh9 {M : Model} {A : Around} {E : Value → Shared → Prop} {s : Shared} {Q : PUnit → Shared → Prop} (c : Nat → Bool) (nm : Nat → String) (hq : Q PUnit.unit s) (l : List Nat) :
    wpAny M A (forIn l PUnit.unit fun i _ => if c i = true then do rule (nm i); pure (ForInStep.yield PUnit.unit) else pure (ForInStep.yield PUnit.unit)) Q E s := by
  induction l with
  | nil => rw [List.forIn_nil]; exact wpAny_pure hq
  | cons i l ih =>
    rw [List.forIn_cons]
    refine wpAny_bind ?_
    by_cases e : c i = true
    · rw [if_pos e]; exact wpAny_bind (wpAny_rule (wpAny_pure ih))
    · rw [if_neg e]; exact wpAny_pure ih
noncomputable def yh9 (M : Model) (A : Around) (E : Value → Shared → Prop) (s : Shared) (x : Array Nat) (Q : Option Sre.M → Shared → Prop) : Prop := ∀ (hx : noHit x = true) (hq : Q none s), wpAny M A (reRunToEnd (Sre.forSearch patCode x 1 0 x.size false)) Q E s
@[irreducible] noncomputable def vB9 := W6 yh9
theorem cZ9 : A6 yh9 vB9 := by
  intro hx hq
  unfold noHit at hx
  cases hd : drv 200 (Sre.forSearch patCode vB9.2.2.2.2.1 1 0 vB9.2.2.2.2.1.size false) with
  | none => rw [hd] at hx; cases hx
  | some m =>
    rw [hd] at hx
    unfold reRunToEnd
    refine wpAny_bind (nj9 200 _ _ m (Nat.le_of_ble_eq_true rfl) hd ?_)
    refine wpAny_bind (nh9 (fun i => m.seen.has i) (fun i => Sre.names.getD i "") ?_ _)
    replace hx : m.outcome.elim false (fun o => o.ctorIdx == 1) = true := hx
    revert hx
    cases ho : m.outcome with
    | none => intro hx; cases hx
    | some o => cases o <;> intro hx <;> first | (cases hx; done) | exact wpAny_pure hq
theorem dn9 {M A E s x Q : _} : yh9 M A E s x Q := H6 (by unfold vB9; rfl) @cZ9 M A E s x Q
theorem slot_pat_sub : Slot "re.Pattern" "sub" "re.Pattern.sub" :=
  .of (owner := "re.Pattern") (n := "sub") (by rw [typeLookup_type, builtinLookup_eq_fast]; kernel_rfl) (by decide +kernel) (by decide +kernel) (by decide +kernel)
    (by first | exact .inl (by decide +kernel) | exact .inr (by decide +kernel)) (by rw [isSubtype_type]; kernel_rfl)
theorem ys9 : typeOf (.builtin "re.Pattern.sub") = pure (.type "method_descriptor") := by show builtinType _ = _; rw [builtinType_eq_fast]; kernel_rfl
theorem yW9 : entryFor table "re.Pattern.sub" = some Builtin.«re.Pattern.sub» := entryFor_of_tree (by kernel_rfl)
theorem vp9 : entryFor table "re.Pattern.sub.loop" = some Builtin.«re.Pattern.sub.loop» := entryFor_of_tree (by kernel_rfl)
theorem qI9 : plainId "re.Pattern.sub.loop" = true := by decide +kernel
theorem uS9 (a b c : Value) : argsOk "re.Pattern.sub" ⟨[a, b, c], []⟩ := by
  unfold argsOk
  kernel_rfl
theorem vj9 : PlainAttrs "re.Pattern" :=
  ⟨⟨"object.__getattribute__", by rw [typeLookup_type, builtinLookup_eq_fast]; kernel_rfl, by decide +kernel⟩, by rw [typeLookup_type, builtinLookup_eq_fast]; kernel_rfl⟩
theorem qb9 : isSubtype (.type "str") (.type "bytearray") = pure false := by rw [isSubtype_type]; kernel_rfl
variable {prog : Program} {w : World} {A : Around} {E : Value → Shared → Prop} {s : Shared}
noncomputable def tC9 (T : Addr) : Obj := { cls := .type "re.Pattern", data := .fields #[.str (Str.ofString "([&~|])") 367, .int 32 402, .int 1 0, .none, .none, .ref T, .int 0 0] }
noncomputable def wQ9 : Obj := { cls := .type "tuple", data := .seq (patCode.map fun n : Nat => Value.int (n : Int) 0) }
noncomputable def qm9 (prog : Program) (s : Shared) (P T : Addr) (t : Tok) (Q : ReTarget → Shared → Prop) : Prop := ∀ {w : World} {A : Around} {E : Value → Shared → Prop} {x : Str} (hP : s.heap.get? P = some (tC9 T)) (hT : s.heap.get? T = some wQ9) (h : Q { pattern := .ref P, string := .str x t, code := patCode, text := x.cps, kind := 0, groups := 1, pos := 0, lim := x.cps.size } s), wpAny (model prog w) A (reWholeTarget (.ref P) (.str x t)) Q E s
@[irreducible] noncomputable def qY9 := W6 qm9
theorem uY9 : A6 qm9 qY9 := by
  intro w A E x hP hT h
  unfold reWholeTarget
  refine wpAny_bind (wpAny_fieldsOf hP rfl ?_)
  refine wpAny_bind (wpAny_of_eq (a := (x.cps, 0)) (by first | rfl | kernel_rfl) ?_)
  dsimp only
  show wpAny _ _ (if (false : Bool) = true then _ else if (false : Bool) = true then _ else _) _ _ _
  rw [if_neg Bool.false_ne_true, if_neg Bool.false_ne_true]
  refine wpAny_bind (wpAny_of_eq (a := ()) (by first | rfl | kernel_rfl) ?_)
  show wpAny _ _ (reRawItems (.ref qY9.2.2.2.1) >>= _) _ _ _
  refine wpAny_bind (wpAny_bind (wpAny_seqItems hT rfl (wpAny_pure ?_)))
  refine wpAny_pure ?_
  rw [Option.getD_some, show Array.map (fun x => x.toNat) (Array.map reRawOf (patCode.map fun n : Nat => Value.int (n : Int) 0)) = patCode from by decide +kernel]
  exact h
theorem yn9 {prog s P T t Q : _} : qm9 prog s P T t Q := H6 (by unfold qY9; rfl) @uY9 prog s P T t Q
theorem gk9 : ∃ v, typeLookup (.type "function") "__call__" = pure (some v) := ⟨.builtin "function.__call__", by rw [typeLookup_type, builtinLookup_eq_fast]; kernel_rfl⟩
theorem tL9 (a b : Value) : reNamed "re.Pattern.sub" "sub" ["repl", "string", "count"] 2 [a, b] [] = pure [some a, some b, none] := by first | rfl | kernel_rfl
theorem uZ9 {M : Model} {Q : Value → Shared → Prop} (h : Q (.ref s.heap.objs.size) { s with heap := s.heap.push (W.listOf #[] 0) }) : wpAny M A (newList []) Q E s := by
  obtain ⟨hp, g, d, tk, os⟩ := s
  repeat (any_goals (first | assumption | wp_step))
noncomputable def vf9 (prog : Program) (w : World) (s : Shared) (P T f : Addr) (of : Obj) (x : Str) (t : Tok) (Q : Value → Shared → Prop) : Prop := ∀ {A : Around} {E : Value → Shared → Prop} (hP : s.heap.get? P = some (tC9 T)) (hT : s.heap.get? T = some wQ9) (hf : s.heap.get? f = some of) (hfc : of.cls = .type "function") (hx : noHit x.cps = true) (hz : x.length ≤ 1000) (hz0 : 0 < x.length) (h : ∀ h' t' tk, (∀ b o, s.heap.get? b = some o → h'.get? b = some o) → Q (.str x t') { s with heap := h', toks := tk }), wpAny (model prog w) A (call (.builtin "re.Pattern.sub") [.ref P, .ref f, .str x t]) Q E s
@[irreducible] noncomputable def zI9 := W10 vf9
theorem cF9 : A10 vf9 zI9 := by
  intro A E hP hT hf hfc hx hz hz0 h
  obtain ⟨cv, hcv⟩ := gk9
  refine wpAny_call (codeAny_call_builtin slot_pat_sub.plain yW9 (slot_pat_sub.check _ _ _ _ _ _ _ _ ⟨_, hP, rfl⟩ (uS9 _ _ _) ?_))
  unfold Builtin.«re.Pattern.sub» reSubstitute
  dsimp only
  refine wpAny_bind (wpAny_of_eq (tL9 _ _) ?_)
  dsimp only
  refine wpAny_bind (wpAny_pure ?_)
  refine wpAny_bind (wpAny_specialOf (T := "function") ⟨zI9.2.2.2.2.2.2.1, hf, hfc⟩ hcv ?_)
  dsimp only [Option.isSome]
  rw [if_pos rfl]
  refine wpAny_bind (wpAny_pure ?_)
  rw [if_pos rfl]
  refine wpAny_bind (wpAny_pure ?_)
  dsimp only
  refine wpAny_bind (wpAny_holding (yn9 hP hT ?_))
  rw [if_pos (by decide)]
  refine wpAny_bind ?_
  unfold reNotHeld
  refine wpAny_bind (wpAny_isInstance (typeIs_str zI9.2.2.1 _ zI9.2.2.2.2.2.2.2.2.1) qb9 ?_)
  rw [if_neg Bool.false_ne_true]
  refine wpAny_pure ?_
  refine wpAny_bind (uZ9 ?_)
  refine wpAny_pure ⟨plainId_quiet qI9 _, codeAny_builtin vp9 ?_⟩
  rw [Around.under_plainId qI9 _]
  have hP1 : (zI9.2.2.1.heap.push (W.listOf #[] 0)).get? zI9.2.2.2.1 = some (tC9 zI9.2.2.2.2.1) := Heap.get?_push_of_some _ hP
  have hT1 : (zI9.2.2.1.heap.push (W.listOf #[] 0)).get? zI9.2.2.2.2.1 = some wQ9 := Heap.get?_push_of_some _ hT
  have hl1 : (zI9.2.2.1.heap.push (W.listOf #[] 0)).get? zI9.2.2.1.heap.objs.size = some (W.listOf #[] 0) := Heap.get?_push_size _ rfl
  have hk1 : ∀ b o, zI9.2.2.1.heap.get? b = some o → b ≠ zI9.2.2.1.heap.objs.size ∧ (zI9.2.2.1.heap.push (W.listOf #[] 0)).get? b = some o := fun b o e => ⟨Nat.ne_of_lt (Heap.lt_size e), Heap.get?_push_of_some _ e⟩
  generalize zI9.2.2.1.heap.objs.size = l at hl1 hk1
  generalize zI9.2.2.1.heap.push (W.listOf #[] 0) = h1 at hP1 hT1 hl1 hk1
  unfold Builtin.«re.Pattern.sub.loop»
  dsimp only [rawInt]
  refine wpAny_bind (yn9 hP1 hT1 ?_)
  rw [if_neg (by decide)]
  dsimp only
  rw [if_neg (by decide)]
  refine wpAny_bind (dn9 hx ?_)
  dsimp only
  have hsz : 0 < zI9.2.2.2.2.2.2.2.1.cps.size := hz0
  rw [if_pos (by simpa using hsz)]
  refine wpAny_bind ?_
  unfold reSlice
  rw [if_pos (by decide)]
  have ext : zI9.2.2.2.2.2.2.2.1.cps.extract (Int.toNat 0) zI9.2.2.2.2.2.2.2.1.cps.size = zI9.2.2.2.2.2.2.2.1.cps := by simp
  rw [ext]
  refine wpAny_mkStr ?_ (by rw [sizeLine_eq]; show zI9.2.2.2.2.2.2.2.1.length ≤ _; lia)
  refine wpAny_bind (wpAny_updateSeq (o := W.listOf #[] 0) hl1 rfl ?_)
  have hl2 : (h1.update l (Obj.mapSeq fun x_1 => x_1.push (.str zI9.2.2.2.2.2.2.2.1 zI9.2.2.1.toks))).get? l = some (W.listOf #[.str zI9.2.2.2.2.2.2.2.1 zI9.2.2.1.toks] 1) := by
    rw [Heap.get?_update_self _ hl1 (by rw [mapSeq_push]; rfl), mapSeq_push]
    rfl
  have hk2 : ∀ b o, zI9.2.2.1.heap.get? b = some o → (h1.update l (Obj.mapSeq fun x_1 => x_1.push (.str zI9.2.2.2.2.2.2.2.1 zI9.2.2.1.toks))).get? b = some o := fun b o e => by
    rw [Heap.get?_update_other h1 _ (Ne.symm (hk1 b o e).1)]
    exact (hk1 b o e).2
  dsimp only
  generalize (h1.update l (Obj.mapSeq fun x_1 => x_1.push (.str zI9.2.2.2.2.2.2.2.1 zI9.2.2.1.toks))) = h2 at hl2 hk2
  rw [if_pos (by decide)]
  have ext0 : zI9.2.2.2.2.2.2.2.1.cps.extract 0 0 = #[] := by simp
  rw [ext0]
  refine wpAny_bind (wpAny_mkStr ?_ (by show 0 ≤ sizeLine; decide))
  dsimp only
  refine wpAny_bind (wpAny_seqItems hl2 rfl ?_)
  rw [if_neg (by simp), if_pos (by decide)]
  refine wpAny_bind (join_listW (items := #[.str zI9.2.2.2.2.2.2.2.1 zI9.2.2.1.toks]) (ys := [zI9.2.2.2.2.2.2.2.1]) ⟨_, hl2, rfl, _, rfl⟩ (.cons _ _ .nil) (by show 0 ≤ 16; lia) (by simp; lia) ?_)
  intro t' k
  rw [if_neg Bool.false_ne_true]
  exact wpAny_pure (h _ _ _ hk2)
theorem qB9 {prog w s P T f of x t Q : _} : vf9 prog w s P T f of x t Q := H10 (by unfold zI9; rfl) @cF9 prog w s P T f of x t Q
end
end
section
noncomputable def sLo (n : Nat) : Option Int → Nat
  | none => 0
  | some i => if i < 0 then (i + n).toNat else min i.toNat n
noncomputable def sHi (n : Nat) : Option Int → Nat
  | none => n
  | some i => if i < 0 then (i + n).toNat else min i.toNat n
theorem hU9 (n : Nat) (hi : Option Int) : sHi n hi ≤ n := by
  cases hi with
  | none => exact Nat.le_refl _
  | some i =>
    show (if i < 0 then (i + n).toNat else min i.toNat n) ≤ n
    split
    · rename_i h; exact Int.toNat_le.mpr (Int.add_le_of_le_sub_right (by rw [Int.sub_self]; exact Int.le_of_lt h))
    · exact Nat.min_le_right _ _
noncomputable def jG9 (n : Nat) (d : Int) : Option Int → Int
  | none => d
  | some i => max 0 (min (if i < 0 then i + n else i) n)
theorem uP9 (n : Nat) (i : Int) : max 0 (min (if i < 0 then i + n else i) (n : Int)) = ((if i < 0 then (i + n).toNat else min i.toNat n : Nat) : Int) := by
  split
  · rename_i h
    rw [Int.ofNat_toNat, Int.min_eq_left (Int.add_le_of_le_sub_right (by rw [Int.sub_self]; exact Int.le_of_lt h)), Int.max_comm]
  · rename_i h
    have h := Int.not_lt.mp h
    rcases Nat.le_total i.toNat n with e | e
    · rw [Nat.min_eq_left e, Int.ofNat_toNat, Int.max_eq_left h, Int.min_eq_left (Int.toNat_le.mp e), Int.max_eq_right h]
    · rw [Nat.min_eq_right e, Int.min_eq_right ((Int.le_toNat h).mp e), Int.max_eq_right (Int.natCast_nonneg n)]
theorem gr9 (n : Nat) (o : Option Int) : jG9 n 0 o = (sLo n o : Int) := by
  cases o with
  | none => rfl
  | some i => exact uP9 n i
theorem gs9 (n : Nat) (o : Option Int) : jG9 n n o = (sHi n o : Int) := by
  cases o with
  | none => rfl
  | some i => exact uP9 n i
theorem hP9 (a b : Nat) : sliceRange (a : Int) (b : Int) 1 = List.range' a (b - a) := by
  have c : (if (a : Int) < (b : Int) then ((b : Int) - a + 1 - 1) / 1 else 0).toNat = b - a := by
    split
    · rw [Int.ediv_one, Int.add_sub_cancel, Int.toNat_sub]
    · rename_i h
      exact (Nat.sub_eq_zero_of_le (Int.ofNat_le.mp (Int.not_lt.mp h))).symm
  show (List.range (if (a : Int) < (b : Int) then ((b : Int) - a + 1 - 1) / 1 else 0).toNat).map _ = _
  rw [c, List.range'_eq_map_range]
  refine List.map_congr_left fun k _ => ?_
  show ((a : Int) + 1 * (k : Int)).toNat = a + k
  rw [Int.one_mul, ← Int.natCast_add, Int.toNat_natCast]
theorem jh9 (n : Nat) (lo hi : Option Int) : Builtin.Str.strSliceIndices lo hi 1 n = List.range' (sLo n lo) (sHi n hi - sLo n lo) := by
  rw [← hP9, ← gr9, ← gs9]
  cases lo <;> cases hi <;> rfl
theorem tp9 (l : List Nat) : ∀ k a, a + k ≤ l.length → (List.range' a k).filterMap (fun v => l[v]?) = (l.drop a).take k
  | 0, _, _ => by rw [List.take_zero]; rfl
  | k + 1, a, h => by
    have h1 : a < l.length := Nat.lt_of_lt_of_le (Nat.lt_add_of_pos_right (Nat.succ_pos k)) h
    rw [List.range'_succ, List.filterMap_cons_some (List.getElem?_eq_getElem h1), tp9 l k (a + 1) (Nat.le_trans (Nat.le_of_eq (Nat.succ_add_eq_add_succ a k)) h), List.drop_eq_getElem_cons h1]; rfl
theorem xZ9 (l : List Nat) (lo hi : Option Int) : Txt.slice ⟨l.toArray⟩ lo hi = ⟨((l.drop (sLo l.length lo)).take (sHi l.length hi - sLo l.length lo)).toArray⟩ := by
  have hb := hU9 l.length hi
  have hl : (⟨l.toArray⟩ : Str).length = l.length := List.size_toArray
  have key : (List.range' (sLo l.length lo) (sHi l.length hi - sLo l.length lo)).filterMap (fun v => (⟨l.toArray⟩ : Str).cps[v]?) = (l.drop (sLo l.length lo)).take (sHi l.length hi - sLo l.length lo) := by
    show List.filterMap (fun v => l.toArray[v]?) _ = _
    simp only [List.getElem?_toArray]
    rcases Nat.le_total (sLo l.length lo) (sHi l.length hi) with h | h
    · exact tp9 l _ _ (Nat.le_trans (Nat.le_of_eq (Nat.add_sub_cancel' h)) hb)
    · rw [Nat.sub_eq_zero_of_le h, List.take_zero]; rfl
  unfold Txt.slice
  rw [hl, jh9, List.length_range']
  split
  · rename_i h
    have h2 : sHi l.length hi - sLo l.length lo = l.length := by simpa using h
    have h3 : sLo l.length lo = 0 ∨ l.length = 0 := by
      rcases Nat.eq_zero_or_pos (sLo l.length lo) with e | e
      · exact .inl e
      · refine .inr (Nat.eq_zero_of_not_pos fun p => ?_)
        exact absurd h2 (Nat.ne_of_lt (Nat.lt_of_le_of_lt (Nat.sub_le_sub_right hb _) (Nat.sub_lt p e)))
    rw [h2]
    rcases h3 with e | e
    · rw [e, List.drop_zero, List.take_length]
    · rw [List.length_eq_zero_iff.mp e, List.drop_nil, List.take_nil]
  · rw [← key]
end
section
set_option maxRecDepth 100000
section
open Builtin Builtin.Str StrLaws
theorem uw9 (x y : Str) (i j : Int) (t u v v2 : Tok) : Gives («str.find» ⟨[.str x t, .str y u, .int i v, .int j v2], []⟩) (.int (match occurrences x y (fromIndex x.length i) (min (fromIndex x.length j) x.length) 1 with | k :: _ => (k : Int) | [] => -1)) := by
  show Gives (match occurrences x y (fromIndex x.length i) (min (fromIndex x.length j) x.length) 1 with | k :: _ => retInt k | [] => (do rule "str.find.not-found"; retInt (-1))) _
  cases occurrences x y (fromIndex x.length i) (min (fromIndex x.length j) x.length) 1 with
  | nil => exact .rule (.of_eq rfl)
  | cons k _ => exact .of_eq rfl
theorem wT9 (x y : Str) (lo hi limit : Nat) (hl : 1 ≤ limit) :
    (occurrences x y lo hi limit = [] ∧ ∀ i, lo ≤ i → ¬ At x y hi i) ∨
    ∃ i r, occurrences x y lo hi limit = i :: r ∧ lo ≤ i ∧ At x y hi i ∧ ∀ k, lo ≤ k → k < i → ¬ At x y hi k := by
  rw [occ_eq]
  rcases occ_first x y hi limit hl (List.range' lo (hi + 1 - lo)) lo (fun i hi => by have := List.mem_range'_1.mp hi; lia) with ⟨h0, hn⟩ | ⟨pre, a, post, e, h0, ha, hn⟩
  · refine .inl ⟨by rw [h0], fun i hlo hi => ?_⟩
    exact hn i (List.mem_range'_1.mpr ⟨hlo, Nat.lt_of_lt_of_le (Nat.lt_succ_of_le (Nat.le_trans (Nat.le_add_right _ _) hi.1)) (Nat.le_of_eq (Nat.add_sub_cancel' (Nat.le_succ_of_le (Nat.le_trans hlo (Nat.le_trans (Nat.le_add_right _ _) hi.1)))).symm)⟩) hi
  · have hs := range'_split_from e
    refine .inr ⟨a, ((forIn (List.range' lo (hi + 1 - lo)) ((#[] : Array Nat), lo) (occBody x y hi limit)).run.fst.toList).tail, ?_, hs.1, ha, fun k hk0 hk => hn k (hs.2 k hk0 hk)⟩
    generalize (forIn (List.range' lo (hi + 1 - lo)) ((#[] : Array Nat), lo) (occBody x y hi limit)).run.fst = arr at h0
    have h1 : arr.toList[0]? = some a := by simpa using h0
    cases hL : arr.toList with
    | nil => rw [hL] at h1; cases h1
    | cons b t => rw [hL] at h1; simp at h1; rw [h1]; rfl
structure TokAt (x : Str) (p : Nat) (tk : List Nat) : Prop where
  fits : p + tk.length ≤ x.length
  small : x.length ≤ 1000
  chars : ∀ o, o < tk.length → x.cps[p + o]? = tk[o]?
variable {x : Str} {p : Nat} {tk : List Nat}
theorem seqI {n len : Nat} (h : n < len) : seqIndex? (n : Int) len = some n := by
  have h0 : ¬ (n : Int) < 0 := Int.not_lt.mpr (Int.natCast_nonneg n)
  show (if 0 ≤ (if (n : Int) < 0 then (n : Int) + len else n) && (if (n : Int) < 0 then (n : Int) + len else n) < len then some (if (n : Int) < 0 then (n : Int) + len else n).toNat else none) = _
  rw [if_neg h0, decide_eq_true (Int.natCast_nonneg n), decide_eq_true (Int.ofNat_lt.mpr h)]
  rfl
theorem TokAt.lt (T : TokAt x p tk) {o : Nat} (ho : o < tk.length) : p + o < x.length := Nat.lt_of_lt_of_le (Nat.add_lt_add_left ho p) T.fits
theorem TokAt.item (T : TokAt x p tk) {z : Int} {o c : Nat} (hz : z = ((p + o : Nat) : Int)) (ho : tk[o]? = some c) : Txt.item x z = ⟨#[c]⟩ := by
  have hlt : o < tk.length := (List.getElem?_eq_some_iff.mp ho).1
  have h1 := T.chars o hlt
  unfold Txt.item Txt.charAt
  subst hz
  rw [seqI (T.lt hlt), Option.bind_some, h1, ho]
  rfl
noncomputable def qQ9 (c : Nat) (tk : List Nat) (a b : Nat) : Option Nat := (List.range b).find? fun o => decide (a ≤ o) && (tk[o]? == some c)
theorem TokAt.find (T : TokAt x p tk) {z1 z2 : Int} {a b c : Nat} (h1 : z1 = ((p + a : Nat) : Int)) (h2 : z2 = ((p + b : Nat) : Int)) (hb : b ≤ tk.length) :
    (match occurrences x ⟨#[c]⟩ (fromIndex x.length z1) (min (fromIndex x.length z2) x.length) 1 with | k :: _ => (k : Int) | [] => -1) = (match qQ9 c tk a b with | some o => ((p + o : Nat) : Int) | none => -1) := by
  have hf : p + b ≤ x.length := Nat.le_trans (Nat.add_le_add_left hb p) T.fits
  have e0 : ∀ n : Nat, fromIndex x.length (n : Int) = n := fun n => by
    unfold fromIndex
    rw [if_neg (Int.not_lt.mpr (Int.natCast_nonneg _))]
    exact Int.toNat_natCast n
  subst h1 h2
  rw [e0, e0, Nat.min_eq_left hf]
  have hat : ∀ o, o < b → (At x ⟨#[c]⟩ (p + b) (p + o) ↔ tk[o]? = some c) := fun o ho => by
    have hp : p + o + 1 ≤ p + b := Nat.add_lt_add_left ho p
    have h3 := subAt_one x c (p + o)
    rw [Array.getElem?_toList, T.chars o (Nat.lt_of_lt_of_le ho hb)] at h3
    rw [← h3]
    exact ⟨fun q => ⟨Nat.le_trans hp hf, q.2⟩, fun q => ⟨hp, q.2⟩⟩
  unfold qQ9
  rcases wT9 x ⟨#[c]⟩ (p + a) (p + b) 1 (Nat.le_refl 1) with ⟨h0, hn⟩ | ⟨k, r, h0, hlo, hk, hn⟩
  · rw [h0]
    have : (List.range b).find? (fun o => decide (a ≤ o) && (tk[o]? == some c)) = none := by
      rw [List.find?_eq_none]
      intro o ho
      have ho' : o < b := List.mem_range.mp ho
      simp only [Bool.and_eq_true, decide_eq_true_eq, beq_iff_eq, not_and]
      intro hao e
      exact hn (p + o) (Nat.add_le_add_left hao p) ((hat o ho').mpr e)
    rw [this]
  · rw [h0]
    obtain ⟨o, rfl⟩ := Nat.exists_eq_add_of_le (Nat.le_trans (Nat.le_add_right p a) hlo)
    have hob : o < b := Nat.lt_of_add_lt_add_left (Nat.lt_of_succ_le hk.1)
    have hk' := (hat o hob).mp hk
    have : (List.range b).find? (fun o => decide (a ≤ o) && (tk[o]? == some c)) = some o := by
      rw [List.find?_range_eq_some]
      refine ⟨by rw [hk', decide_eq_true (Nat.le_of_add_le_add_left hlo)]; exact beq_self_eq_true _, List.mem_range.mpr hob, fun j hj => ?_⟩
      simp only [Bool.not_eq_true', Bool.and_eq_false_imp, decide_eq_true_eq]
      intro haj
      have hnk := hn (p + j) (Nat.add_le_add_left haj p) (Nat.add_lt_add_left hj p)
      rw [hat j (Nat.lt_trans hj hob)] at hnk
      exact beq_eq_false_iff_ne.mpr hnk
    rw [this]
theorem TokAt.slice (T : TokAt x p tk) {z1 z2 : Int} {a b : Nat} (h1 : z1 = ((p + a : Nat) : Int)) (h2 : z2 = ((p + b : Nat) : Int)) (hab : a ≤ b) (hb : b ≤ tk.length) : Txt.slice x (some z1) (some z2) = ⟨((tk.drop a).take (b - a)).toArray⟩ := by
  have hf : p + b ≤ x.length := Nat.le_trans (Nat.add_le_add_left hb p) T.fits
  have hc := T.chars
  subst h1 h2
  obtain ⟨⟨l⟩⟩ := x
  have e0 : ∀ n : Nat, n ≤ l.length → (if (n : Int) < 0 then ((n : Int) + (l.length : Int)).toNat else min (n : Int).toNat l.length) = n := fun n hn => by
    rw [if_neg (Int.not_lt.mpr (Int.natCast_nonneg _)), Int.toNat_natCast, Nat.min_eq_left hn]
  refine (xZ9 l _ _).trans ?_
  have e1 : sLo l.length (some ((p + a : Nat) : Int)) = p + a := e0 _ (Nat.le_trans (Nat.add_le_add_left hab p) hf)
  have e2 : sHi l.length (some ((p + b : Nat) : Int)) = p + b := e0 _ hf
  rw [e1, e2, Nat.add_sub_add_left]
  refine congrArg (fun z : List Nat => (⟨z.toArray⟩ : Str)) (List.ext_getElem? fun i => ?_)
  by_cases hi : i < b - a
  · rw [List.getElem?_take_of_lt hi, List.getElem?_take_of_lt hi, List.getElem?_drop, List.getElem?_drop, Nat.add_assoc]
    exact List.getElem?_toArray.symm.trans (hc (a + i) (Nat.lt_of_lt_of_le (Nat.add_lt_of_lt_sub' hi) hb))
  · rw [List.getElem?_take_eq_none (Nat.le_of_not_lt hi), List.getElem?_take_eq_none (Nat.le_of_not_lt hi)]
end
section
variable {prog : Program} {w : World} {A : Around} {E : Value → Shared → Prop} {s : Shared} {h₀ : Heap} {L : Addr} {m : Str → Option Value} {news : List (Addr × Obj)} {x y : Str} {p : Nat} {tk : List Nat} {t u : Tok} {value slice : PySem.Expr} {Q : Value → Shared → Prop}
theorem hW9 (T : TokAt x p tk) (o : Nat) {z : Int} {c : Nat} (hz : z = ((p + o : Nat) : Int)) (ho : tk[o]? = some c) (h : ∀ tk', Q (.str ⟨#[c]⟩ tk') { s with toks := tk' + 1 })
    (hs : subscripted slice false (.str x t) (.int z u) = operate [.str x t, .int z u] (getItem (.str x t) (.int z u)) := by with_unfolding_all rfl)
    (ht : ∀ r, letTemporaryGo value (.str x t) r = pure () := by intro _; with_unfolding_all rfl) : wpAny (model prog w) A (subscriptTail value slice (.str x t) (.int z u)) Q E s := by
  have hlt : o < tk.length := (List.getElem?_eq_some_iff.mp ho).1
  have hz1 : z < (x.length : Int) := by rw [hz]; exact Int.ofNat_lt.mpr (T.lt hlt)
  have hz0 : 0 ≤ z := by rw [hz]; exact Int.natCast_nonneg _
  have hx : (x.length : Int) ≤ 1000 := Int.ofNat_le.mpr T.small
  refine item_str (fitsSsize_of (N := 1001) (Int.lt_of_lt_of_le (by decide) hz0) (Int.lt_of_lt_of_le hz1 (Int.le_trans hx (by decide))) (by decide)) (Int.le_trans (Int.neg_nonpos_of_nonneg (Int.natCast_nonneg _)) hz0) hz1 (fun _ => ?_) hs ht
  rw [T.item hz ho]
  exact h _
theorem qt9 {hh9 : Heap} {gg9 : Array GenState} {dd9 : Drawn} {tt9 : Nat} {oo9 : OsState} (T : TokAt x p tk) (o : Nat) {z : Int} {c : Nat} (hz : z = ((p + o : Nat) : Int)) (ho : tk[o]? = some c) (h : ∀ tk', Q (.str ⟨#[c]⟩ tk') ⟨hh9, gg9, dd9, tk' + 1, oo9⟩)
    (hs : subscripted slice false (.str x t) (.int z u) = operate [.str x t, .int z u] (getItem (.str x t) (.int z u)) := by with_unfolding_all rfl)
    (ht : ∀ r, letTemporaryGo value (.str x t) r = pure () := by intro _; with_unfolding_all rfl) : wpAny (model prog w) A (subscriptTail value slice (.str x t) (.int z u)) Q E ⟨hh9, gg9, dd9, tt9, oo9⟩ := hW9 (s := ⟨hh9, gg9, dd9, tt9, oo9⟩) T o hz ho h hs ht
theorem tF9 (T : TokAt x p tk) (a b : Nat) {z1 z2 : Int} {c : Nat} {v v2 : Tok} {r : Option Nat} (hy : y = ⟨#[c]⟩) (h1 : z1 = ((p + a : Nat) : Int)) (h2 : z2 = ((p + b : Nat) : Int)) (hb : b ≤ tk.length) (hr : qQ9 c tk a b = r)
    (h : ∀ tk', Q (.int (match r with | some o => ((p + o : Nat) : Int) | none => -1) tk') { s with toks := tk' + 1 }) : wpAny (model prog w) A (call (.builtin "str.find") [.str x t, .str y u, .int z1 v, .int z2 v2]) Q E s := by
  subst hy
  refine call_gives F.slot_str_find (typeIs_str _ _ _) F.entry_str_find (F.args_str_find_4 _ _ _ _) (uw9 x _ z1 z2 t u v v2) ?_
  rw [T.find h1 h2 hb, hr]
  exact h _
theorem tB9 (T : TokAt x p tk) (a b : Nat) {z1 z2 : Int} {v v2 : Tok} {r : List Nat} (hF : Fr h₀ L s.heap m) (hN : News h₀ L s.heap news) (h1 : z1 = ((p + a : Nat) : Int)) (h2 : z2 = ((p + b : Nat) : Int)) (hab : a ≤ b) (hb : b ≤ tk.length) (hr : (tk.drop a).take (b - a) = r)
    (h : ∀ h' t' k, Fr h₀ L h' m → News h₀ L h' news → Q (.str ⟨r.toArray⟩ t') { s with heap := h', toks := k })
    (hs : subscripted slice false (.str x t) (.ref s.heap.objs.size) = operate [.ref s.heap.objs.size, .str x t] (getItem (.str x t) (.ref s.heap.objs.size)) := by with_unfolding_all rfl)
    (ht : ∀ r, letTemporaryGo value (.str x t) r = pure () := by intro _; with_unfolding_all rfl) :
    wpAny (model prog w) A (subscriptTail value slice (.str x t) (.ref s.heap.objs.size)) Q E { s with heap := s.heap.push { cls := .type "slice", data := .fields #[.int z1 v, .int z2 v2, .none] } } := by
  refine slice_strN_ss hF hN (fun h' t' k F' N' => ?_) hs ht (by have := T.small; rw [sizeLine_eq]; lia)
  rw [T.slice h1 h2 hab hb, hr]
  exact h h' t' k F' N'
theorem bG9 {hh9 : Heap} {gg9 : Array GenState} {dd9 : Drawn} {tt9 : Nat} {oo9 : OsState} (T : TokAt x p tk) (a b : Nat) {z1 z2 : Int} {v v2 : Tok} {r : List Nat} (hF : Fr h₀ L hh9 m) (hN : News h₀ L hh9 news) (h1 : z1 = ((p + a : Nat) : Int)) (h2 : z2 = ((p + b : Nat) : Int)) (hab : a ≤ b) (hb : b ≤ tk.length) (hr : (tk.drop a).take (b - a) = r)
    (h : ∀ h' t' k, Fr h₀ L h' m → News h₀ L h' news → Q (.str ⟨r.toArray⟩ t') ⟨h', gg9, dd9, k, oo9⟩)
    (hs : subscripted slice false (.str x t) (.ref hh9.objs.size) = operate [.ref hh9.objs.size, .str x t] (getItem (.str x t) (.ref hh9.objs.size)) := by with_unfolding_all rfl)
    (ht : ∀ r, letTemporaryGo value (.str x t) r = pure () := by intro _; with_unfolding_all rfl) :
    wpAny (model prog w) A (subscriptTail value slice (.str x t) (.ref hh9.objs.size)) Q E ⟨hh9.push { cls := .type "slice", data := .fields #[.int z1 v, .int z2 v2, .none] }, gg9, dd9, tt9, oo9⟩ := tB9 (s := ⟨hh9, gg9, dd9, tt9, oo9⟩) T a b hF hN h1 h2 hab hb hr h hs ht
end
inductive Tk
  | star | any
  | lit (c : Bool)
  | br (neg c : Bool)
  | rng (neg : Bool)
  deriving DecidableEq
noncomputable def ab (c : Bool) : Nat := if c then 98 else 97
noncomputable def Tk.text : Tk → List Nat
  | .star => [42]
  | .any => [63]
  | .lit c => [ab c]
  | .br false c => [91, ab c, 93]
  | .br true c => [91, 33, ab c, 93]
  | .rng false => [91, 97, 45, 98, 93]
  | .rng true => [91, 33, 98, 45, 97, 93]
noncomputable def Tk.part : Tk → List Nat
  | .star => []
  | .any => [46]
  | .lit c => [ab c]
  | .br false c => [91, ab c, 93]
  | .br true c => [91, 94, ab c, 93]
  | .rng false => [91, 97, 45, 98, 93]
  | .rng true => [46]
noncomputable def flat (l : List Tk) : List Nat := l.flatMap Tk.text
noncomputable def patOf (l : List Tk) : Str := ⟨(flat l).toArray⟩
theorem nq9 {done rest : List Tk} {tk : Tk} (h : (flat (done ++ tk :: rest)).length ≤ 1000) : TokAt (patOf (done ++ tk :: rest)) (flat done).length tk.text := by
  have e : flat (done ++ tk :: rest) = flat done ++ (tk.text ++ flat rest) := by simp [flat]
  refine ⟨?_, h, fun o ho => ?_⟩
  · show _ ≤ (flat (done ++ tk :: rest)).toArray.size
    rw [e]; simp
  · show (flat (done ++ tk :: rest)).toArray[(flat done).length + o]? = _
    rw [e, List.getElem?_toArray, List.getElem?_append_right (by lia), Nat.add_sub_cancel_left, List.getElem?_append_left ho]
noncomputable def PartsAre (S : Addr) : List Value → List Tk → Prop
  | [], [] => True
  | v :: vs, tk :: tks => (if tk = .star then v = .ref S else ∃ t, v = .str ⟨tk.part.toArray⟩ t) ∧ PartsAre S vs tks
  | _, _ => False
theorem PartsAre.len {S : Addr} {vs : List Value} {l : List Tk} (h : PartsAre S vs l) : vs.length = l.length := by
  induction vs generalizing l with
  | nil => cases l with
    | nil => rfl
    | cons _ _ => exact h.elim
  | cons v vs ih => cases l with
    | nil => exact h.elim
    | cons x l => exact congrArg Nat.succ (ih h.2)
theorem PartsAre.append {S : Addr} {v : Value} {tk : Tk} (hv : if tk = .star then v = .ref S else ∃ t, v = .str ⟨tk.part.toArray⟩ t) {vs : List Value} {l : List Tk} (h : PartsAre S vs l) : PartsAre S (vs ++ [v]) (l ++ [tk]) := by
  induction vs generalizing l with
  | nil => cases l with
    | nil => exact ⟨hv, trivial⟩
    | cons _ _ => exact h.elim
  | cons _ vs ih => cases l with
    | nil => exact h.elim
    | cons x l => exact ⟨h.1, ih h.2⟩
theorem PartsAre.snoc {S : Addr} {tk : Tk} {vs : List Value} {l : List Tk} (h : PartsAre S vs (l ++ [tk])) : ∃ ws v, vs = ws ++ [v] ∧ PartsAre S ws l ∧ (if tk = .star then v = .ref S else ∃ t, v = .str ⟨tk.part.toArray⟩ t) := by
  induction l generalizing vs with
  | nil => cases vs with
    | nil => exact h.elim
    | cons v vs => cases vs with
      | nil => exact ⟨[], v, rfl, trivial, h.1⟩
      | cons _ _ => exact h.2.elim
  | cons x l ih => cases vs with
    | nil => exact h.elim
    | cons v vs => exact (ih h.2).elim fun ws q => q.elim fun u q => ⟨v :: ws, u, congrArg (List.cons v) q.1, ⟨h.1, q.2.1⟩, q.2.2⟩
end
section
set_option maxRecDepth 100000
noncomputable def StandsApp (u D : Addr) (h : Heap) : Prop := h.get? u = some (zw9 D)
section
variable {M : Model} {A : Around} {E : Value → Shared → Prop} {s : Shared} {h₀ : Heap} {L : Addr} {news : List (Addr × Obj)}
theorem yZ9 {pos : Pos} {u D : Addr} {first : List Value} {args : List (Bool × Sem Value)} {Q : Value → Shared → Prop} (hplain : args.any (·.1) = false)
    (h : wpAny M A (evalArgs (.ref u) true args []) (fun x s₁ => StandsApp u D s₁.heap ∧ wpAny M A (call (.ref u) (first ++ x.pos) x.kw) Q E s₁) E s) : wpAny M A (callWith pos (.ref u) first args []) Q E s := by
  unfold callWith
  refine wpAny_bind (wpAny_holding (wpAny_mono h (fun x s₁ h₁ => wpAny_bind (wpAny_standAt ?_)) fun _ _ x => x))
  obtain ⟨ho, hcall⟩ := h₁
  rw [hplain]
  refine wpAny_bind (m := keeperOf (.ref u)) ?_
  unfold keeperOf
  refine wpAny_bind (wpAny_load ho ?_)
  refine (?_ : wpAny M A (if (Value.type "builtin_function_or_method" != Value.type "method") = true then pure (if (Value.type "builtin_function_or_method" == Value.type "builtin_function_or_method" || Value.type "builtin_function_or_method" == Value.type "method-wrapper") = true then Keeper.machine else Keeper.caller) else _) _ E s₁)
  rw [if_pos (by decide), if_pos (by decide)]
  refine wpAny_pure ?_
  exact wpAny_bind (wpAny_mono hcall (fun r s₂ hr => wpAny_bind (wpAny_holding (wpAny_point (wpAny_pure hr)))) fun _ _ x => x)
theorem qq9 {pos : Pos} {u D : Addr} {first : List Value} {env : Env} {e : PySem.Expr} {rest : List PySem.Expr} {Q : Value → Shared → Prop} (_N : News h₀ L s.heap news) (_hm : (u, zw9 D) ∈ news)
    (h : wpAny M A (spliced (backTo pos (starEach (e :: rest) env))) (fun vs s₁ => StandsApp u D s₁.heap ∧ wpAny M A (call (.ref u) (first ++ vs)) Q E s₁) E s)
    (he : starEach (e :: rest) env = (false, eval e env) :: starEach rest env := by rfl) (hplain : (backTo pos (starEach rest env)).any (·.1) = false := by rfl) :
    wpAny M A (callWith pos (.ref u) first (backTo pos (starEach (e :: rest) env)) []) Q E s := by
  rw [he] at h ⊢
  refine yZ9 (D := D) (by show (false || (backTo pos (starEach rest env)).any (·.1)) = false; rw [hplain]; rfl) ?_
  exact evalArgs_plain h
end
section
variable {prog : Program} {w : World} {A : Around} {E : Value → Shared → Prop} {s : Shared} {h₀ : Heap} {L : Addr} {news : List (Addr × Obj)} {value slice : PySem.Expr}
theorem hk9 {D : Addr} {ws : List Value} {v : Value} {n : Nat} {z : Int} {u : Tok} {Q : Value → Shared → Prop} (N : News h₀ L s.heap news) (hm : (D, W.listOf (ws ++ [v]).toArray n) ∈ news) (hz : z = -1) (h : Q v s)
    (hs : subscripted slice false (.ref D) (.int z u) = operate [.ref D, .int z u] (getItem (.ref D) (.int z u)) := by with_unfolding_all rfl) (hg : ∀ r, letTemporaryGo value (.ref D) r = pure () := by intro _; with_unfolding_all rfl) :
    wpAny (model prog w) A (subscriptTail value slice (.ref D) (.int z u)) Q E s := by
  subst hz
  have hl : s.heap.IsList D (ws ++ [v]).toArray := ⟨_, (N _ hm).1, rfl, _, rfl⟩
  refine subscriptTail_builtin hl.typeIs slot_list_getitem.lookup (wpAny_getItem_list_neg hl (by lia) (by rw [List.size_toArray, List.length_append]; simp; lia) (by lia) (x := v) ?_ h) hs hg
  have e : (-1 + ((ws ++ [v]).toArray.size : Int)).toNat = ws.length := by rw [List.size_toArray, List.length_append]; simp; lia
  rw [e]
  simp
theorem jq9 {hh9 : Heap} {gg9 : Array GenState} {dd9 : Drawn} {tt9 : Nat} {oo9 : OsState} {D : Addr} {ws : List Value} {v : Value} {n : Nat} {z : Int} {u : Tok} {Q : Value → Shared → Prop} (N : News h₀ L hh9 news) (hm : (D, W.listOf (ws ++ [v]).toArray n) ∈ news) (hz : z = -1) (h : Q v ⟨hh9, gg9, dd9, tt9, oo9⟩)
    (hs : subscripted slice false (.ref D) (.int z u) = operate [.ref D, .int z u] (getItem (.ref D) (.int z u)) := by with_unfolding_all rfl) (hg : ∀ r, letTemporaryGo value (.ref D) r = pure () := by intro _; with_unfolding_all rfl) :
    wpAny (model prog w) A (subscriptTail value slice (.ref D) (.int z u)) Q E ⟨hh9, gg9, dd9, tt9, oo9⟩ := hk9 (s := ⟨hh9, gg9, dd9, tt9, oo9⟩) N hm hz h hs hg
end
theorem wY9 : ∀ l : List Tk, l.length ≤ (flat l).length
  | [] => Nat.zero_le _
  | tk :: l => by
    have := wY9 l
    have h2 : 1 ≤ tk.text.length := by cases tk with | br n c => cases n <;> simp [Tk.text] | rng n => cases n <;> simp [Tk.text] | _ => simp [Tk.text]
    have h3 : (flat (tk :: l)).length = tk.text.length + (flat l).length := by simp [flat]
    rw [List.length_cons, h3]; lia
section
variable {prog : Program} {w : World} {A : Around} {E : Value → Shared → Prop} {s : Shared} {x y : Str} {p : Nat} {tk : List Nat} {t u v v2 : Tok} {Q : Value → Shared → Prop}
theorem tD9 (T : TokAt x p tk) (a b o : Nat) {z1 z2 : Int} (hy : y = ⟨#[45]⟩) (h1 : z1 = ((p + a : Nat) : Int)) (h2 : z2 = ((p + b : Nat) : Int)) (hb : b ≤ tk.length) (hr : qQ9 45 tk a b = some o)
    (h : ∀ tk', Q (.int ((p + o : Nat) : Int) tk') { s with toks := tk' + 1 }) : wpAny (model prog w) A (call (.builtin "str.find") [.str x t, .str y u, .int z1 v, .int z2 v2]) Q E s :=
  tF9 T a b hy h1 h2 hb hr h
theorem wR9 {hh9 : Heap} {gg9 : Array GenState} {dd9 : Drawn} {tt9 : Nat} {oo9 : OsState} (T : TokAt x p tk) (a b o : Nat) {z1 z2 : Int} (hy : y = ⟨#[45]⟩) (h1 : z1 = ((p + a : Nat) : Int)) (h2 : z2 = ((p + b : Nat) : Int)) (hb : b ≤ tk.length) (hr : qQ9 45 tk a b = some o)
    (h : ∀ tk', Q (.int ((p + o : Nat) : Int) tk') ⟨hh9, gg9, dd9, tk' + 1, oo9⟩) : wpAny (model prog w) A (call (.builtin "str.find") [.str x t, .str y u, .int z1 v, .int z2 v2]) Q E ⟨hh9, gg9, dd9, tt9, oo9⟩ := tD9 (s := ⟨hh9, gg9, dd9, tt9, oo9⟩) T a b o hy h1 h2 hb hr h
theorem tE9 (T : TokAt x p tk) (a b : Nat) {z1 z2 : Int} (hy : y = ⟨#[45]⟩) (h1 : z1 = ((p + a : Nat) : Int)) (h2 : z2 = ((p + b : Nat) : Int)) (hb : b ≤ tk.length) (hr : qQ9 45 tk a b = none)
    (h : ∀ tk', Q (.int (-1) tk') { s with toks := tk' + 1 }) : wpAny (model prog w) A (call (.builtin "str.find") [.str x t, .str y u, .int z1 v, .int z2 v2]) Q E s :=
  tF9 T a b hy h1 h2 hb hr h
theorem wS9 {hh9 : Heap} {gg9 : Array GenState} {dd9 : Drawn} {tt9 : Nat} {oo9 : OsState} (T : TokAt x p tk) (a b : Nat) {z1 z2 : Int} (hy : y = ⟨#[45]⟩) (h1 : z1 = ((p + a : Nat) : Int)) (h2 : z2 = ((p + b : Nat) : Int)) (hb : b ≤ tk.length) (hr : qQ9 45 tk a b = none)
    (h : ∀ tk', Q (.int (-1) tk') ⟨hh9, gg9, dd9, tk' + 1, oo9⟩) : wpAny (model prog w) A (call (.builtin "str.find") [.str x t, .str y u, .int z1 v, .int z2 v2]) Q E ⟨hh9, gg9, dd9, tt9, oo9⟩ := tE9 (s := ⟨hh9, gg9, dd9, tt9, oo9⟩) T a b hy h1 h2 hb hr h
end
section
open Builtin Builtin.Str
variable {prog : Program} {w : World} {A : Around} {E : Value → Shared → Prop} {s : Shared} {x y z : Str} {t u v : Tok} {Q : Value → Shared → Prop}
theorem cw9 (hc : (occurrences x y 0 x.length (x.length + 1)).isEmpty = true) (hq : ∀ t' k, Q (.str x t') { s with toks := k }) : wpAny (model prog w) A (call (.builtin "str.replace") [.str x t, .str y u, .str z v]) Q E s := by
  refine call_gives F.slot_str_replace (typeIs_str _ _ _) F.entry_str_replace (F.args_str_replace_3 _ _ _)
    (gives_str_replace x y z t u v fun h => ?_) ?_
  · rw [hc] at h; simp at h
  · rw [hc]
    exact hq t s.toks
theorem yL9 {hh9 : Heap} {gg9 : Array GenState} {dd9 : Drawn} {tt9 : Nat} {oo9 : OsState} (hc : (occurrences x y 0 x.length (x.length + 1)).isEmpty = true) (hq : ∀ t' k, Q (.str x t') ⟨hh9, gg9, dd9, k, oo9⟩) : wpAny (model prog w) A (call (.builtin "str.replace") [.str x t, .str y u, .str z v]) Q E ⟨hh9, gg9, dd9, tt9, oo9⟩ := cw9 (s := ⟨hh9, gg9, dd9, tt9, oo9⟩) hc hq
theorem wU9 {b : Bool} (hc : (occurrences x y 0 x.length 1).isEmpty = b) (h : Q (.bool b) s) : wpAny (model prog w) A (compareOp .NotIn (.str y u) (.str x t)) Q E s :=
  notIn_str (by rw [hc]; cases b <;> exact h)
end
section
variable {prog : Program} {w : World} {A : Around} {E : Value → Shared → Prop} {s : Shared} {h₀ : Heap} {L : Addr} {m : Str → Option Value}
theorem hw9 {K : Frag} {P : Addr} {o : Obj} {pl : Sem Bool} {Q : Value × List Value → Shared → Prop} (X : K.In h₀) (F : Fr h₀ L s.heap m) (ho : K.lookup P = some o) (hc : o.cls = .type "re.Pattern") (hd : o.dict = none)
    (h : Q (.builtin "re.Pattern.sub", [.ref P]) s) : wpAny (model prog w) A (getMethod (.ref P) (Str.ofString "sub") pl) Q E s := by
  have hP := F.keep _ _ (X _ _ ho)
  exact getMethod_builtin (T := "re.Pattern") ⟨o, hP, hc⟩ vj9 slot_pat_sub ys9 (fun a e => by cases e; exact ⟨o, hP, hd⟩) h
end
theorem xO9 : wQ9 = { cls := .type "tuple", data := .seq #[.int 14 0, .int 14 0, .int 4 0, .int 1 0, .int 1 0, .int 9 0, .int 0 0, .int 64 0, .int 0 0, .int 1342177280 0, .int 0 0, .int 0 0, .int 0 0, .int 0 0, .int 0 0, .int 17 0, .int 0 0, .int 13 0, .int 11 0, .int 9 0, .int 0 0, .int 64 0, .int 0 0, .int 1342177280 0, .int 0 0, .int 0 0, .int 0 0, .int 0 0, .int 0 0, .int 17 0, .int 1 0, .int 1 0] } := by kernel_rfl
end
section
theorem ln12 : True := by
  (k_with "getMethod str" => (k_here; (with_reducible show wpAny _ _ (getMethod (Value.str _ _) (PySem.Str.ofString "translate") _) _ _ _); refine GM.of _ (typeIs_str _ _ _) PySem.F.slot_str_translate PySem.F.type_str_translate GM.noRef ?_))
  (k_with "call builtin:str.translate" => (k_here; refine zK9 ?_))
  trivial
theorem vZ9 (V : Wd) (c : Nat) (hc : c = 97 ∨ c = 98) (t1 : Tok) :
   Spc V (.ref 97) [.str ⟨#[c]⟩ t1] 2 12 [] (fun _ => True) (fun _ v _ => ∃ t, v = .str ⟨#[c]⟩ t) := by
  refine' qp9 (binds := [(Str.ofString "pattern", .str ⟨#[c]⟩ t1)]) ?k6 ?k7 ?k9 ?kB ?c5 ?c2 ?c3 ?c4 ?_
  walk_at "m_enter"
  intro dp un gd outer A₁ base g L' h₁ s Q hd hu _ F N B X T ret
  (try dsimp only)
  k_extra "v"
  k_extra "u"
  k_steps
  unfold zC9
  rename Fr _ _ _ _ => F5
  have hdict := F5.keep _ _ (X 87 _ (by k_is))
  refine vh9 (by decide) rfl (cM9 hdict (by decide +kernel)) ?_ (by lia) ?_
  · rcases hc with rfl | rfl <;> decide +kernel
  · intro h' t' tk hk
    exact ret _ _ _ _ (F5.keeps hk) ⟨_, rfl⟩
end
section
open PySem PySem.W PySem.Spec PySem.Calls PyProof.Rows PyProof.Rows.LCg
section
variable {M : Model} {A : Around} {E : Value → Shared → Prop} {s : Shared}
theorem gS9 {scope : Scope} {globals : Addr} {cl : List (Str × Addr)} {qual : Str} {env : Env} {Q : Env → Shared → Prop}
    (h : Q (newEnv scope s.heap.objs.size globals (cellsFrom (s.heap.objs.size + 1) scope.names cl) qual none .none (some env) builtinsNs) { s with heap := pushCells (s.heap.push { cls := .type "dict", data := .dict #[] }) scope.names }) :
    wpAny M A (newFunctionEnv scope globals cl [] qual none .none (some env)) Q E s := by
  simp only [newFunctionEnv, Option.isSome_some, if_true]
  refine wpAny_bind (wpAny_alloc ?_)
  refine wpAny_bind (wpAny_layCells _ (fun name kind cells => by cases hkc : kind == NameKind.cell <;> simp [hkc]) _ _ _ _ ?_)
  rw [show ({ s with heap := s.heap.push { cls := .type "dict", data := .dict #[] } } : Shared).heap.objs.size = s.heap.objs.size + 1 from Heap.size_push ..]
  refine wpAny_bind ?_
  rw [List.forIn_nil]
  exact wpAny_pure (wpAny_pure h)
end
theorem neA {a b : Nat} (h : a < b ∨ b < a) : a ≠ b := h.elim Nat.ne_of_lt (fun h => (Nat.ne_of_lt h).symm)
noncomputable def OwnL (x : Str) (C : Addr) (v : Option Value) (ow : List (Addr × Obj)) : Prop := ∃ oC mC, ow = [(C, oC)] ∧ NsObj oC mC ∧ mC x = v
noncomputable def OwnC (C : Addr) (v : Option Value) (ow : List (Addr × Obj)) : Prop := ∃ oC oX, ow = [(C + 1, oX), (C, oC)] ∧ NsObj oC (fun _ => none) ∧ oX.data = .cell v
noncomputable def cW9 (h₀ : Heap) (L : Addr) (m : Str → Option Value) (s : Shared) (led : List (Addr × Obj)) (X : Prop) (s₄ : Shared) : Prop :=
  ∃ h' tk', s₄ = { s with heap := h', toks := tk' } ∧ Fr h₀ L h' m ∧ News h₀ L h' led ∧ X
section
variable {prog : Program} {w : World} {A : Around} {E : Value → Shared → Prop} {h₀ : Heap} {L : Addr} {m : Str → Option Value} {env : Env}
noncomputable def yk9 (prog : Program) (w : World) (A : Around) (E : Value → Shared → Prop) (h₀ : Heap) (L : Addr) (m : Str → Option Value) (env : Env) (elt target iter : Expr) (ifs : List Expr) (scope : Scope) (cl : List (Str × Addr)) (pos : Pos) (s₂ : Shared) (I : Addr) (fp : List Addr) (P : Nat → Value → Prop) (St : Nat → Heap → Prop) (news : List (Addr × Obj)) (J : Nat → List Value → Prop) (RR : Value → Addr → Result → Shared → Prop) (Own : Addr → Option Value → List (Addr × Obj) → Prop) : Prop := ∀ {n : Nat} (WK : Walks prog w A I fp [I] n P St) (hsz : n ≤ sizeLine) (hIo : ∀ i h, St i h → ∃ o, h.get? I = some o) (hSt : ∀ i h h' o, St i h → h.get? I = some o → h'.get? I = some o → (∀ b o, h₀.get? b = some o → h'.get? b = some o) → News h₀ L h' news → St i h') (hkind : scope.kind = .function) (hown0 : ∀ H : Heap, ∃ ow, Own H.objs.size none ow ∧ ∀ p ∈ ow, (pushCells (H.push { cls := .type "dict", data := .dict #[] }) scope.names).get? p.1 = some p.2 ∧ H.objs.size ≤ p.1) (hOA : ∀ C v v' ow ow', Own C v ow → Own C v' ow' → ow.map (·.1) = ow'.map (·.1)) (hNs : ∀ C v ow (h : Heap), Own C v ow → (∀ p ∈ ow, h.get? p.1 = some p.2) → ∃ m, h.Ns C m) (hge : ∀ C v ow, Own C v ow → ∀ p ∈ ow, C ≤ p.1) (hCm : ∀ C v ow, Own C v ow → C ∈ ow.map (·.1)) (hasg : ∀ C i v v0 ow (s : Shared) (Q : Unit → Shared → Prop) (E : Value → Shared → Prop), P i v → Own C v0 ow → (∀ p ∈ ow, s.heap.get? p.1 = some p.2) →
      (∀ ow' h' tk', Own C (some v) ow' → (∀ p ∈ ow', h'.get? p.1 = some p.2) → (∀ b o, b ∉ ow.map (·.1) → s.heap.get? b = some o → h'.get? b = some o) → Q () { s with heap := h', toks := tk' }) →
      wpAny (model prog w) A (assign target (compEnvC scope (cellsFrom (C + 1) scope.names cl) C env) v) Q E s) (ht : ∀ v, letOwnedTupleGo target (.ref I) v = pure ()) (hst : St 0 s₂.heap) (hfp : ∀ b ∈ fp, b < s₂.heap.objs.size) (F : Fr h₀ L s₂.heap m) (N : News h₀ L s₂.heap news) (hI₀ : h₀.get? I = none) (hIL : L ≠ I) (hnI : ∀ p ∈ news, p.1 < I) (hJ : J 0 []) (turn : ∀ i v ys C D ow oI h tk (E' : Value → Shared → Prop), i < n → P i v → J i ys → Own C (some v) ow → Fr h₀ L h m → News h₀ L h ((I, oI) :: (ow ++ (D, W.listOf ys.toArray ys.length) :: news)) → @LT.lt Nat _ I D → @LT.lt Nat _ D C →
      wpAny (model prog w) A (forIn ifs true fun c r => if r = true then do let ok ← isTrue c (compEnvC scope (cellsFrom (C + 1) scope.names cl) C env) (eval c (compEnvC scope (cellsFrom (C + 1) scope.names cl) C env)); pure (ForInStep.yield ok) else pure (ForInStep.yield r))
        (fun ok s₃ => if ok = true then wpAny (model prog w) A (eval elt (compEnvC scope (cellsFrom (C + 1) scope.names cl) C env)) (fun y s₄ => cW9 h₀ L m s₂ ((I, oI) :: (ow ++ (D, W.listOf ys.toArray ys.length) :: news)) (J (i + 1) (ys ++ [y])) s₄) E' s₃
          else cW9 h₀ L m s₂ ((I, oI) :: (ow ++ (D, W.listOf ys.toArray ys.length) :: news)) (J (i + 1) ys) s₃) E' { s₂ with heap := h, toks := tk }) (hlen : ∀ i ys, J i ys → ys.length ≤ i) (hRR : ∀ D C h tk m' ys, J n ys → Fr h₀ L h m → News h₀ L h ((D, W.listOf ys.toArray ys.length) :: news) → @LT.lt Nat _ I D → h.Ns C m' → h₀.get? C = none → h₀.get? D = none → C ≠ L → D ≠ L → C ≠ D → (∀ p ∈ news, p.1 ≠ C) → RR (.ref D) C (.ok .next) { s₂ with heap := h, toks := tk }), wpAny (model prog w) A (newList []) (fun acc s₃ => wpAny (model prog w) A (newFunctionEnv scope env.globals cl [] env.qual none .none (some env)) (fun cenv s₄ =>
      codeAny (model prog w) A (.compStart (.ListComp elt [⟨target, iter, ifs, 0⟩] scope pos) 0 (.ref I) acc { cenv with scope := relabel scope env }) (RR acc cenv.locals) s₄) E s₃) E s₂
@[irreducible] noncomputable def zD9 := W24 yk9
theorem nE9 : A24 yk9 zD9 := by
  intro n WK hsz hIo hSt hkind hown0 hOA hNs hge hCm hasg ht hst hfp F N hI₀ hIL hnI hJ turn hlen hRR
  refine wpAny_newObj_type (gS9 ?_)
  dsimp only
  generalize hH2 : zD9.2.2.2.2.2.2.2.2.2.2.2.2.2.2.2.1.heap.push { cls := .type "list", dict := none, data := .seq ([] : List Value).toArray } = H2
  have hC : H2.objs.size = zD9.2.2.2.2.2.2.2.2.2.2.2.2.2.2.2.1.heap.objs.size + 1 := by rw [← hH2, Heap.size_push]
  obtain ⟨ow0, hO0, hg0⟩ := hown0 H2
  generalize hh1 : pushCells (H2.push { cls := .type "dict", data := .dict #[] }) zD9.2.2.2.2.2.2.2.2.2.2.2.2.1.names = h₁ at hg0 ⊢
  have up1 : ∀ b o, H2.get? b = some o → h₁.get? b = some o := fun b o e => by rw [← hh1]; exact pushCells_keeps _ _ _ _ (Heap.get?_push_of_some _ e)
  have old : ∀ b o, zD9.2.2.2.2.2.2.2.2.2.2.2.2.2.2.2.1.heap.get? b = some o → h₁.get? b = some o := fun b o e => up1 b o (hH2 ▸ Heap.get?_push_of_some _ e)
  have hacc : h₁.get? zD9.2.2.2.2.2.2.2.2.2.2.2.2.2.2.2.1.heap.objs.size = some (W.listOf #[] 0) := up1 _ _ (hH2 ▸ Heap.get?_push_size _ rfl)
  have hIf : zD9.2.2.2.2.2.2.2.2.2.2.2.2.2.2.2.2.1 ∈ zD9.2.2.2.2.2.2.2.2.2.2.2.2.2.2.2.2.2.1 := WK.sub zD9.2.2.2.2.2.2.2.2.2.2.2.2.2.2.2.2.1 (List.mem_singleton.mpr rfl)
  have hIlt : zD9.2.2.2.2.2.2.2.2.2.2.2.2.2.2.2.2.1 < zD9.2.2.2.2.2.2.2.2.2.2.2.2.2.2.2.1.heap.objs.size := hfp zD9.2.2.2.2.2.2.2.2.2.2.2.2.2.2.2.2.1 hIf
  have hLlt : zD9.2.2.2.2.2.1 < zD9.2.2.2.2.2.2.2.2.2.2.2.2.2.2.2.1.heap.objs.size := F.ns.lt
  have fresh₀ : ∀ a, zD9.2.2.2.2.2.2.2.2.2.2.2.2.2.2.2.1.heap.objs.size ≤ a → zD9.2.2.2.2.1.get? a = none := fun a ha => by
    cases e : zD9.2.2.2.2.1.get? a with
    | none => rfl
    | some o' => exact absurd (Heap.lt_size (F.keep a o' e)) (Nat.not_lt.mpr ha)
  generalize hDD : zD9.2.2.2.2.2.2.2.2.2.2.2.2.2.2.2.1.heap.objs.size = D at hacc hC hIlt hLlt fresh₀ hfp ⊢
  generalize hCC : H2.objs.size = C at hC hO0 hg0 ⊢
  have owOff : ∀ v ow, zD9.2.2.2.2.2.2.2.2.2.2.2.2.2.2.2.2.2.2.2.2.2.2.2 C v ow → ∀ p ∈ ow, @LT.lt Nat _ D p.1 := fun v ow hO p hp => by have h1 : @LE.le Nat _ C p.1 := hge C v ow hO p hp; lia
  have nwI : ∀ p ∈ zD9.2.2.2.2.2.2.2.2.2.2.2.2.2.2.2.2.2.2.2.2.1, @LT.lt Nat _ p.1 zD9.2.2.2.2.2.2.2.2.2.2.2.2.2.2.2.2.1 := hnI
  have hIlt : @LT.lt Nat _ zD9.2.2.2.2.2.2.2.2.2.2.2.2.2.2.2.2.1 D := hIlt
  have hLlt : @LT.lt Nat _ zD9.2.2.2.2.2.1 D := hLlt
  have fresh₀ : ∀ a, @LE.le Nat _ D a → zD9.2.2.2.2.1.get? a = none := fresh₀
  have hfp : ∀ b ∈ zD9.2.2.2.2.2.2.2.2.2.2.2.2.2.2.2.2.2.1, @LT.lt Nat _ b D := hfp
  have nwOff : ∀ p ∈ zD9.2.2.2.2.2.2.2.2.2.2.2.2.2.2.2.2.2.2.2.2.1, @LT.lt Nat _ p.1 D := fun p hp => Nat.lt_trans (hnI p hp) hIlt
  have inOw : ∀ v ow, zD9.2.2.2.2.2.2.2.2.2.2.2.2.2.2.2.2.2.2.2.2.2.2.2 C v ow → ∀ b, b ∈ ow.map (·.1) → @LT.lt Nat _ D b := fun v ow hO b hb => by
    obtain ⟨p, hp, rfl⟩ := List.mem_map.mp hb
    exact owOff v ow hO p hp
  have hst₁ : zD9.2.2.2.2.2.2.2.2.2.2.2.2.2.2.2.2.2.2.2.1 0 h₁ := WK.frame _ _ _ hst fun b _ o e => old b o e
  have loop : ∀ s₃ : Shared, s₃ = { zD9.2.2.2.2.2.2.2.2.2.2.2.2.2.2.2.1 with heap := h₁ } →
      codeAny (model zD9.1 zD9.2.1) zD9.2.2.1 (.compLoop (.ListComp zD9.2.2.2.2.2.2.2.2.1 [⟨zD9.2.2.2.2.2.2.2.2.2.1, zD9.2.2.2.2.2.2.2.2.2.2.1, zD9.2.2.2.2.2.2.2.2.2.2.2.1, 0⟩] zD9.2.2.2.2.2.2.2.2.2.2.2.2.1 zD9.2.2.2.2.2.2.2.2.2.2.2.2.2.2.1) 0 (.ref zD9.2.2.2.2.2.2.2.2.2.2.2.2.2.2.2.2.1) (.ref D) (compEnvC zD9.2.2.2.2.2.2.2.2.2.2.2.2.1 (cellsFrom (C + 1) zD9.2.2.2.2.2.2.2.2.2.2.2.2.1.names zD9.2.2.2.2.2.2.2.2.2.2.2.2.2.1) C zD9.2.2.2.2.2.2.2.1))
        (zD9.2.2.2.2.2.2.2.2.2.2.2.2.2.2.2.2.2.2.2.2.2.2.1 (.ref D) C) s₃ := by
    rintro s₃ rfl
    refine codeAny_compLoop_tests
      (fun k s' => ∃ h' tk i ys ow v, s' = { zD9.2.2.2.2.2.2.2.2.2.2.2.2.2.2.2.1 with heap := h', toks := tk } ∧ i ≤ n ∧ k = n + 1 - i ∧ zD9.2.2.2.2.2.2.2.2.2.2.2.2.2.2.2.2.2.2.2.2.2.1 i ys ∧ zD9.2.2.2.2.2.2.2.2.2.2.2.2.2.2.2.2.2.2.2.2.2.2.2 C v ow ∧ zD9.2.2.2.2.2.2.2.2.2.2.2.2.2.2.2.2.2.2.2.1 i h' ∧ Fr zD9.2.2.2.2.1 zD9.2.2.2.2.2.1 h' zD9.2.2.2.2.2.2.1 ∧ News zD9.2.2.2.2.1 zD9.2.2.2.2.2.1 h' (ow ++ (D, W.listOf ys.toArray ys.length) :: zD9.2.2.2.2.2.2.2.2.2.2.2.2.2.2.2.2.2.2.2.2.1)) ?_ (n + 1)
      ⟨h₁, _, 0, [], ow0, _, rfl, Nat.zero_le _, rfl, hJ, hO0, hst₁, F.keeps old, fun p hp => ?_⟩ ht
    · rintro k s' hJ9
      k_extra "y"
      refine ex6 hJ9 fun h' tk i ys ow v0 hJ9 => ?_
      refine an7 hJ9 fun e9_0 hi e9_1 hJ' hO hst' F' N' => ?_
      iterate 2 clear hJ9
      subst e9_0
      subst e9_1
      k_extra "z"
      by_cases hlt : i < n
      · refine WK.item i _ _ _ hlt hst' fun v h₂ tk₂ hPv hst₂ hk₂ => ?_
        have NI : News zD9.2.2.2.2.1 zD9.2.2.2.2.2.1 h₂ (ow ++ (D, W.listOf ys.toArray ys.length) :: zD9.2.2.2.2.2.2.2.2.2.2.2.2.2.2.2.2.2.2.2.2.1) := news_but N' hk₂ fun p hp => by
          rcases List.mem_append.mp hp with hp | hp
          · have := owOff _ _ hO p hp; exact neA (by lia)
          · rcases List.mem_cons.mp hp with rfl | hp
            · exact neA (a := D) (by lia)
            · exact Nat.ne_of_lt (hnI p hp)
        have FI := fr_but F' hk₂ hIL hI₀
        refine hasg C i v v0 ow _ _ _ hPv hO (fun p hp => (NI p (List.mem_append_left _ hp)).1) fun ow' h₃ tk₃ hO' hg' hk₃ => ?_
        have hm := hOA _ _ _ _ _ hO hO'
        have F₃ : Fr zD9.2.2.2.2.1 zD9.2.2.2.2.2.1 h₃ zD9.2.2.2.2.2.2.1 := ⟨FI.ns.at' fun o e => hk₃ zD9.2.2.2.2.2.1 o (fun q => by have := inOw _ _ hO _ q; lia) e, fun b o e => hk₃ b o (fun q => by have := fresh₀ b (by have := inOw _ _ hO _ q; lia); rw [e] at this; cases this) (FI.keep b o e), FI.above⟩
        have hst₃ : zD9.2.2.2.2.2.2.2.2.2.2.2.2.2.2.2.2.2.2.2.1 (i + 1) h₃ := WK.frame _ _ _ hst₂ fun b hb o e => hk₃ b o (fun q => by have := inOw _ _ hO _ q; have := hfp b hb; lia) e
        obtain ⟨oI, heI⟩ := hIo _ _ hst₃
        have N₃ : News zD9.2.2.2.2.1 zD9.2.2.2.2.2.1 h₃ ((zD9.2.2.2.2.2.2.2.2.2.2.2.2.2.2.2.2.1, oI) :: (ow' ++ (D, W.listOf ys.toArray ys.length) :: zD9.2.2.2.2.2.2.2.2.2.2.2.2.2.2.2.2.2.2.2.2.1)) := fun p hp => by
          rcases List.mem_cons.mp hp with rfl | hp
          · exact ⟨heI, Ne.symm hIL, hI₀⟩
          · rcases List.mem_append.mp hp with hp | hp
            · have hlt2 := owOff _ _ hO' p hp
              exact ⟨hg' p hp, neA (by lia), fresh₀ _ (by lia)⟩
            · have z := NI p (List.mem_append_right _ hp)
              refine ⟨hk₃ _ _ (fun q => ?_) z.1, z.2⟩
              have q2 := inOw _ _ hO _ q
              rcases List.mem_cons.mp hp with rfl | hp
              · exact absurd q2 (Nat.lt_irrefl _)
              · have := nwOff p hp; lia
        have fin : ∀ ys' s₄, ys'.length ≤ ys.length + 1 → cW9 zD9.2.2.2.2.1 zD9.2.2.2.2.2.1 zD9.2.2.2.2.2.2.1 zD9.2.2.2.2.2.2.2.2.2.2.2.2.2.2.2.1 ((zD9.2.2.2.2.2.2.2.2.2.2.2.2.2.2.2.2.1, oI) :: (ow' ++ (D, W.listOf ys.toArray ys.length) :: zD9.2.2.2.2.2.2.2.2.2.2.2.2.2.2.2.2.2.2.2.2.1)) (zD9.2.2.2.2.2.2.2.2.2.2.2.2.2.2.2.2.2.2.2.2.2.1 (i + 1) ys') s₄ → True := fun _ _ _ _ => trivial
        clear fin
        refine wpAny_mono (turn i v ys C D ow' oI h₃ tk₃ _ hlt hPv hJ' hO' F₃ N₃ hIlt (by lia)) (fun ok s₄ h₄ => ?_) fun _ _ e => e
        cases ok with
        | false =>
          simp only [Bool.false_eq_true, if_false] at h₄ ⊢
          k_extra "y"
          refine ex2 (h₄) fun h4 tk4 hJ9 => ?_
          refine an3 hJ9 fun e9_0 F4 N4 hJ4 => ?_
          clear hJ9
          try clear h₄
          subst e9_0
          k_extra "z"
          have zI := (N4 (zD9.2.2.2.2.2.2.2.2.2.2.2.2.2.2.2.2.1, oI) List.mem_cons_self).1
          have N4' : News zD9.2.2.2.2.1 zD9.2.2.2.2.2.1 h4 (ow' ++ (D, W.listOf ys.toArray ys.length) :: zD9.2.2.2.2.2.2.2.2.2.2.2.2.2.2.2.2.2.2.2.2.1) := fun p hp => N4 p (List.mem_cons_of_mem _ hp)
          have hst4 : zD9.2.2.2.2.2.2.2.2.2.2.2.2.2.2.2.2.2.2.2.1 (i + 1) h4 := hSt _ _ _ _ hst₃ heI zI F4.keep fun p hp => N4' p (List.mem_append_right _ (List.mem_cons_of_mem _ hp))
          exact ix1 (n + 1 - (i + 1)) (⟨Nat.sub_lt_sub_left (Nat.lt_succ_of_lt hlt) (Nat.lt_succ_self i), ix6 h4 tk4 (i + 1) ys ow' _ (⟨rfl, hlt, rfl, hJ4, hO', hst4, F4, N4'⟩)⟩)
        | true =>
          simp only [if_true] at h₄ ⊢
          refine wpAny_mono h₄ (fun y s₅ h₅ => ?_) fun _ _ e => e
          k_extra "y"
          refine ex2 (h₅) fun h4 tk4 hJ9 => ?_
          refine an3 hJ9 fun e9_0 F4 N4 hJ4 => ?_
          clear hJ9
          try clear h₅
          subst e9_0
          k_extra "z"
          have zI := (N4 (zD9.2.2.2.2.2.2.2.2.2.2.2.2.2.2.2.2.1, oI) List.mem_cons_self).1
          have N4' : News zD9.2.2.2.2.1 zD9.2.2.2.2.2.1 h4 (ow' ++ (D, W.listOf ys.toArray ys.length) :: zD9.2.2.2.2.2.2.2.2.2.2.2.2.2.2.2.2.2.2.2.2.1) := fun p hp => N4 p (List.mem_cons_of_mem _ hp)
          have hst4 : zD9.2.2.2.2.2.2.2.2.2.2.2.2.2.2.2.2.2.2.2.1 (i + 1) h4 := hSt _ _ _ _ hst₃ heI zI F4.keep fun p hp => N4' p (List.mem_append_right _ (List.mem_cons_of_mem _ hp))
          have zD := N4' (D, W.listOf ys.toArray ys.length) (List.mem_append_right _ List.mem_cons_self)
          refine append_at (hsz := by show ys.toArray.size ≤ sizeLine; rw [List.size_toArray]; exact Nat.le_trans (hlen _ _ hJ') (Nat.le_trans hi hsz)) zD.1 fun h₅ hs₅ hD₅ => ?_
          refine ix1 (n + 1 - (i + 1)) (⟨Nat.sub_lt_sub_left (Nat.lt_succ_of_lt hlt) (Nat.lt_succ_self i), ix6 h₅ tk4 (i + 1) (ys ++ [y]) ow' _ (⟨rfl, hlt, rfl, hJ4, hO', WK.frame _ _ _ hst4 fun b hb o e => hs₅.extBut b o (fun q => by have q2 : @Eq Nat b D := q; have := hfp b hb; lia) e, F4.change hs₅ zD.2.1 zD.2.2, fun p hp => ?_⟩)⟩)
          rcases List.mem_append.mp hp with hp | hp
          · have z := N4' p (List.mem_append_left _ hp)
            exact ⟨hs₅.extBut _ _ (by have := owOff _ _ hO' p hp; exact neA (b := D) (by lia)) z.1, z.2⟩
          · rcases List.mem_cons.mp hp with rfl | hp
            · refine ⟨hD₅.trans (congrArg some ?_), zD.2⟩
              exact lst_snoc ys y
            · have z := N4' p (List.mem_append_right _ (List.mem_cons_of_mem _ hp))
              exact ⟨hs₅.extBut _ _ (by have := nwOff p hp; exact neA (b := D) (by lia)) z.1, z.2⟩
      · obtain rfl : i = n := Nat.le_antisymm hi (Nat.not_lt.mp hlt)
        refine WK.done _ _ _ hst' fun h₂ tk₂ hk₂ => ?_
        have NI : News zD9.2.2.2.2.1 zD9.2.2.2.2.2.1 h₂ (ow ++ (D, W.listOf ys.toArray ys.length) :: zD9.2.2.2.2.2.2.2.2.2.2.2.2.2.2.2.2.2.2.2.2.1) := news_but N' hk₂ fun p hp => by
          rcases List.mem_append.mp hp with hp | hp
          · have := owOff _ _ hO p hp; exact neA (by lia)
          · rcases List.mem_cons.mp hp with rfl | hp
            · exact neA (a := D) (by lia)
            · exact Nat.ne_of_lt (hnI p hp)
        have FI := fr_but F' hk₂ hIL hI₀
        obtain ⟨mC, hmC⟩ := hNs C v0 ow h₂ hO fun p hp => (NI p (List.mem_append_left _ hp)).1
        have hCD : @LT.lt Nat _ D C := inOw _ _ hO _ (hCm _ _ _ hO)
        exact hRR D C h₂ tk₂ mC ys hJ' FI (fun p hp => NI p (List.mem_append_right _ hp)) hIlt hmC (fresh₀ _ (by lia)) (fresh₀ _ (Nat.le_refl _)) (neA (by lia)) (neA (by lia)) (neA (by lia)) (fun p hp => by have := nwOff p hp; exact neA (by lia))
    · rcases List.mem_append.mp hp with hp | hp
      · have hge0 : @LE.le Nat _ C p.1 := (hg0 p hp).2
        exact ⟨(hg0 p hp).1, neA (by lia), fresh₀ _ (by lia)⟩
      · rcases List.mem_cons.mp hp with rfl | hp
        · exact ⟨hacc, neA (a := D) (by lia), fresh₀ _ (Nat.le_refl _)⟩
        · exact ⟨old _ _ (N p hp).1, (N p hp).2⟩
  exact codeAny_compStart_list (loop _ rfl) (WK.self 0 _ _ _ hst₁ (loop _ rfl))
theorem nF9 {prog w A E h₀ L m env elt target iter ifs scope cl pos s₂ I fp P St news J RR : _} (Own : _) : yk9 prog w A E h₀ L m env elt target iter ifs scope cl pos s₂ I fp P St news J RR Own := H24 (by unfold zD9; rfl) @nE9 prog w A E h₀ L m env elt target iter ifs scope cl pos s₂ I fp P St news J RR Own
end
end
section
open PySem PySem.W PySem.Spec PySem.Calls PyProof.Rows PyProof.Rows.LCg
section
variable {prog : Program} {w : World} {A : Around} {E : Value → Shared → Prop} {s : Shared} {h₀ : Heap} {L : Addr} {m : Str → Option Value} {env : Env}
noncomputable def LTest (prog : Program) (w : World) (A : Around) (cenv : Env) (ifs : List PySem.Expr) (Q : Bool → Shared → Prop) (E : Value → Shared → Prop) (s : Shared) : Prop :=
  ifs.foldr (fun ct _ => wpAny (model prog w) A (isTrue ct cenv (eval ct cenv)) Q E s) (Q true s)
theorem LTest.forIn {cenv : Env} {ifs : List PySem.Expr} {Q : Bool → Shared → Prop} (hl : ifs.length ≤ 1) (h : LTest prog w A cenv ifs Q E s) :
    wpAny (model prog w) A (forIn ifs true fun c r => if r = true then do let ok ← isTrue c cenv (eval c cenv); pure (ForInStep.yield ok) else pure (ForInStep.yield r)) Q E s := by
  cases ifs with
  | nil => exact wpAny_tests_nil h
  | cons ct r => cases r with
    | nil => exact wpAny_tests_one h
    | cons d r => exact absurd hl (Nat.not_succ_le_zero _ ∘ Nat.le_of_succ_le_succ)
noncomputable abbrev led (I : Addr) (oI : Obj) (ow : List (Addr × Obj)) (D : Addr) (ys : List Value) (news : List (Addr × Obj)) : List (Addr × Obj) := (I, oI) :: (ow ++ (D, PySem.W.listOf ys.toArray ys.length) :: news)
noncomputable abbrev uQ9 (scope : Scope) (cl : List (Str × Addr)) (C : Addr) (env : Env) : Env := compEnvC scope (cellsFrom (C + 1) scope.names cl) C env
noncomputable def nd9 (prog : Program) (w : World) (A : Around) (h₀ : Heap) (L : Addr) (m : Str → Option Value) (ce : Addr → Env) (elt : PySem.Expr) (ifs : List PySem.Expr) (Own : Addr → Option Value → List (Addr × Obj) → Prop)
    (I : Addr) (news : List (Addr × Obj)) (n : Nat) (P : Nat → Value → Prop) (J : Nat → List Value → Prop) (s₂ : Shared) : Prop :=
  ∀ i v ys C D ow oI h tk (E' : Value → Shared → Prop), i < n → P i v → J i ys → Own C (some v) ow → Fr h₀ L h m → News h₀ L h (led I oI ow D ys news) → @LT.lt Nat _ I D → @LT.lt Nat _ D C →
    LTest prog w A (ce C) ifs (fun ok s₃ => if ok = true then wpAny (model prog w) A (eval elt (ce C)) (fun y s₄ => cW9 h₀ L m s₂ (led I oI ow D ys news) (J (i + 1) (ys ++ [y])) s₄) E' s₃
      else cW9 h₀ L m s₂ (led I oI ow D ys news) (J (i + 1) ys) s₃) E' { s₂ with heap := h, toks := tk }
noncomputable def LGo (prog : Program) (w : World) (A : Around) (h₀ : Heap) (L : Addr) (m : Str → Option Value) (ce : Addr → Env) (elt : PySem.Expr) (ifs : List PySem.Expr) (Own : Addr → Option Value → List (Addr × Obj) → Prop)
    (Fin : Shared → List Value → List (Addr × Obj) → Prop) (it : Value) (s₂ : Shared) : Prop :=
  ∃ I fp n P St news J, it = .ref I ∧ Walks prog w A I fp [I] n P St ∧ n ≤ sizeLine ∧ (∀ i h, St i h → ∃ o, h.get? I = some o) ∧
    (∀ i h h' o, St i h → h.get? I = some o → h'.get? I = some o → (∀ b o, h₀.get? b = some o → h'.get? b = some o) → News h₀ L h' news → St i h') ∧
    St 0 s₂.heap ∧ (∀ b ∈ fp, b < s₂.heap.objs.size) ∧ Fr h₀ L s₂.heap m ∧ News h₀ L s₂.heap news ∧ h₀.get? I = none ∧ L ≠ I ∧ (∀ p ∈ news, p.1 < I) ∧ J 0 [] ∧ (∀ i ys, J i ys → ys.length ≤ i) ∧
    nd9 prog w A h₀ L m ce elt ifs Own I news n P J s₂ ∧ (∀ ys, J n ys → Fin s₂ ys news)
noncomputable def FinE (h₀ : Heap) (L : Addr) (m : Str → Option Value) (Q : Value → Shared → Prop) (s : Shared) (ys : List Value) (news : List (Addr × Obj)) : Prop :=
  ∀ D h tk, Fr h₀ L h m → News h₀ L h ((D, PySem.W.listOf ys.toArray ys.length) :: news) → (∀ p ∈ news, p.1 < D) → Q (.ref D) { s with heap := h, toks := tk }
noncomputable def FinA (h₀ : Heap) (L : Addr) (m : Str → Option Value) (y : Str) (Q : Flow → Shared → Prop) (s : Shared) (ys : List Value) (news : List (Addr × Obj)) : Prop :=
  ∀ D h tk, Fr h₀ L h (fun z => if z = y then some (.ref D) else m z) → News h₀ L h ((D, PySem.W.listOf ys.toArray ys.length) :: news) → (∀ p ∈ news, p.1 < D) → Q .next { s with heap := h, toks := tk }
structure Kind (Own : Addr → Option Value → List (Addr × Obj) → Prop) (scope : Scope) (cl : List (Str × Addr)) (env : Env) (x : Str) (px : Pos) : Prop where
  kind : scope.kind = .function
  own0 : ∀ H : Heap, ∃ ow, Own H.objs.size none ow ∧ ∀ p ∈ ow, (pushCells (H.push { cls := .type "dict", data := .dict #[] }) scope.names).get? p.1 = some p.2 ∧ H.objs.size ≤ p.1
  oa : ∀ C v v' ow ow', Own C v ow → Own C v' ow' → ow.map (·.1) = ow'.map (·.1)
  ns : ∀ C v ow (h : Heap), Own C v ow → (∀ p ∈ ow, h.get? p.1 = some p.2) → ∃ m, h.Ns C m
  ge : ∀ C v ow, Own C v ow → ∀ p ∈ ow, C ≤ p.1
  has : ∀ C v ow, Own C v ow → C ∈ ow.map (·.1)
  asg : ∀ (M : Model) (A : Around) C v v0 ow (s : Shared) (Q : Unit → Shared → Prop) (E : Value → Shared → Prop), Own C v0 ow → (∀ p ∈ ow, s.heap.get? p.1 = some p.2) →
      (∀ ow' h' tk', Own C (some v) ow' → (∀ p ∈ ow', h'.get? p.1 = some p.2) → (∀ b o, b ∉ ow.map (·.1) → s.heap.get? b = some o → h'.get? b = some o) → Q () { s with heap := h', toks := tk' }) →
      wpAny M A (assign (.Name x px) (uQ9 scope cl C env) v) Q E s
theorem qH9 : ∀ (names : List (Str × NameKind)) (h : Heap), (∀ y ∈ names, y.2 ≠ .cell) → pushCells h names = h
  | [], _, _ => rfl
  | (_, k) :: r, h, hc => by
    unfold pushCells
    rw [if_neg (by have := hc _ (.head _); simpa using this)]
    exact qH9 r h fun y hy => hc y (.tail _ hy)
theorem hp9 {scope : Scope} {cl : List (Str × Addr)} {env : Env} {x : Str} {px : Pos} (hk : scope.kind = .function) (hc : ∀ y ∈ scope.names, y.2 ≠ .cell) (hx : scope.names.lookup x = some .local) : Kind (OwnL x) scope cl env x px where
  kind := hk
  own0 := fun H => by
    rw [qH9 _ _ hc]
    obtain ⟨oC, h1, h2⟩ := ns_obj (Heap.Ns.new H (.type "dict"))
    exact ⟨[(H.objs.size, oC)], ⟨oC, _, rfl, h2, rfl⟩, fun p hp => by rw [List.mem_singleton.mp hp]; exact ⟨h1, Nat.le_refl _⟩⟩
  oa := fun C v v' ow ow' q q' => q.elim fun _ q => q.elim fun _ q => q'.elim fun _ q' => q'.elim fun _ q' => by rw [q.1, q'.1]; rfl
  ns := fun C v ow h q hg => q.elim fun oC q => q.elim fun mC q => ⟨mC, q.2.1.ns (hg _ (by rw [q.1]; exact .head _))⟩
  ge := fun C v ow q p hp => q.elim fun oC q => q.elim fun mC q => by rw [q.1] at hp; rw [List.mem_singleton.mp hp]; exact Nat.le_refl _
  has := fun C v ow q => q.elim fun oC q => q.elim fun mC q => by rw [q.1]; exact .head _
  asg := fun M A C v v0 ow s Q E q hg hQ => q.elim fun oC q => q.elim fun mC q => by
    have e := q.1; have hn := q.2.1
    subst e
    have hn1 := hn.ns (hg _ (.head _))
    refine wpAny_assign_Name (wpAny_storeName_local (lookup_relabel_local hx) hn1 (fun h₃ hn₃ hs₃ => ?_) (by simp [uQ9, compEnvC, relabel, hk]))
    obtain ⟨oC', h1, h2⟩ := ns_obj hn₃
    exact hQ [(C, oC')] h₃ _ ⟨oC', _, rfl, h2, by simp⟩ (fun p hp => by rw [List.mem_singleton.mp hp]; exact h1) fun b o hb e => hs₃.extBut b o (show b ≠ C by simpa using hb) e
structure OneCell (scope : Scope) (x : Str) : Prop where
  cells : ∀ n cl, cellsFrom n scope.names cl = (x, n) :: cl
  pushes : ∀ h, pushCells h scope.names = h.push { cls := .type "cell", data := .cell none }
theorem xS9 {env : Env} : ∀ {names : List (Str × NameKind)} {x : Str}, names.lookup x = some .cell →
    (names.map fun (n, k) => if (k == NameKind.free && env.scope.kind == .function && env.kindOf n == some .cell) then (n, NameKind.cell) else (n, k)).lookup x = some .cell
  | [], _, h => by simp at h
  | (n, k) :: r, x, h => by
    have ih := @xS9 env r x
    show List.lookup x ((if (k == NameKind.free && env.scope.kind == .function && env.kindOf n == some .cell) = true then (n, NameKind.cell) else (n, k)) :: _) = _
    cases hx : x == n with
    | true =>
      simp only [List.lookup_cons, hx] at h
      cases h
      simp [List.lookup_cons, hx]
    | false =>
      simp only [List.lookup_cons, hx] at h
      by_cases hc : (k == NameKind.free && env.scope.kind == .function && env.kindOf n == some .cell) = true
      · rw [if_pos hc]; simp only [List.lookup_cons, hx]; exact ih h
      · rw [if_neg hc]; simp only [List.lookup_cons, hx]; exact ih h
theorem hq9 {scope : Scope} {cl : List (Str × Addr)} {env : Env} {x : Str} {px : Pos} (hk : scope.kind = .function) (hc : OneCell scope x) (hx : scope.names.lookup x = some .cell) : Kind OwnC scope cl env x px where
  kind := hk
  own0 := fun H => by
    rw [hc.pushes]
    obtain ⟨oC, h1, h2⟩ := ns_obj (Heap.Ns.new H (.type "dict"))
    have hz : (H.push { cls := .type "dict", data := .dict #[] }).objs.size = H.objs.size + 1 := Heap.size_push ..
    refine ⟨_, ⟨oC, { cls := .type "cell", data := .cell none }, rfl, h2, rfl⟩, fun p hp => ?_⟩
    rcases List.mem_cons.mp hp with rfl | hp
    · exact ⟨by rw [← hz]; exact Heap.get?_push_size _ rfl, Nat.le_succ _⟩
    · rw [List.mem_singleton.mp hp]
      exact ⟨Heap.get?_push_of_some _ h1, Nat.le_refl _⟩
  oa := fun C v v' ow ow' q q' => q.elim fun _ q => q.elim fun _ q => q'.elim fun _ q' => q'.elim fun _ q' => by rw [q.1, q'.1]; rfl
  ns := fun C v ow h q hg => q.elim fun oC q => q.elim fun oX q => ⟨_, q.2.1.ns (hg _ (by rw [q.1]; exact .tail _ (.head _)))⟩
  ge := fun C v ow q p hp => q.elim fun oC q => q.elim fun oX q => by
    rw [q.1] at hp
    rcases List.mem_cons.mp hp with rfl | hp
    · exact Nat.le_succ _
    · rw [List.mem_singleton.mp hp]; exact Nat.le_refl _
  has := fun C v ow q => q.elim fun oC q => q.elim fun oX q => by rw [q.1]; exact .tail _ (.head _)
  asg := fun M A C v v0 ow s Q E q hg hQ => q.elim fun oC q => q.elim fun oX q => by
    have e := q.1; have hn := q.2.1; have hX := q.2.2
    subst e
    have hgX := hg _ (.head _)
    have hgC := hg _ (.tail _ (.head _))
    refine wpAny_assign_Name (wpAny_storeName_cell (c := C + 1) (v₀ := v0) (by exact hk) (xS9 hx) (by show (cellsFrom (C + 1) scope.names cl).lookup x = _; rw [hc.cells]; simp) ⟨oX, hgX, hX⟩ fun h' hv hs => ?_)
    k_extra "y"
    refine ex1 (hv) fun oX' hJ9 => ?_
    refine an1 hJ9 fun h1 h2 => ?_
    clear hJ9
    try clear hv
    k_extra "z"
    refine hQ [(C + 1, oX'), (C, oC)] h' _ ⟨oC, oX', rfl, hn, h2⟩ (fun p hp => ?_) fun b o hb e => hs.extBut b o (fun q => hb (by subst q; exact .head _)) e
    rcases List.mem_cons.mp hp with rfl | hp
    · exact h1
    · rw [List.mem_singleton.mp hp]; exact hs.extBut _ _ (by show C ≠ C + 1; exact Nat.ne_of_lt (Nat.lt_succ_self _)) hgC
section
variable {elt iter : PySem.Expr} {x : Str} {px : Pos} {ifs : List PySem.Expr} {scope : Scope} {cl : List (Str × Addr)} {pos : Pos} {Own : Addr → Option Value → List (Addr × Obj) → Prop}
theorem tU9 {ce : Addr → Env} {Q : Value → Shared → Prop} (K : Kind Own scope cl env x px) (hce : ce = fun C => uQ9 scope cl C env) (hclos : closureFor scope env = pure cl) (hl : ifs.length ≤ 1)
    (hnames : ∀ y ∈ scope.names, y.2 = .local → scope.names.lookup y.1 = some .local)
    (h : wpAny (model prog w) A (eval iter env) (fun xv s₁ => wpAny (model prog w) A (pyIter xv) (LGo prog w A h₀ L m ce elt ifs Own (FinE h₀ L m Q)) E s₁) E s)
    (hs : ∀ x, foldedSetIterable iter env x = pure x := by intro _; rfl) :
    wpAny (model prog w) A (eval (.ListComp elt [⟨.Name x px, iter, ifs, 0⟩] scope pos) env) Q E s := by
  subst hce
  rw [eval_ListComp]
  refine wpAny_comprehension_free (use := none) rfl hs hclos K.kind hnames (wpAny_mono h (fun xv s₁ h₁ => wpAny_mono h₁ (fun it s₂ h₂ => ?_) fun _ _ e => e) fun _ _ e => e)
  k_extra "y"
  refine ex7 (h₂) fun I fp n P St news J hJ9 => ?_
  refine an12 hJ9 fun e9_0 WK hsz hIo hSt hst hfp F N hI hIL hnI hJ9 => ?_
  refine an3 hJ9 fun hJ hlen turn fin => ?_
  iterate 2 clear hJ9
  try clear h₂
  subst e9_0
  k_extra "z"
  refine nF9 Own WK hsz hIo hSt K.kind K.own0 K.oa K.ns K.ge K.has (fun C i v v0 ow s Q E _ => K.asg _ _ C v v0 ow s Q E) (fun _ => rfl) hst hfp F N hI hIL hnI hJ (fun i v ys C D ow oI h tk E' h1 h2 h3 h4 h5 h6 h7 h8 => LTest.forIn hl (turn i v ys C D ow oI h tk E' h1 h2 h3 h4 h5 h6 h7 h8)) hlen ?_
  intro D C h tk m' ys hJn F' N' hID hn hC₀ hD₀ hCL hDL hCD offC
  refine ⟨m', hn, fun h'' hs'' => fin ys hJn D h'' tk (F'.change hs'' hCL hC₀) (fun p hp => ?_) (fun p hp => Nat.lt_trans (hnI p hp) hID)⟩
  refine ⟨hs''.extBut _ _ ?_ (N' p hp).1, (N' p hp).2⟩
  rcases List.mem_cons.mp hp with rfl | hp
  · exact Ne.symm hCD
  · exact offC p hp
theorem uF9 {ce : Addr → Env} {y : Str} {py : Pos} {spos : Pos} {Q : Flow → Shared → Prop} (K : Kind Own scope cl env x px) (hce : ce = fun C => uQ9 scope cl C env) (hLe : env.locals = L)
    (hsw : swapsWith (.ListComp elt [⟨.Name x px, iter, ifs, 0⟩] scope pos) (some (.Name y py)) spos.line env = pure true)
    (hclos : closureFor scope env = pure cl) (hl : ifs.length ≤ 1)
    (hnames : ∀ z ∈ scope.names, z.2 = .local → scope.names.lookup z.1 = some .local)
    (hy : env.kindOf y = some .local) (hp : (env.scope.kind == .class || (env.scope.kind == .module && env.locals != env.globals)) = false)
    (h : wpAny (model prog w) A (eval iter env) (fun xv s₁ => wpAny (model prog w) A (pyIter xv) (LGo prog w A h₀ L m ce elt ifs Own (FinA h₀ L m y Q)) E s₁) E s)
    (hs : ∀ x, foldedSetIterable iter env x = pure x := by intro _; rfl) :
    wpAny (model prog w) A (exec (.Assign [.Name y py] (.ListComp elt [⟨.Name x px, iter, ifs, 0⟩] scope pos) spos) env) Q E s := by
  subst hce
  subst hLe
  rw [exec_Assign_Name_used _ _ _ _ hsw]
  refine wpAny_bind (wpAny_standAt (wpAny_bind ?_))
  show wpAny _ A (do let _ ← comprehension (.ListComp elt [⟨.Name x px, iter, ifs, 0⟩] scope pos) scope env _ (newList []) false (eval iter env) (some (assign (.Name y py) env))) _ _ s
  refine wpAny_bind (wpAny_mono (wpAny_comprehension_free (use := some (assign (.Name y py) env)) (Q := fun _ s' => Q .next s') rfl hs hclos K.kind hnames
    (wpAny_mono h (fun xv s₁ h₁ => wpAny_mono h₁ (fun it s₂ h₂ => ?_) fun _ _ e => e) fun _ _ e => e)) (fun _ s' hq => wpAny_pure (wpAny_pure hq)) fun _ _ e => e)
  k_extra "y"
  refine ex7 (h₂) fun I fp n P St news J hJ9 => ?_
  refine an12 hJ9 fun e9_0 WK hsz hIo hSt hst hfp F N hI hIL hnI hJ9 => ?_
  refine an3 hJ9 fun hJ hlen turn fin => ?_
  iterate 2 clear hJ9
  try clear h₂
  subst e9_0
  k_extra "z"
  refine nF9 Own WK hsz hIo hSt K.kind K.own0 K.oa K.ns K.ge K.has (fun C i v v0 ow s Q E _ => K.asg _ _ C v v0 ow s Q E) (fun _ => rfl) hst hfp F N hI hIL hnI hJ (fun i v ys C D ow oI h tk E' h1 h2 h3 h4 h5 h6 h7 h8 => LTest.forIn hl (turn i v ys C D ow oI h tk E' h1 h2 h3 h4 h5 h6 h7 h8)) hlen ?_
  intro D C h tk m' ys hJn F' N' hID hn hC₀ hD₀ hCL hDL hCD offC
  show wpAny _ A (assign (.Name y py) env (.ref D)) _ _ _
  refine wpAny_assign_Name (wpAny_storeName_local hy F'.ns (fun h₂ hn₂ hs₂ => ?_) hp)
  have hL₀ : h₀.get? env.locals = none := Heap.get?_none_of_le F'.above
  have F₂ : Fr h₀ env.locals h₂ (fun z => if z = y then some (.ref D) else m z) := ⟨hn₂, fun b o e => hs₂.extBut b o (fun q => by rw [q, hL₀] at e; cases e) (F'.keep b o e), F'.above⟩
  refine ⟨m', hn.sameBut hs₂ hCL, fun h'' hs'' => fin ys hJn D h'' _ (F₂.change hs'' hCL hC₀) (fun p hp => ?_) (fun p hp => Nat.lt_trans (hnI p hp) hID)⟩
  have z : h₂.get? p.1 = some p.2 := hs₂.extBut _ _ (N' p hp).2.1 (N' p hp).1
  refine ⟨hs''.extBut _ _ ?_ z, (N' p hp).2⟩
  rcases List.mem_cons.mp hp with rfl | hp
  · exact Ne.symm hCD
  · exact offC p hp
theorem xR9 {ce : Addr → Env} {r : Addr} {a b : Int} {t u v : Tok} {n : Nat} {news : List (Addr × Obj)} {Fin : Shared → List Value → List (Addr × Obj) → Prop} (J : Nat → List Value → Prop)
    (hh : A.handled = none) (hr : IsRange s.heap r a b 1 t u v) (hsm : Builtin.Range.small a b 1 = true) (hn : Builtin.Range.rangeSize a b 1 = ((n : Nat) : Int)) (hsz : n ≤ sizeLine) (F : Fr h₀ L s.heap m) (N : News h₀ L s.heap news)
    (hJ : J 0 []) (hlen : ∀ i ys, J i ys → ys.length ≤ i)
    (turn : ∀ g I, (∀ p ∈ news, @LT.lt Nat _ p.1 I) → nd9 prog w A h₀ L m ce elt ifs Own I news n (fun i v => ∃ t, v = .int (a + (i : Int)) t) J { s with heap := g })
    (fin : ∀ g ys, J n ys → Fin { s with heap := g } ys news) :
    wpAny (model prog w) A (pyIter (.ref r)) (LGo prog w A h₀ L m ce elt ifs Own Fin) E s := by
  refine wpAny_pyIter_range hr hsm ?_
  have up : ∀ o : Obj, ∀ b o', s.heap.get? b = some o' → (s.heap.push o).get? b = some o' := fun o b o' e => Heap.get?_push_of_some _ e
  have hnI : ∀ p ∈ news, p.1 < s.heap.objs.size := fun p hp => Heap.lt_size (N p hp).1
  exact ⟨s.heap.objs.size, [s.heap.objs.size], n, _, _, news, J, rfl, range_walks hh a n, hsz, fun i h st => ⟨_, st⟩, (fun i h h' o st e e' k N => range_st (h₀ := h₀) (L := L) i h h' o news st e e' k N trivial),
    (by show IsRangeIter _ _ _ _ _; rw [hn]; simpa using Heap.get?_push_size _ rfl), (fun b hb => by rw [List.mem_singleton.mp hb]; show _ < (s.heap.push _).objs.size; rw [Heap.size_push]; exact Nat.lt_succ_self _),
    F.keeps (up _), N.grown (up _), next_is_new F, Nat.ne_of_lt F.ns.lt, hnI, hJ, hlen, turn _ _ hnI, fun ys h => fin _ ys h⟩
theorem xV9 {ce : Addr → Env} {ax : Addr} {vs : List Value} {k : Nat} {news : List (Addr × Obj)} {Fin : Shared → List Value → List (Addr × Obj) → Prop} (J : Nat → List Value → Prop)
    (hh : A.handled = none) (F : Fr h₀ L s.heap m) (N : News h₀ L s.heap news) (hm : (ax, PySem.W.listOf vs.toArray k) ∈ news) (hsz : vs.length ≤ sizeLine)
    (hJ : J 0 []) (hlen : ∀ i ys, J i ys → ys.length ≤ i)
    (turn : ∀ g I, (∀ p ∈ news, @LT.lt Nat _ p.1 I) → nd9 prog w A h₀ L m ce elt ifs Own I news vs.length (fun i v => vs[i]? = some v) J { s with heap := g })
    (fin : ∀ g ys, J vs.length ys → Fin { s with heap := g } ys news) :
    wpAny (model prog w) A (pyIter (.ref ax)) (LGo prog w A h₀ L m ce elt ifs Own Fin) E s := by
  have hl : s.heap.IsList ax vs.toArray := ⟨_, (N _ hm).1, rfl, _, rfl⟩
  have hlt : ax < s.heap.objs.size := Heap.lt_size (N _ hm).1
  refine wpAny_pyIter_list hl ?_
  have up : ∀ o : Obj, ∀ b o', s.heap.get? b = some o' → (s.heap.push o).get? b = some o' := fun o b o' e => Heap.get?_push_of_some _ e
  have hnI : ∀ p ∈ news, p.1 < s.heap.objs.size := fun p hp => Heap.lt_size (N p hp).1
  refine ⟨s.heap.objs.size, [s.heap.objs.size, ax], vs.length, fun i v => vs[i]? = some v, _, news, J, rfl, ?_, hsz, fun i h st => by obtain ⟨o, e, _⟩ := st.1; exact ⟨o, e⟩, (fun i h h' o st e e' k N => list_st (h₀ := h₀) (L := L) i h h' o news st e e' k N (.inr ⟨_, hm, rfl, _, rfl⟩)),
    ⟨⟨_, Heap.get?_push_size _ rfl, rfl, rfl⟩, hl.push _⟩, (fun b hb => ?_),
    F.keeps (up _), N.grown (up _), next_is_new F, Nat.ne_of_lt F.ns.lt, hnI, hJ, hlen, turn _ _ hnI, fun ys h => fin _ ys h⟩
  · have Wl := Walks.list (prog := prog) (w := w) hh s.heap.objs.size ax (Nat.ne_of_lt hlt) vs.toArray
    simpa using Wl
  · show b < (s.heap.push _).objs.size
    rw [Heap.size_push]
    rcases List.mem_cons.mp hb with rfl | hb
    · exact Nat.lt_succ_self _
    · rw [List.mem_singleton.mp hb]; exact Nat.lt_succ_of_lt hlt
theorem gF9 {ce : Addr → Env} {x : Str} {t : Tok} {news : List (Addr × Obj)} {Fin : Shared → List Value → List (Addr × Obj) → Prop} (J : Nat → List Value → Prop)
    (hh : A.handled = none) (F : Fr h₀ L s.heap m) (N : News h₀ L s.heap news) (hsz : x.cps.size ≤ sizeLine) (hasc : x.cps.all (· < 128) = true)
    (hJ : J 0 []) (hlen : ∀ i ys, J i ys → ys.length ≤ i)
    (turn : ∀ g I, (∀ p ∈ news, @LT.lt Nat _ p.1 I) → nd9 prog w A h₀ L m ce elt ifs Own I news x.cps.size (SignAt x) J { s with heap := g })
    (fin : ∀ g ys, J x.cps.size ys → Fin { s with heap := g } ys news) :
    wpAny (model prog w) A (pyIter (.str x t)) (LGo prog w A h₀ L m ce elt ifs Own Fin) E s := by
  refine wpAny_pyIter_ascii hasc ?_
  have up : ∀ o : Obj, ∀ b o', s.heap.get? b = some o' → (s.heap.push o).get? b = some o' := fun o b o' e => Heap.get?_push_of_some _ e
  have hnI : ∀ p ∈ news, p.1 < s.heap.objs.size := fun p hp => Heap.lt_size (N p hp).1
  exact ⟨s.heap.objs.size, [s.heap.objs.size], x.cps.size, _, _, news, J, rfl, Walks.strAscii hh _ x t, hsz, (fun i h st => by obtain ⟨o, e, _⟩ := st; exact ⟨o, e⟩), (fun i h h' o st e e' k N => by obtain ⟨o', q, r⟩ := st; rw [e] at q; cases q; exact ⟨o, e', r⟩),
    ⟨_, Heap.get?_push_size _ rfl, rfl, rfl⟩, (fun b hb => by rw [List.mem_singleton.mp hb]; show _ < (s.heap.push _).objs.size; rw [Heap.size_push]; exact Nat.lt_succ_self _),
    F.keeps (up _), N.grown (up _), next_is_new F, Nat.ne_of_lt F.ns.lt, hnI, hJ, hlen, turn _ _ hnI, fun ys h => fin _ ys h⟩
end
end
theorem xX9 : ∀ (names : List (Str × NameKind)) (n : Nat) (cl : List (Str × Addr)), (∀ y ∈ names, y.2 ≠ .cell) → cellsFrom n names cl = cl
  | [], _, _, _ => rfl
  | (_, k) :: r, n, cl, hc => by
    unfold cellsFrom
    rw [if_neg (by have := hc _ (.head _); simpa using this)]
    exact xX9 r n cl fun y hy => hc y (.tail _ hy)
section
variable {prog : Program} {w : World} {A : Around} {E : Value → Shared → Prop} {s : Shared} {h₀ : Heap} {L : Addr} {m : Str → Option Value} {env : Env}
variable {elt iter : PySem.Expr} {x : Str} {px : Pos} {ifs : List PySem.Expr} {scope : Scope} {cl : List (Str × Addr)} {pos : Pos}
theorem xj9 {Q : Value → Shared → Prop} (_F₀ : Fr h₀ L s.heap m) (hclos : closureFor scope env = pure cl) (hk : scope.kind = .function) (hc : ∀ y ∈ scope.names, y.2 ≠ .cell) (hx : scope.names.lookup x = some .local) (hl : ifs.length ≤ 1)
    (hnames : ∀ y ∈ scope.names, y.2 = .local → scope.names.lookup y.1 = some .local)
    (h : wpAny (model prog w) A (eval iter env) (fun xv s₁ => wpAny (model prog w) A (pyIter xv) (LGo prog w A h₀ L m (fun C => compEnvC scope cl C env) elt ifs (OwnL x) (FinE h₀ L m Q)) E s₁) E s)
    (hs : ∀ x, foldedSetIterable iter env x = pure x := by intro _; rfl) :
    wpAny (model prog w) A (eval (.ListComp elt [⟨.Name x px, iter, ifs, 0⟩] scope pos) env) Q E s :=
  tU9 (hp9 hk hc hx) (by funext C; unfold uQ9; rw [xX9 _ _ _ hc]) hclos hl hnames h hs
theorem yR9 {Q : Value → Shared → Prop} (_F₀ : Fr h₀ L s.heap m) (hclos : closureFor scope env = pure cl) (hk : scope.kind = .function) (hc : OneCell scope x) (hx : scope.names.lookup x = some .cell) (hl : ifs.length ≤ 1)
    (hnames : ∀ y ∈ scope.names, y.2 = .local → scope.names.lookup y.1 = some .local)
    (h : wpAny (model prog w) A (eval iter env) (fun xv s₁ => wpAny (model prog w) A (pyIter xv) (LGo prog w A h₀ L m (fun C => compEnvC scope ((x, C + 1) :: cl) C env) elt ifs OwnC (FinE h₀ L m Q)) E s₁) E s)
    (hs : ∀ x, foldedSetIterable iter env x = pure x := by intro _; rfl) :
    wpAny (model prog w) A (eval (.ListComp elt [⟨.Name x px, iter, ifs, 0⟩] scope pos) env) Q E s :=
  tU9 (hq9 hk hc hx) (by funext C; unfold uQ9; rw [hc.cells]) hclos hl hnames h hs
theorem qD9 {y : Str} {py : Pos} {spos : Pos} {Q : Flow → Shared → Prop} (_F₀ : Fr h₀ L s.heap m) (hLe : env.locals = L)
    (hsw : swapsWith (.ListComp elt [⟨.Name x px, iter, ifs, 0⟩] scope pos) (some (.Name y py)) spos.line env = pure true)
    (hclos : closureFor scope env = pure cl) (hk : scope.kind = .function) (hc : ∀ y ∈ scope.names, y.2 ≠ .cell) (hx : scope.names.lookup x = some .local) (hl : ifs.length ≤ 1)
    (hnames : ∀ z ∈ scope.names, z.2 = .local → scope.names.lookup z.1 = some .local)
    (hy : env.kindOf y = some .local) (hp : (env.scope.kind == .class || (env.scope.kind == .module && env.locals != env.globals)) = false)
    (h : wpAny (model prog w) A (eval iter env) (fun xv s₁ => wpAny (model prog w) A (pyIter xv) (LGo prog w A h₀ L m (fun C => compEnvC scope cl C env) elt ifs (OwnL x) (FinA h₀ L m y Q)) E s₁) E s)
    (hs : ∀ x, foldedSetIterable iter env x = pure x := by intro _; rfl) :
    wpAny (model prog w) A (exec (.Assign [.Name y py] (.ListComp elt [⟨.Name x px, iter, ifs, 0⟩] scope pos) spos) env) Q E s :=
  uF9 (hp9 hk hc hx) (by funext C; unfold uQ9; rw [xX9 _ _ _ hc]) hLe hsw hclos hl hnames hy hp h hs
theorem yC9 {y : Str} {py : Pos} {spos : Pos} {Q : Flow → Shared → Prop} (_F₀ : Fr h₀ L s.heap m) (hLe : env.locals = L)
    (hsw : swapsWith (.ListComp elt [⟨.Name x px, iter, ifs, 0⟩] scope pos) (some (.Name y py)) spos.line env = pure true)
    (hclos : closureFor scope env = pure cl) (hk : scope.kind = .function) (hc : OneCell scope x) (hx : scope.names.lookup x = some .cell) (hl : ifs.length ≤ 1)
    (hnames : ∀ z ∈ scope.names, z.2 = .local → scope.names.lookup z.1 = some .local)
    (hy : env.kindOf y = some .local) (hp : (env.scope.kind == .class || (env.scope.kind == .module && env.locals != env.globals)) = false)
    (h : wpAny (model prog w) A (eval iter env) (fun xv s₁ => wpAny (model prog w) A (pyIter xv) (LGo prog w A h₀ L m (fun C => compEnvC scope ((x, C + 1) :: cl) C env) elt ifs OwnC (FinA h₀ L m y Q)) E s₁) E s)
    (hs : ∀ x, foldedSetIterable iter env x = pure x := by intro _; rfl) :
    wpAny (model prog w) A (exec (.Assign [.Name y py] (.ListComp elt [⟨.Name x px, iter, ifs, 0⟩] scope pos) spos) env) Q E s :=
  uF9 (hq9 hk hc hx) (by funext C; unfold uQ9; rw [hc.cells]) hLe hsw hclos hl hnames hy hp h hs
end
end
section
noncomputable def trL : List (Int × Tok × Int × Tok × Addr) → List Value
  | [] => []
  | x :: r => .int x.1 x.2.1 :: .int x.2.2.1 x.2.2.2.1 :: .ref x.2.2.2.2 :: trL r
noncomputable def TR (l : List Value) : Prop := ∃ ts, l = trL ts
theorem TR.triples : ∀ (l : List Value), TR l → TriplesOk l := by
  intro l h
  refine h.elim fun ts e => e.symm ▸ ?_
  clear e h
  induction ts with
  | nil => trivial
  | cons x r ih => exact ih
theorem wL9 (x : Int × Tok × Int × Tok × Addr) : ∀ ts, trL ts ++ trL [x] = trL (ts ++ [x])
  | [] => rfl
  | y :: r => congrArg (fun l => Value.int y.1 y.2.1 :: .int y.2.2.1 y.2.2.2.1 :: .ref y.2.2.2.2 :: l) (wL9 x r)
theorem TR.snoc (p : Pos) (c : Addr) : ∀ (l : List Value), TR l → TR (l ++ [rawInt p.line, rawInt p.col, .ref c]) := fun _ h =>
  h.elim fun ts e => ⟨ts ++ [(_, _, _, _, c)], (congrArg (fun l : List Value => l ++ [rawInt p.line, rawInt p.col, Value.ref c]) e).trans (wL9 (_, _, _, _, c) ts)⟩
theorem TR.among (pos : Pos) : ∀ (l : List Value), TR l → codeAmong pos l = none ∨ ∃ c, codeAmong pos l = some (.ref c) := by
  intro l h
  refine h.elim fun ts e => e.symm ▸ ?_
  clear e h
  induction ts with
  | nil => exact .inl rfl
  | cons x r ih =>
    show (if (x.1 == pos.line && x.2.2.1 == pos.col) = true then some (Value.ref x.2.2.2.2) else codeAmong pos (trL r)) = none ∨ ∃ c, (if (x.1 == pos.line && x.2.2.1 == pos.col) = true then some (Value.ref x.2.2.2.2) else codeAmong pos (trL r)) = some (.ref c)
    by_cases h : (x.1 == pos.line && x.2.2.1 == pos.col) = true
    · exact Or.inr ⟨_, if_pos h⟩
    · rw [if_neg h]; exact ih
noncomputable def TabInv (P : Addr) (tb : List (Addr × Obj)) : Prop := ∃ ps cs, tb = (P, tabObj ps) :: cs ∧ TR ps.toList ∧ ∀ p ∈ cs, p.1 ≠ P
theorem TabInv.new (P : Addr) : TabInv P [(P, tabObj #[])] := ⟨#[], [], rfl, ⟨[], rfl⟩, fun _ h => nomatch h⟩
theorem wK9 {P : Addr} {o : Obj} {cs : List (Addr × Obj)} (hc : ∀ p ∈ cs, p.1 ≠ P) : ∀ {front : List (Addr × Obj)}, (∀ p ∈ front, p.1 ≠ P) → UpdF P o (front ++ (P, o) :: cs) (fun o' => front ++ (P, o') :: cs)
  | [], _ => .head hc
  | q :: r, h => .tail (h q (.head _)) (wK9 hc fun p hp => h p (.tail _ hp))
section
variable {prog : Program} {w : World} {A : Around} {E : Value → Shared → Prop} {s : Shared} {h₀ : Heap} {L a c P : Addr} {m mg mb : Str → Option Value} {cn : Str} {cs : Scope} {cl : List (Str × Addr)} {front tbl : List (Addr × Obj)}
  {p : Program} {loose : List Str} {mean : ExcName → Option Value} {name qual : Str} {params : Arguments} {body : PySem.Expr} {scope : Scope} {pos : Pos} {clos : List (Str × Addr)}
theorem tX9 {Q : Value → Shared → Prop} (F : Fr h₀ L s.heap m) (N : News h₀ L s.heap (front ++ tbl)) (T : Top p loose mean mg mb h₀) (C : CodeHd h₀ c P) (TI : TabInv P tbl)
    (hsep : ∀ q ∈ front, ∀ r ∈ tbl, q.1 ≠ r.1) (hcl : closureFor scope (envX cn cs L a (.ref c) cl) = pure clos) (hdef : defaultsOf params (envX cn cs L a (.ref c) cl) = ([], []))
    (h : ∀ f o h' tk tbl', Fr h₀ L h' m → News h₀ L h' ((f, o) :: (front ++ tbl')) → o.cls = .type "function" → TabInv P tbl' → (∀ q ∈ front, ∀ r ∈ tbl', q.1 ≠ r.1) → (∀ q ∈ front ++ tbl', q.1 < f) → Q (.ref f) { s with heap := h', toks := tk }) :
    wpAny (model prog w) A (eval (.Lambda params body scope pos) (envX cn cs L a (.ref c) cl)) Q E s := by
  k_extra "y"
  refine ex2 (TI) fun ps co hJ9 => ?_
  refine an2 hJ9 fun e9_0 htr hco => ?_
  clear hJ9
  try clear TI
  subst e9_0
  k_extra "z"
  have hP : ∀ q ∈ front, q.1 ≠ P := fun q hq => hsep q hq _ (.head _)
  refine kla_eval hdef ?_
  rcases htr.among pos with hn | ⟨c', hs⟩
  · refine kla_nest F N T C rfl (wK9 hco hP) (htr.triples) hn hcl fun f c' oc vs t ctv h' tk F' N' _ _ h1 h2 => ?_
    have h1' : ∀ q ∈ front ++ (P, tabObj ps) :: co, @LT.lt Nat _ q.1 c' := h1
    have h2' : @LT.lt Nat _ c' f := h2
    have sub : ∀ q ∈ front ++ (P, tabObj (ps ++ #[rawInt pos.line, rawInt pos.col, .ref c'])) :: (c', oc) :: co, q.1 = c' ∨ ∃ r ∈ front ++ (P, tabObj ps) :: co, r.1 = q.1 := fun q hq => by
      rcases List.mem_append.mp hq with hq | hq
      · exact .inr ⟨q, List.mem_append_left _ hq, rfl⟩
      · rcases List.mem_cons.mp hq with rfl | hq
        · exact .inr ⟨(P, tabObj ps), List.mem_append_right _ (.head _), rfl⟩
        · rcases List.mem_cons.mp hq with rfl | hq
          · exact .inl rfl
          · exact .inr ⟨q, List.mem_append_right _ (.tail _ hq), rfl⟩
    obtain ⟨o, hoc, hN⟩ : ∃ o : Obj, o.cls = .type "function" ∧ News h₀ L h' ((f, o) :: (c', oc) :: (front ++ (P, tabObj (ps ++ #[rawInt pos.line, rawInt pos.col, .ref c'])) :: co)) := by
      refine ⟨_, ?_, N'⟩
      rfl
    refine h f o h' tk ((P, tabObj (ps ++ #[rawInt pos.line, rawInt pos.col, .ref c'])) :: (c', oc) :: co) F' (fun q hq => hN q ?_) hoc ⟨_, _, rfl, ?_, ?_⟩ ?_ ?_
    · rcases List.mem_cons.mp hq with rfl | hq
      · exact .head _
      · refine .tail _ ?_
        rcases List.mem_append.mp hq with hq | hq
        · exact .tail _ (List.mem_append_left _ hq)
        · rcases List.mem_cons.mp hq with rfl | hq
          · exact .tail _ (List.mem_append_right _ (.head _))
          · rcases List.mem_cons.mp hq with rfl | hq
            · exact .head _
            · exact .tail _ (List.mem_append_right _ (.tail _ hq))
    · have e : (ps ++ #[rawInt pos.line, rawInt pos.col, Value.ref c']).toList = ps.toList ++ [rawInt pos.line, rawInt pos.col, .ref c'] := by simp
      rw [e]; exact TR.snoc _ _ _ htr
    · intro q hq
      rcases List.mem_cons.mp hq with rfl | hq
      · exact Nat.ne_of_gt (h1' (P, tabObj ps) (List.mem_append_right _ (.head _)))
      · exact hco q hq
    · intro q hq r hr
      rcases List.mem_cons.mp hr with rfl | hr
      · exact hP q hq
      · rcases List.mem_cons.mp hr with rfl | hr
        · exact Nat.ne_of_lt (h1' q (List.mem_append_left _ hq))
        · exact hsep q hq r (.tail _ hr)
    · intro q hq
      rcases sub q hq with e | ⟨r, hr, e⟩
      · rw [e]; exact h2
      · rw [← e]; exact Nat.lt_trans (h1' r hr) h2'
  · refine kla_hit F N T C rfl (List.mem_append_right _ (.head _)) (htr.triples) hs hcl fun f ctv h' tk F' N' h1 => ?_
    refine h f _ h' tk _ F' N' ?_ ⟨ps, co, rfl, htr, hco⟩ hsep h1
    rfl
theorem tm9 {Q : Value → Shared → Prop} (F : Fr h₀ L s.heap m) (N : News h₀ L s.heap (front ++ tbl)) (C : CodeHd h₀ c P) (TI : TabInv P tbl)
    (hsep : ∀ q ∈ front, ∀ r ∈ tbl, q.1 ≠ r.1)
    (h : ∀ cv h' tk tbl', Fr h₀ L h' m → News h₀ L h' (front ++ tbl') → TabInv P tbl' → (∀ q ∈ front, ∀ r ∈ tbl', q.1 ≠ r.1) → (∀ b o, b ≠ P → s.heap.get? b = some o → h'.get? b = some o) → s.heap.objs.size ≤ h'.objs.size → (∀ q ∈ tbl', (∃ r ∈ tbl, r.1 = q.1) ∨ s.heap.objs.size ≤ q.1) → Q cv { s with heap := h', toks := tk }) :
    wpAny (model prog w) A (genexprCode (envX cn cs L a (.ref c) cl) pos qual scope) Q E s := by
  k_extra "y"
  refine ex2 (TI) fun ps co hJ9 => ?_
  refine an2 hJ9 fun e9_0 htr hco => ?_
  clear hJ9
  try clear TI
  subst e9_0
  k_extra "z"
  have hP : ∀ q ∈ front, q.1 ≠ P := fun q hq => hsep q hq _ (.head _)
  have hm := N (P, tabObj ps) (List.mem_append_right _ (.head _))
  have CC := (C.keeps F.keep).code hm.1 htr.triples
  rcases htr.among pos with hn | ⟨c', hs⟩
  · refine wpAny_genexprCodeX rfl CC ((C.keeps F.keep).tab hm.1) hn fun c' h' tk hx hge hlt _ hrec htb _ => ?_
    k_extra "y"
    refine ex4 (hrec) fun c₂ oc vs t hJ9 => ?_
    refine an3 hJ9 fun e2 hoc hd hv => ?_
    clear hJ9
    try clear hrec
    k_extra "z"
    cases e2
    have hLs : L < s.heap.objs.size := F.ns.lt
    have hLc : L < c' := Nat.lt_of_lt_of_le hLs hge
    have fresh : ∀ b, L < b → h₀.get? b = none := fun b hb => Heap.get?_none_of_le (Nat.le_trans F.above (Nat.le_of_lt hb))
    have F' : Fr h₀ L h' m := ⟨F.ns.extBut hx hm.2.1.symm, fun b o e => hx b o (fun q => by rw [q, hm.2.2] at e; cases e) (F.keep b o e), F.above⟩
    have hlt1 : ∀ q ∈ front ++ (P, tabObj ps) :: co, q.1 < c' := fun q hq => Nat.lt_of_lt_of_le (Heap.lt_size (N q hq).1) hge
    refine h (.ref c') h' tk ((P, tabObj (ps ++ #[rawInt pos.line, rawInt pos.col, .ref c'])) :: (c', oc) :: co) F' (fun q hq => ?_) ⟨_, _, rfl, ?_, ?_⟩ ?_ hx (Nat.le_trans hge (Nat.le_of_lt hlt)) (fun q hq => ?_)
    · rcases List.mem_append.mp hq with hq | hq
      · have n := N q (List.mem_append_left _ hq)
        exact ⟨hx _ _ (hP q hq) n.1, n.2⟩
      · rcases List.mem_cons.mp hq with rfl | hq
        · exact ⟨htb.2, hm.2⟩
        · rcases List.mem_cons.mp hq with rfl | hq
          · exact ⟨hoc, Nat.ne_of_gt hLc, fresh _ hLc⟩
          · have n := N q (List.mem_append_right _ (.tail _ hq))
            exact ⟨hx _ _ (hco q hq) n.1, n.2⟩
    · have e : (ps ++ #[rawInt pos.line, rawInt pos.col, Value.ref c']).toList = ps.toList ++ [rawInt pos.line, rawInt pos.col, .ref c'] := by simp
      rw [e]; exact TR.snoc _ _ _ htr
    · intro q hq
      rcases List.mem_cons.mp hq with rfl | hq
      · exact Nat.ne_of_gt (hlt1 (P, tabObj ps) (List.mem_append_right _ (.head _)))
      · exact hco q hq
    · intro q hq r hr
      rcases List.mem_cons.mp hr with rfl | hr
      · exact hP q hq
      · rcases List.mem_cons.mp hr with rfl | hr
        · exact Nat.ne_of_lt (hlt1 q (List.mem_append_left _ hq))
        · exact hsep q hq r (.tail _ hr)
    · rcases List.mem_cons.mp hq with rfl | hq
      · exact .inl ⟨_, .head _, rfl⟩
      · rcases List.mem_cons.mp hq with rfl | hq
        · exact .inr hge
        · exact .inl ⟨q, .tail _ hq, rfl⟩
  · unfold genexprCode
    exact wpAny_codeAt_hit rfl CC hs (h _ s.heap s.toks _ F N ⟨ps, co, rfl, htr, hco⟩ hsep (fun _ _ _ e => e) (Nat.le_refl _) fun q hq => .inl ⟨q, hq, rfl⟩)
end
end
section
section
variable {prog : Program} {w : World} {A : Around} {E : Value → Shared → Prop} {s : Shared} {h₀ : Heap} {L a c P : Addr} {m mg mb : Str → Option Value} {cn : Str} {cs : Scope} {cl : List (Str × Addr)} {front tbl : List (Addr × Obj)}
  {p : Program} {loose : List Str} {mean : ExcName → Option Value} {pos : Pos}
noncomputable def GenJ (prog : Program) (w : World) (A : Around) (h₀ : Heap) (L ga : Addr) (led : List (Addr × Obj)) (tx : List Str) (s : Shared) : Prop :=
  ∃ fp wr g St, (∀ b ∈ wr, h₀.get? b = none) ∧ L ∉ wr ∧ (∀ q ∈ led, q.1 ∉ wr) ∧ WalksS prog w A.in4 ga fp wr (GenOnlyQ g) tx.length (fun j v => ∃ y, tx[j]? = some y ∧ ∃ t, v = .str y t) St ∧ St 0 s ∧ (∀ i s', St i s' → s'.TypeIs (.ref ga) "generator") ∧ ga ∈ fp ∧ (∀ b ∈ fp, b < s.heap.objs.size)
theorem um9 (n : Nat) : passing (fun _ => true) n 0 = List.range n := by
  unfold passing
  rw [List.drop_zero]
  simp
noncomputable def ww9 (prog : Program) (w : World) (A : Around) (E : Value → Shared → Prop) (s : Shared) (h₀ : Heap) (L a c P : Addr) (mg mb : Str → Option Value) (cn : Str) (cs : Scope) (cl : List (Str × Addr)) (front : List (Addr × Obj)) (p : Program) (loose : List Str) (pos : Pos) (elt iter : PySem.Expr) (x : Str) (px : Pos) (scope : Scope) (clg : List (Str × Addr)) (Q : Value → Shared → Prop) (D : Addr) (vs : List Value) (ss : List Str) (f : Str → Str) : Prop := ∀ {m : Str → Option Value} {tbl : List (Addr × Obj)} {mean : ExcName → Option Value} {k : Nat} (F : Fr h₀ L s.heap m) (N : News h₀ L s.heap (front ++ tbl)) (T : Top p loose mean mg mb h₀) (C : CodeHd h₀ c P) (TI : TabInv P tbl) (hsep : ∀ q ∈ front, ∀ r ∈ tbl, q.1 ≠ r.1) (hD : (D, PySem.W.listOf vs.toArray k) ∈ front) (hstr : StrsAre vs ss) (G : AllBare s.gens) (hh : A.handled = none) (hroom : A.depth < recursionLimit) (hco : scope.isCoroutine = false) (hclos : closureFor scope (envX cn cs L a (.ref c) cl) = pure clg) (hcell : ∀ y ∈ scope.names, y.2 ≠ .cell) (h0 : scope.names.lookup (".0" : Str) = some NameKind.local) (hx : scope.names.lookup x = some .local) (hkind : scope.kind = .function) (hit : ∀ Q' : Value → Shared → Prop, Q' (.ref D) s → wpAny (model prog w) A (eval iter (envX cn cs L a (.ref c) cl)) Q' E s) (helt : ∀ (A' : Around) (E' : Value → Shared → Prop) (C : Addr) (code : Value) (y : Str) (t : Tok) (u : Shared) (m₂ : Str → Option Value), A'.handled = none → y ∈ ss → u.heap.Ns C m₂ → m₂ x = some (.str y t) →
      wpAny (model prog w) A' (eval elt (genEnv scope clg C code builtinsNs (envX cn cs L a (.ref c) cl))) (fun v s₃ => (∃ t', v = .str (f y) t') ∧ Keeps u s₃) E' u) (kk : ∀ ga h₅ tk gn tbl', Fr h₀ L h₅ m → News h₀ L h₅ (front ++ tbl') → TabInv P tbl' → (∀ q ∈ front, ∀ r ∈ tbl', q.1 ≠ r.1) → AllBare gn → GenJ prog w A h₀ L ga (front ++ tbl') (ss.map f) { s with heap := h₅, toks := tk, gens := gn } → Q (.ref ga) { s with heap := h₅, toks := tk, gens := gn }) (hs : ∀ x, genFold iter (envX cn cs L a (.ref c) cl) x = pure x), wpAny (model prog w) A (eval (.GeneratorExp elt [⟨.Name x px, iter, [], 0⟩] scope pos) (envX cn cs L a (.ref c) cl)) Q E s
@[irreducible] noncomputable def zF9 := W30 ww9
theorem tl9 : A30 ww9 zF9 := by
  intro m tbl mean k F N T C TI hsep hD hstr G hh hroom hco hclos hcell h0 hx hkind hit helt kk hs
  have hl : zF9.2.2.2.2.1.heap.IsList zF9.2.2.2.2.2.2.2.2.2.2.2.2.2.2.2.2.2.2.2.2.2.2.2.2.2.2.1 zF9.2.2.2.2.2.2.2.2.2.2.2.2.2.2.2.2.2.2.2.2.2.2.2.2.2.2.2.1.toArray := ⟨_, (N _ (List.mem_append_left _ hD)).1, rfl, _, rfl⟩
  have hlt : zF9.2.2.2.2.2.2.2.2.2.2.2.2.2.2.2.2.2.2.2.2.2.2.2.2.2.2.1 < zF9.2.2.2.2.1.heap.objs.size := Heap.lt_size (N _ (List.mem_append_left _ hD)).1
  refine wpAny_GeneratorExp_walksQ hh hco hclos hcell h0 hx hkind hroom (hit _ ?_) hs
  refine wpAny_pyIter_list hl ?_
  have up : ∀ b o', zF9.2.2.2.2.1.heap.get? b = some o' → (zF9.2.2.2.2.1.heap.push { cls := .type "list_iterator", data := .fields #[.ref zF9.2.2.2.2.2.2.2.2.2.2.2.2.2.2.2.2.2.2.2.2.2.2.2.2.2.2.1, .int 0 0] }).get? b = some o' := fun b o' e => Heap.get?_push_of_some _ e
  have F₂ := F.keeps up
  have N₂ := N.grown up
  refine ⟨T.nolimit.keeps F₂.keep, ?_⟩
  have hP : ∀ q ∈ zF9.2.2.2.2.2.2.2.2.2.2.2.2.2.2.2.1, q.1 ≠ zF9.2.2.2.2.2.2.2.2.2.1 := by obtain ⟨ps, co, rfl, _⟩ := TI; exact fun q hq => hsep q hq _ (.head _)
  have hPt : ∃ oP, zF9.2.2.2.2.1.heap.get? zF9.2.2.2.2.2.2.2.2.2.1 = some oP := by obtain ⟨ps, co, rfl, _⟩ := TI; exact ⟨_, (N _ (List.mem_append_right _ (.head _))).1⟩
  have hI : (zF9.2.2.2.2.1.heap.push { cls := .type "list_iterator", data := .fields #[.ref zF9.2.2.2.2.2.2.2.2.2.2.2.2.2.2.2.2.2.2.2.2.2.2.2.2.2.2.1, .int 0 0] }).IsListIter zF9.2.2.2.2.1.heap.objs.size zF9.2.2.2.2.2.2.2.2.2.2.2.2.2.2.2.2.2.2.2.2.2.2.2.2.2.2.1 0 := ⟨_, Heap.get?_push_size _ rfl, rfl, rfl⟩
  have hPs : zF9.2.2.2.2.1.heap.objs.size ≠ zF9.2.2.2.2.2.2.2.2.2.1 := fun e => by obtain ⟨oP, h⟩ := hPt; exact Nat.lt_irrefl _ (e ▸ Heap.lt_size h)
  have hszI : (zF9.2.2.2.2.1.heap.push { cls := .type "list_iterator", data := .fields #[.ref zF9.2.2.2.2.2.2.2.2.2.2.2.2.2.2.2.2.2.2.2.2.2.2.2.2.2.2.1, .int 0 0] }).objs.size = zF9.2.2.2.2.1.heap.objs.size + 1 := Heap.size_push ..
  generalize zF9.2.2.2.2.1.heap.push { cls := .type "list_iterator", data := .fields #[.ref zF9.2.2.2.2.2.2.2.2.2.2.2.2.2.2.2.2.2.2.2.2.2.2.2.2.2.2.1, .int 0 0] } = H2 at up F₂ N₂ hI hszI ⊢
  refine tm9 F₂ N₂ C TI hsep fun cv h₃ tk₃ tbl' F₃ N₃ TI' hsep' hk₃ hsz₃ hnew => ?_
  obtain ⟨bm, ob, b1, b2, b3, b4, b5, b6⟩ := T.bmain
  refine wpAny_builtinsFor (T.g.keeps F₃.keep) b1 b2 (F₃.keep _ _ b3) b4 b5 b6 ?_
  have hDP : zF9.2.2.2.2.2.2.2.2.2.2.2.2.2.2.2.2.2.2.2.2.2.2.2.2.2.2.1 ≠ zF9.2.2.2.2.2.2.2.2.2.1 := hP _ hD
  have hne : zF9.2.2.2.2.2.2.2.2.2.2.2.2.2.2.2.2.2.2.2.2.2.2.2.2.2.2.1 ≠ zF9.2.2.2.2.1.heap.objs.size := Nat.ne_of_lt hlt
  have hl₃ : h₃.IsList zF9.2.2.2.2.2.2.2.2.2.2.2.2.2.2.2.2.2.2.2.2.2.2.2.2.2.2.1 zF9.2.2.2.2.2.2.2.2.2.2.2.2.2.2.2.2.2.2.2.2.2.2.2.2.2.2.2.1.toArray := ⟨_, (N₃ _ (List.mem_append_left _ hD)).1, rfl, _, rfl⟩
  have hI₃ : h₃.IsListIter zF9.2.2.2.2.1.heap.objs.size zF9.2.2.2.2.2.2.2.2.2.2.2.2.2.2.2.2.2.2.2.2.2.2.2.2.2.2.1 0 := by obtain ⟨o, ho, r⟩ := hI; exact ⟨o, hk₃ _ _ hPs ho, r⟩
  have hlast : zF9.2.2.2.2.1.heap.objs.size < h₃.objs.size := by obtain ⟨o, ho, r⟩ := hI₃; exact Heap.lt_size ho
  refine ⟨zF9.2.2.2.2.1.heap.objs.size, [zF9.2.2.2.2.1.heap.objs.size, zF9.2.2.2.2.2.2.2.2.2.2.2.2.2.2.2.2.2.2.2.2.2.2.2.2.2.2.1], [zF9.2.2.2.2.1.heap.objs.size], zF9.2.2.2.2.2.2.2.2.2.2.2.2.2.2.2.2.2.2.2.2.2.2.2.2.2.2.2.1.toArray.size, _, _, fun _ => true, fun i v => ∃ y, (zF9.2.2.2.2.2.2.2.2.2.2.2.2.2.2.2.2.2.2.2.2.2.2.2.2.2.2.2.2.1.map zF9.2.2.2.2.2.2.2.2.2.2.2.2.2.2.2.2.2.2.2.2.2.2.2.2.2.2.2.2.2)[i]? = some y ∧ ∃ t, v = .str y t, rfl, (fun A' hA => Walks.list hA _ _ hne zF9.2.2.2.2.2.2.2.2.2.2.2.2.2.2.2.2.2.2.2.2.2.2.2.2.2.2.2.1.toArray), ⟨hI₃, hl₃⟩, fun b hb => ?_, T.nolimit.keeps F₃.keep, fun hm => ?_, fun href hhref => ⟨?_, ?_⟩, ?_⟩
  · rcases List.mem_cons.mp hb with rfl | hb
    · exact hlast
    · rw [List.mem_singleton.mp hb]; exact Nat.lt_trans hlt hlast
  · have hc : cStatics < zF9.2.2.2.2.1.heap.objs.size := let ⟨_, hn, _⟩ := T.nolimit.keeps F.keep; hn.lt
    exact absurd (List.mem_singleton.mp hm ▸ hc) (Nat.lt_irrefl _)
  · intro A' E' i v u m₂ _ _ _ _ _
    rw [List.forIn_nil]
    exact wpAny_pure ⟨rfl, u.heap, u.toks, rfl, fun _ _ e => e⟩
  · intro A' E' i v u m₂ hA hv _ hn hm _
    have hv' : zF9.2.2.2.2.2.2.2.2.2.2.2.2.2.2.2.2.2.2.2.2.2.2.2.2.2.2.2.1[i]? = some v := by simpa using hv
    obtain ⟨y, t, rfl, hy⟩ := xW9 hstr hv'
    refine wpAny_mono (helt A' E' _ _ y t u m₂ hA (List.mem_of_getElem? hy) hn hm) (fun v s₃ q => q.1.elim fun t' e => ⟨⟨zF9.2.2.2.2.2.2.2.2.2.2.2.2.2.2.2.2.2.2.2.2.2.2.2.2.2.2.2.2.2 y, by simp [hy], t', e⟩, q.2⟩) fun _ _ e => e
  · intro ga h₅ tk gs hgb hag hsz₅ hk₅ WW hat
    have hlen : zF9.2.2.2.2.2.2.2.2.2.2.2.2.2.2.2.2.2.2.2.2.2.2.2.2.2.2.2.1.toArray.size = zF9.2.2.2.2.2.2.2.2.2.2.2.2.2.2.2.2.2.2.2.2.2.2.2.2.2.2.2.2.1.length := by simp [zr9 hstr]
    rw [um9, List.length_range, hlen] at WW
    rw [hlen] at hat
    have W2 := WW.imp (P' := fun j v => ∃ y, (zF9.2.2.2.2.2.2.2.2.2.2.2.2.2.2.2.2.2.2.2.2.2.2.2.2.2.2.2.2.1.map zF9.2.2.2.2.2.2.2.2.2.2.2.2.2.2.2.2.2.2.2.2.2.2.2.2.2.2.2.2.2)[j]? = some y ∧ ∃ t, v = .str y t) fun j v hv => by
      k_extra "y"
      refine ex1 (hv) fun i hJ9 => ?_
      refine an1 hJ9 fun hi hF => ?_
      clear hJ9
      try clear hv
      k_extra "z"
      have : i = j := by
        by_cases hj : j < zF9.2.2.2.2.2.2.2.2.2.2.2.2.2.2.2.2.2.2.2.2.2.2.2.2.2.2.2.2.1.length
        · rw [List.getElem?_range hj] at hi; exact (Option.some.inj hi).symm
        · rw [List.getElem?_eq_none (by simpa using Nat.le_of_not_lt hj)] at hi; cases hi
      exact this ▸ hF
    have hg0 : zF9.2.2.2.2.2.1.objs.size ≤ zF9.2.2.2.2.1.heap.objs.size := Nat.le_trans F.above (Nat.le_of_lt F.ns.lt)
    refine kk ga h₅ tk (zF9.2.2.2.2.1.gens.push gs) tbl' (F₃.keeps hk₅) (N₃.grown hk₅) TI' hsep' (G.push hgb) ⟨_, _, _, _, ?_, ?_, ?_, (by rw [List.length_map]; exact W2), hat, fun i s' st => st.1.typeIs, List.mem_cons_self, fun b hb => ?_⟩
    · intro b hb
      rcases List.mem_cons.mp hb with rfl | hb
      · exact Heap.get?_none_of_le (Nat.le_trans hg0 (Nat.le_of_lt hlast))
      · rw [List.mem_singleton.mp hb]; exact Heap.get?_none_of_le hg0
    · intro hb
      rcases List.mem_cons.mp hb with e | hb
      · exact absurd F₃.ns.lt (e ▸ Nat.lt_irrefl _)
      · exact absurd F.ns.lt (List.mem_singleton.mp hb ▸ Nat.lt_irrefl _)
    · intro q hq hb
      rcases List.mem_cons.mp hb with e | hb
      · exact absurd (Heap.lt_size (N₃ q hq).1) (e ▸ Nat.lt_irrefl _)
      · have e := List.mem_singleton.mp hb
        rcases List.mem_append.mp hq with hq | hq
        · exact absurd (Heap.lt_size (N q (List.mem_append_left _ hq)).1) (e ▸ Nat.lt_irrefl _)
        · rcases hnew q hq with ⟨r, hr, er⟩ | hge
          · exact absurd (Heap.lt_size (N r (List.mem_append_right _ hr)).1) (by rw [er, e]; exact Nat.lt_irrefl _)
          · have hge' : H2.objs.size ≤ q.1 := hge
            rw [hszI, e] at hge'
            exact absurd hge' (Nat.not_succ_le_self _)
    · show b < h₅.objs.size
      rw [hsz₅]
      have hag' : h₃.objs.size < ga := hag
      rcases List.mem_cons.mp hb with rfl | hb
      · exact Nat.lt_succ_self _
      · rcases List.mem_cons.mp hb with rfl | hb
        · exact Nat.lt_succ_of_lt hag'
        · exact Nat.lt_succ_of_lt (Nat.lt_trans (List.mem_range.mp hb) hag')
theorem gh9 {prog : Program} {w : World} {A : Around} {E : Value → Shared → Prop} {s : Shared} {h₀ : Heap} {L a c P : Addr} {m mg mb : Str → Option Value} {cn : Str} {cs : Scope} {cl : List (Str × Addr)} {front tbl : List (Addr × Obj)} {p : Program} {loose : List Str} {mean : ExcName → Option Value} {pos : Pos} {elt iter : PySem.Expr} {x : Str} {px : Pos} {scope : Scope} {clg : List (Str × Addr)} {Q : Value → Shared → Prop} {D : Addr} {vs : List Value} {ss : List Str} {f : Str → Str} {k : Nat} (F : Fr h₀ L s.heap m) (N : News h₀ L s.heap (front ++ tbl)) (T : Top p loose mean mg mb h₀) (C : CodeHd h₀ c P) (TI : TabInv P tbl) (hsep : ∀ q ∈ front, ∀ r ∈ tbl, q.1 ≠ r.1) (hD : (D, PySem.W.listOf vs.toArray k) ∈ front) (hstr : StrsAre vs ss) (G : AllBare s.gens) (hh : A.handled = none) (hroom : A.depth < recursionLimit) (hco : scope.isCoroutine = false) (hclos : closureFor scope (envX cn cs L a (.ref c) cl) = pure clg) (hcell : ∀ y ∈ scope.names, y.2 ≠ .cell) (h0 : scope.names.lookup (".0" : Str) = some NameKind.local) (hx : scope.names.lookup x = some .local) (hkind : scope.kind = .function) (hit : ∀ Q' : Value → Shared → Prop, Q' (.ref D) s → wpAny (model prog w) A (eval iter (envX cn cs L a (.ref c) cl)) Q' E s) (helt : ∀ (A' : Around) (E' : Value → Shared → Prop) (C : Addr) (code : Value) (y : Str) (t : Tok) (u : Shared) (m₂ : Str → Option Value), A'.handled = none → y ∈ ss → u.heap.Ns C m₂ → m₂ x = some (.str y t) →
      wpAny (model prog w) A' (eval elt (genEnv scope clg C code builtinsNs (envX cn cs L a (.ref c) cl))) (fun v s₃ => (∃ t', v = .str (f y) t') ∧ Keeps u s₃) E' u) (kk : ∀ ga h₅ tk gn tbl', Fr h₀ L h₅ m → News h₀ L h₅ (front ++ tbl') → TabInv P tbl' → (∀ q ∈ front, ∀ r ∈ tbl', q.1 ≠ r.1) → AllBare gn → GenJ prog w A h₀ L ga (front ++ tbl') (ss.map f) { s with heap := h₅, toks := tk, gens := gn } → Q (.ref ga) { s with heap := h₅, toks := tk, gens := gn }) (hs : ∀ x, genFold iter (envX cn cs L a (.ref c) cl) x = pure x := by intro _; rfl) : wpAny (model prog w) A (eval (.GeneratorExp elt [⟨.Name x px, iter, [], 0⟩] scope pos) (envX cn cs L a (.ref c) cl)) Q E s :=
  H30 (by unfold zF9; rfl) @tl9 prog w A E s h₀ L a c P mg mb cn cs cl front p loose pos elt iter x px scope clg Q D vs ss f F N T C TI hsep hD hstr G hh hroom hco hclos hcell h0 hx hkind hit helt kk hs
theorem wc9 {sep : Str} {t : Tok} {ga : Addr} {led : List (Addr × Obj)} {tx : List Str} {Q : Value → Shared → Prop} (F : Fr h₀ L s.heap m) (N : News h₀ L s.heap led) (G : AllBare s.gens) (J : GenJ prog w A h₀ L ga led tx s) (hok : JoinOk sep tx = true) (hsz : tx.length ≤ sizeLine)
    (k : ∀ h' tk gn t', Fr h₀ L h' m → News h₀ L h' led → AllBare gn → Q (.str (Txt.join sep tx) t') { s with heap := h', toks := tk, gens := gn }) :
    wpAny (model prog w) A (call (.builtin "str.join") [.str sep t, .ref ga]) Q E s := by
  k_extra "y"
  refine ex4 (J) fun fp wr g St hJ9 => ?_
  refine an7 hJ9 fun hw0 hwL hwN WW hst hT ha hfp => ?_
  clear hJ9
  try clear J
  k_extra "z"
  refine SC.joinGen WW.in4_2 hT hst hfp ha (fun j v hv => hv.elim fun y q => ⟨y, q.2⟩) (fun s' lt hm hacc => ?_) hsz
  have hl : lt.map (·.1) = tx := by
    apply List.ext_getElem?
    intro j
    have hsz : lt.length = tx.length := by simpa [strValues] using hacc.1
    by_cases hj : j < tx.length
    · have hj' : j < lt.length := hsz ▸ hj
      obtain ⟨y, hy, u, hv⟩ := hacc.2 j (.str lt[j].1 lt[j].2) (by simp [strValues, List.getElem?_eq_getElem hj'])
      injection hv with h1 _
      rw [hy]
      simp [List.getElem?_eq_getElem hj', h1]
    · rw [List.getElem?_eq_none (by simpa [hsz] using Nat.le_of_not_lt hj), List.getElem?_eq_none (Nat.le_of_not_lt hj)]
  rw [hl]
  obtain ⟨hh, hg, hd, ho, ht⟩ := hm
  refine ⟨hok, fun t' kk => ?_⟩
  obtain ⟨h1, g1, d1, t1, o1⟩ := s'
  dsimp only at hd ho hh hg
  subst hd ho
  refine k h1 kk g1 t' ⟨F.ns.at' fun o e => hh L o hwL e, fun b o e => hh b o (fun hb => by rw [hw0 b hb] at e; cases e) (F.keep b o e), F.above⟩ (fun q hq => ⟨hh _ _ (hwN q hq) (N q hq).1, (N q hq).2⟩) (G.moved hg)
end
end
section
noncomputable def SpcG (V : Wd) (f : Value) (args : List Value) (d u : Nat) (obs : List (Addr × Obj)) (pre : Heap → Prop) (post : Heap → Value → Heap → Prop) : Prop :=
  ∀ (dp un : Nat) (gd : Option (List Code)) (cn : Str) (cs : Scope) (a : Addr) (ccd : Value) (cl : List (Str × Addr)) (outer : List Env) (A₀ : Around) (base h₀ : Heap) (L : Addr) (m : Str → Option Value) (s : Shared) (Q E : Value → Shared → Prop),
    Below A₀ base outer h₀ → Fr h₀ L s.heap m → (getK.heap_1 V.w.params).In h₀ → Top V.p V.loose V.mean V.mg V.mb h₀ → cs.kind = .function →
    dp + d < recursionLimit → un + u < cLine → News h₀ L s.heap obs → AllBare s.gens → pre s.heap →
    (∀ v h' tk' gn, (∀ b o, b ∉ obs.map (·.1) → s.heap.get? b = some o → h'.get? b = some o) → s.heap.objs.size ≤ h'.objs.size → AllBare gn → post s.heap v h' → Q v { s with heap := h', toks := tk', gens := gn }) →
      wpAny (model prg V.w) (ktrTop dp un gd cn cs L a ccd cl outer) (call f args) Q E s
theorem dL9 {V : Wd} {f : Value} {args : List Value} {d u : Nat} {obs rest : List (Addr × Obj)} {pre : Heap → Prop} {R : Value → List (Addr × Obj) → Prop}
    {dp un : Nat} {gd : Option (List Code)} {cn : Str} {cs : Scope} {a : Addr} {ccd : Value} {cl : List (Str × Addr)} {outer : List Env} {A₀ : Around} {base h₀ : Heap} {L : Addr} {m : Str → Option Value} {s : Shared} {Q E : Value → Shared → Prop}
    (S : SpcG V f args d u obs pre (zn9 obs R)) (B : Below A₀ base outer h₀) (F : Fr h₀ L s.heap m) (No : News h₀ L s.heap obs) (Nr : News h₀ L s.heap rest) (hsep : ∀ p ∈ rest, ∀ q ∈ obs, p.1 ≠ q.1)
    (X : (getK.heap_1 V.w.params).In h₀) (T : Top V.p V.loose V.mean V.mg V.mb h₀) (hk : cs.kind = .function)
    (hd : dp + d < recursionLimit) (hu : un + u < cLine) (hG : AllBare s.gens) (hp : pre s.heap)
    (k : ∀ v nx h' tk' gn, Fr h₀ L h' m → News h₀ L h' nx → News h₀ L h' rest → R v nx → (∀ p ∈ nx, AllNe p.1 rest) → (∀ p ∈ nx, p.1 ∈ obs.map (·.1) ∨ AllNe p.1 obs) → AllBare gn → Q v { s with heap := h', toks := tk', gens := gn }) :
    wpAny (model prg V.w) (ktrTop dp un gd cn cs L a ccd cl outer) (call f args) Q E s :=
  S dp un gd cn cs a ccd cl outer A₀ base h₀ L m s Q E B F X T hk hd hu No hG hp fun v h' tk' gn hkp _ hgn hP => hP.elim fun nx hP => by
    have hR := hP.1; have hnx := hP.2
    have hobs : ∀ b o, h₀.get? b = some o → b ∉ obs.map (·.1) := fun b o e q => by
      obtain ⟨p, hp, rfl⟩ := List.mem_map.mp q
      rw [(No p hp).2.2] at e; cases e
    obtain ⟨oL, a1, a2, hL, a3⟩ := F.ns
    have hLn : L ∉ obs.map (·.1) := fun q => by
      obtain ⟨p, hp, e⟩ := List.mem_map.mp q
      exact (No p hp).2.1 e
    have F' : Fr h₀ L h' m := ⟨⟨oL, a1, a2, hkp _ _ hLn hL, a3⟩, fun b o e => hkp b o (hobs b o e) (F.keep b o e), F.above⟩
    refine k v nx h' tk' gn F' (fun p hp => ?_) (fun p hp => ?_) hR (fun p hp => ?_) (fun p hp => ?_) hgn
    · refine ⟨(hnx p hp).1, fun e => ?_, ?_⟩
      · rcases (hnx p hp).2 with q | q
        · exact hLn (e ▸ q)
        · rw [e, hL] at q; cases q
      · cases q : h₀.get? p.1 with
        | none => rfl
        | some o' =>
          rcases (hnx p hp).2 with q2 | q2
          · exact absurd q2 (hobs _ _ q)
          · have := F.keep _ _ q; rw [q2] at this; cases this
    · have hno : p.1 ∉ obs.map (·.1) := fun q => by
        obtain ⟨q, hq, e⟩ := List.mem_map.mp q
        exact hsep p hp q hq e.symm
      exact ⟨hkp _ _ hno (Nr p hp).1, (Nr p hp).2⟩
    · refine AllNe.of fun q hq e => ?_
      rcases (hnx p hp).2 with z | z
      · obtain ⟨y, hy, ey⟩ := List.mem_map.mp z
        exact hsep q hq y hy (e.trans ey.symm)
      · rw [← e, (Nr q hq).1] at z; cases z
    · rcases (hnx p hp).2 with z | z
      · exact .inl z
      · refine .inr (AllNe.of fun q hq e => ?_)
        rw [← e, (No q hq).1] at z; cases z
section
variable {V : Wd} {f : Addr} {args : List Value} {d u : Nat} {obs : List (Addr × Obj)} {pre : Heap → Prop} {R : Value → List (Addr × Obj) → Prop}
    {name qual : Str} {params : Arguments} {body : List Stmt} {scope : Scope} {doc pm cdv ct oc : Value} {od : Option Addr} {osl : Array (Option Value)} {binds : List (Str × Value)}
theorem uz9 (ho : (getK.heap_1 V.w.params).lookup f = some ⟨oc, od, .func (fnX name qual params body scope [] .none .none doc pm none cdv ct), osl⟩) (hcd : codeIn (getK.heap_1 V.w.params) cdv qual = true)
    (hbind : bindArgs (fnX name qual params body scope [] .none .none doc pm none cdv ct) ⟨args, []⟩ = pure binds) (hloc : ∀ y ∈ binds, scope.names.lookup y.1 = some .local)
    (hcell : ∀ x ∈ scope.names, x.2 ≠ .cell) (hco : scope.isCoroutine = false) (hgen : scope.isGenerator = false) (hk : scope.kind = .function)
    (h : ∀ (dp un : Nat) (gd : Option (List Code)) (outer : List Env) (A₁ : Around) (base sh g : Heap) (L' : Addr) (h₁ : Heap) (s : Shared) (Q : Value → Shared → Prop),
      dp + d ≤ recursionLimit → un + u < cLine + 3 → pre sh → (∀ b o, b ∉ obs.map (·.1) → sh.get? b = some o → g.get? b = some o) → Fr g L' h₁ (fun y => binds.reverse.lookup y) → News g L' h₁ obs → (∀ p ∈ obs, p.1 < L') →
      Below A₁ base outer g → (getK.heap_1 V.w.params).In g → Top V.p V.loose V.mean V.mg V.mb g → AllBare s.gens →
      (∀ v h' tk' gn m' nx, Fr g L' h' m' → News g L' h' nx → AllBare gn → R v nx → Q v { s with heap := h', toks := tk', gens := gn }) →
      wpAny (model prg V.w) (ktrTop dp un gd qual scope L' f cdv [] outer) (execs body (envX qual scope L' f cdv []))
        (fun fl s' => Q (match fl with | .ret v => v | _ => .none) s') (fun _ _ => False) { s with heap := h₁, toks := s.toks + binds.length }) :
    SpcG V (.ref f) args d u obs pre (zn9 obs R) := by
  intro dp un gd cn cs a ccd cl outer A₀ base h₀ L m s Q E B F X T hkc hd hu N hG hp ret
  have Xs := Frag.In.keeps X F.keep
  obtain ⟨BG, st, hsg, hsz⟩ := vF9 (dp := dp) (un := un) (gd := gd) (a := a) (ccd := ccd) (cl := cl) B F N hkc
  have hd0 : dp < recursionLimit := lt0 (by assumption)
  refine wpAny_call (codeAny_call_def (fd := fnX name qual params body scope [] .none .none doc pm none cdv ct) (body := body) (binds := binds) hd0 (Xs _ _ ho) rfl (T.keeps F.keep).nolimit (codeRec_of Xs hcd) rfl (BindsTo.of_eq hbind) hcell hloc (fun h₁ hns hk₁ => ?_) hco hgen hk)
  have FG : Fr (hideAll s.heap (obs.map (·.1))) s.heap.objs.size h₁ (fun y => binds.reverse.lookup y) := ⟨hns, fun b o e => hk₁ b o (of_hideAll _ e), Nat.le_of_eq hsz⟩
  have NG : News (hideAll s.heap (obs.map (·.1))) s.heap.objs.size h₁ obs := fun p hp => ⟨hk₁ _ _ (N p hp).1, Nat.ne_of_lt (Heap.lt_size (N p hp).1), hideAll_none _ (List.mem_map_of_mem hp)⟩
  refine wpAny_mono (h (dp + 1) (un + 3) gd (envX cn cs L a ccd cl :: outer) _ base s.heap _ s.heap.objs.size h₁ s Q (up1 (by assumption)) (up3 (by assumption)) hp hsg FG NG (fun p hp => Heap.lt_size (N p hp).1) BG (X.keeps st) (T.keeps st) hG (fun v h' tk' gn m' nx F' N' hgn r => ?_)) (fun fl s' hq => hq) (fun _ _ x => x.elim)
  have key : ∀ (QQ : Value → Heap → Nat → Prop), (∀ v h' tk', (∀ b o, b ∉ obs.map (·.1) → s.heap.get? b = some o → h'.get? b = some o) → s.heap.objs.size ≤ h'.objs.size → zn9 obs R s.heap v h' → QQ v h' tk') → QQ v h' tk' := fun QQ k =>
    bE9 (s := s) (Q := fun v s' => QQ v s'.heap s'.toks) hsg (Nat.le_refl _) (fun v h' tk' a b c => k v h' tk' a b c) F' N' r
  exact key (fun v h' tk' => Q v { s with heap := h', toks := tk', gens := gn }) fun v h' tk' a b c => ret v h' tk' gn a b hgn c
end
section
variable {prog : Program} {w : World} {A : Around} {E : Value → Shared → Prop} {s : Shared} {env : Env} {h₀ : Heap} {test : PySem.Expr} {body orelse : List Stmt} {Q : Flow → Shared → Prop} {L : Addr}
noncomputable def df9 (h₀ : Heap) (L : Addr) (J : Nat → (Str → Option Value) → List (Addr × Obj) → Prop) (n : Nat) (s s₂ : Shared) : Prop :=
  ∃ n' h' tk gn m' nx, s₂ = { s with heap := h', toks := tk, gens := gn } ∧ n' < n ∧ AllBare gn ∧ Fr h₀ L h' m' ∧ News h₀ L h' nx ∧ J n' m' nx
noncomputable def nO9 (h₀ : Heap) (L : Addr) (J : Nat → (Str → Option Value) → List (Addr × Obj) → Prop) (n : Nat) (s : Shared) (Q : Flow → Shared → Prop) (f : Flow) (s₂ : Shared) : Prop :=
  match f with
  | .ret v => Q (.ret v) s₂
  | .brk => Q .next s₂
  | _ => df9 h₀ L J n s s₂
theorem nk9 {pos : Pos} {n₀ : Nat} {m₀ : Str → Option Value} {news : List (Addr × Obj)} (J : Nat → (Str → Option Value) → List (Addr × Obj) → Prop) (hE : PassesOwn (model prog w) A env E)
    (F : Fr h₀ L s.heap m₀) (N : News h₀ L s.heap news) (G : AllBare s.gens) (hj : J n₀ m₀ news)
    (turn : ∀ n m₁ nx h tk gn, J n m₁ nx → AllBare gn → Fr h₀ L h m₁ → News h₀ L h nx →
      wpAny (model prog w) A (isTrue test env (eval test env)) (fun b s₂ => if b = true then wpAny (model prog w) A (execs body env) (nO9 h₀ L J n s Q) E s₂ else wpAny (model prog w) A (execs orelse env) Q E s₂) E { s with heap := h, toks := tk, gens := gn }) :
    wpAny (model prog w) A (exec (.While test body orelse pos) env) Q E s := by
  refine whl_start 0 ?_
  have key : ∀ n m₁ nx h tk gn, J n m₁ nx → AllBare gn → Fr h₀ L h m₁ → News h₀ L h nx → WhlRest prog w A E env test body orelse Q 0 { s with heap := h, toks := tk, gens := gn } := by
    intro n
    induction n using Nat.strongRecOn with
    | ind n ih =>
      intro m₁ nx h tk gn hJ hG F1 N1
      have step := turn n m₁ nx h tk gn hJ hG F1 N1
      show WhlRest prog w A E env test body orelse Q (0 + 1) { s with heap := h, toks := tk, gens := gn }
      refine whl_turn hE (wpAny_mono step (fun b s₂ h₂ => ?_) fun _ _ e => e)
      cases b with
      | false => exact WhlIf.no rfl (by simpa using h₂)
      | true =>
        refine WhlIf.yes rfl ?_
        have h₃ : wpAny (model prog w) A (execs body env) (nO9 h₀ L J n s Q) E s₂ := by simpa using h₂
        refine wpAny_mono h₃ (fun f s₃ h₄ => ?_) fun _ _ e => e
        have go : df9 h₀ L J n s s₃ → WhlRest prog w A E env test body orelse Q 0 s₃ := by
          rintro hJ9
          k_extra "y"
          refine ex6 hJ9 fun n' h' tk' gn' m' nx' hJ9 => ?_
          refine an5 hJ9 fun e9_0 hlt hG2 F2 N2 hJ2 => ?_
          iterate 2 clear hJ9
          subst e9_0
          k_extra "z"
          exact ih n' hlt m' nx' h' tk' gn' hJ2 hG2 F2 N2
        cases f with
        | next => exact go h₄
        | cont => exact go h₄
        | brk => exact h₄
        | ret v => exact h₄
  exact key n₀ m₀ news s.heap s.toks s.gens hj G F N
end
theorem allLt_ne {l : Nat} : ∀ {r : List (Addr × Obj)}, AllLt l r → ∀ p ∈ r, p.1 ≠ l
  | [], _, _, h => nomatch h
  | q :: r, x, p, h => by
    rcases List.mem_cons.mp h with rfl | h
    · exact Nat.ne_of_lt x.1
    · exact allLt_ne x.2 p h
section
variable {prog : Program} {w : World} {A : Around} {E : Value → Shared → Prop} {s : Shared} {h₀ : Heap} {L a c P : Addr} {m mg mb : Str → Option Value} {cn : Str} {cs : Scope} {cl : List (Str × Addr)} {tbl : List (Addr × Obj)} {q1 q2 q3 : Addr × Obj}
  {p : Program} {loose : List Str} {mean : ExcName → Option Value} {name qual : Str} {params : Arguments} {body : PySem.Expr} {scope : Scope} {pos : Pos} {clos : List (Str × Addr)}
theorem vD9 {Q : Value → Shared → Prop} (F : Fr h₀ L s.heap m) (N : News h₀ L s.heap (q1 :: q2 :: tbl)) (T : Top p loose mean mg mb h₀) (C : CodeHd h₀ c P) (TI : TabInv P tbl)
    (s1 : ∀ r ∈ tbl, r.1 ≠ q1.1) (s2 : ∀ r ∈ tbl, r.1 ≠ q2.1) (hcl : closureFor scope (envX cn cs L a (.ref c) cl) = pure clos) (hdef : defaultsOf params (envX cn cs L a (.ref c) cl) = ([], []))
    (h : ∀ f o h' tk tbl', Fr h₀ L h' m → News h₀ L h' ((f, o) :: q1 :: q2 :: tbl') → o.cls = .type "function" → TabInv P tbl' → AllNe q1.1 tbl' → AllNe q2.1 tbl' → (@LT.lt Nat _ q1.1 f ∧ @LT.lt Nat _ q2.1 f ∧ AllLt f tbl') → Q (.ref f) { s with heap := h', toks := tk }) :
    wpAny (model prog w) A (eval (.Lambda params body scope pos) (envX cn cs L a (.ref c) cl)) Q E s :=
  tX9 (front := [q1, q2]) F N T C TI (fun q hq r hr e => by
    rcases List.mem_cons.mp hq with rfl | hq
    · exact s1 r hr e.symm
    · rw [List.mem_singleton.mp hq] at e; exact s2 r hr e.symm) hcl hdef fun f o h' tk tbl' F' N' hc TI' hs hl =>
    h f o h' tk tbl' F' N' hc TI' (AllNe.of fun r hr e => hs q1 (.head _) r hr e.symm) (AllNe.of fun r hr e => hs q2 (.tail _ (.head _)) r hr e.symm)
      ⟨hl q1 (.head _), hl q2 (.tail _ (.head _)), allLt_of fun q hq => hl q (.tail _ (.tail _ hq))⟩
theorem wb9 {Q : Value → Shared → Prop} (F : Fr h₀ L s.heap m) (N : News h₀ L s.heap (q1 :: q2 :: q3 :: tbl)) (T : Top p loose mean mg mb h₀) (C : CodeHd h₀ c P) (TI : TabInv P tbl)
    (s1 : ∀ r ∈ tbl, r.1 ≠ q1.1) (s2 : ∀ r ∈ tbl, r.1 ≠ q2.1) (s3 : ∀ r ∈ tbl, r.1 ≠ q3.1) (hcl : closureFor scope (envX cn cs L a (.ref c) cl) = pure clos) (hdef : defaultsOf params (envX cn cs L a (.ref c) cl) = ([], []))
    (h : ∀ f o h' tk tbl', Fr h₀ L h' m → News h₀ L h' ((f, o) :: q1 :: q2 :: q3 :: tbl') → o.cls = .type "function" → TabInv P tbl' → AllNe q1.1 tbl' → AllNe q2.1 tbl' → AllNe q3.1 tbl' → (@LT.lt Nat _ q1.1 f ∧ @LT.lt Nat _ q2.1 f ∧ @LT.lt Nat _ q3.1 f ∧ AllLt f tbl') → Q (.ref f) { s with heap := h', toks := tk }) :
    wpAny (model prog w) A (eval (.Lambda params body scope pos) (envX cn cs L a (.ref c) cl)) Q E s :=
  tX9 (front := [q1, q2, q3]) F N T C TI (fun q hq r hr e => by
    rcases List.mem_cons.mp hq with rfl | hq
    · exact s1 r hr e.symm
    · rcases List.mem_cons.mp hq with rfl | hq
      · exact s2 r hr e.symm
      · rw [List.mem_singleton.mp hq] at e; exact s3 r hr e.symm) hcl hdef fun f o h' tk tbl' F' N' hc TI' hs hl =>
    h f o h' tk tbl' F' N' hc TI' (AllNe.of fun r hr e => hs q1 (.head _) r hr e.symm) (AllNe.of fun r hr e => hs q2 (.tail _ (.head _)) r hr e.symm) (AllNe.of fun r hr e => hs q3 (.tail _ (.tail _ (.head _))) r hr e.symm)
      ⟨hl q1 (.head _), hl q2 (.tail _ (.head _)), hl q3 (.tail _ (.tail _ (.head _))), allLt_of fun q hq => hl q (.tail _ (.tail _ (.tail _ hq)))⟩
theorem wh9 {elt iter : PySem.Expr} {x : Str} {px : Pos} {scope : Scope} {clg : List (Str × Addr)} {Q : Value → Shared → Prop} {D : Addr} {vs : List Value} {ss : List Str} {k : Nat}
    (F : Fr h₀ L s.heap m) (N : News h₀ L s.heap ((D, PySem.W.listOf vs.toArray k) :: q2 :: q3 :: tbl)) (T : Top p loose mean mg mb h₀) (C : CodeHd h₀ c P) (TI : TabInv P tbl)
    (s1 : ∀ r ∈ tbl, r.1 ≠ D) (s2 : ∀ r ∈ tbl, r.1 ≠ q2.1) (s3 : ∀ r ∈ tbl, r.1 ≠ q3.1) (hstr : StrsAre vs ss) (G : AllBare s.gens)
    (hh : A.handled = none) (hroom : A.depth < recursionLimit) (hco : scope.isCoroutine = false) (hclos : closureFor scope (envX cn cs L a (.ref c) cl) = pure clg) (hcell : ∀ y ∈ scope.names, y.2 ≠ .cell)
    (h0 : scope.names.lookup (".0" : Str) = some NameKind.local) (hx : scope.names.lookup x = some .local) (hkind : scope.kind = .function)
    (hit : ∀ Q' : Value → Shared → Prop, Q' (.ref D) s → wpAny (model prog w) A (eval iter (envX cn cs L a (.ref c) cl)) Q' E s)
    (helt : ∀ (A' : Around) (E' : Value → Shared → Prop) (C : Addr) (code : Value) (y : Str) (t : Tok) (u : Shared) (m₂ : Str → Option Value), A'.handled = none → y ∈ ss → u.heap.Ns C m₂ → m₂ x = some (.str y t) →
      wpAny (model prog w) A' (eval elt (genEnv scope clg C code builtinsNs (envX cn cs L a (.ref c) cl))) (fun v s₃ => (∃ t', v = .str y t') ∧ Keeps u s₃) E' u)
    (kk : ∀ ga h₅ tk gn tbl', Fr h₀ L h₅ m → News h₀ L h₅ ((D, PySem.W.listOf vs.toArray k) :: q2 :: q3 :: tbl') → TabInv P tbl' → AllNe D tbl' → AllNe q2.1 tbl' → AllNe q3.1 tbl' → AllBare gn → GenJ prog w A h₀ L ga ((D, PySem.W.listOf vs.toArray k) :: q2 :: q3 :: tbl') ss { s with heap := h₅, toks := tk, gens := gn } → Q (.ref ga) { s with heap := h₅, toks := tk, gens := gn })
    (hs : ∀ x, genFold iter (envX cn cs L a (.ref c) cl) x = pure x := by intro _; rfl) :
    wpAny (model prog w) A (eval (.GeneratorExp elt [⟨.Name x px, iter, [], 0⟩] scope pos) (envX cn cs L a (.ref c) cl)) Q E s :=
  gh9 (front := [(D, PySem.W.listOf vs.toArray k), q2, q3]) (f := id) F N T C TI (fun q hq r hr e => by
    rcases List.mem_cons.mp hq with rfl | hq
    · exact s1 r hr e.symm
    · rcases List.mem_cons.mp hq with rfl | hq
      · exact s2 r hr e.symm
      · rw [List.mem_singleton.mp hq] at e; exact s3 r hr e.symm) (.head _) hstr G hh hroom hco hclos hcell h0 hx hkind hit helt (fun ga h₅ tk gn tbl' F' N' TI' hs hG J =>
    kk ga h₅ tk gn tbl' F' N' TI' (AllNe.of fun r hr e => hs _ (.head _) r hr e.symm) (AllNe.of fun r hr e => hs q2 (.tail _ (.head _)) r hr e.symm) (AllNe.of fun r hr e => hs q3 (.tail _ (.tail _ (.head _))) r hr e.symm) hG (by rw [List.map_id] at J; exact J)) hs
end
end
section
theorem ln13 : True := by
  (k_with "call builtin:str.replace" => (refine zK9 ?_))
  trivial
noncomputable abbrev gsc : Scope := { kind := .function, names := [(Str.ofString ".0", .local), (Str.ofString "s", .local)], isGenerator := true, isCoroutine := false, more := [] }
theorem wg9 (V : Wd) {A' : Around} {E' : Value → Shared → Prop} {C : Addr} {code : Value} {y : Str} {t : Tok} {u : Shared} {m₂ : Str → Option Value} {cn : Str} {cs : Scope} {L a : Addr} {cdv : Value} {cl : List (Str × Addr)} (hn : u.heap.Ns C m₂) (hm : m₂ (Str.ofString "s") = some (.str y t))
   (h1 : (Builtin.Str.occurrences y (Str.ofString "\\") 0 y.length (y.length + 1)).isEmpty = true) (h2 : (Builtin.Str.occurrences y (Str.ofString "-") 0 y.length (y.length + 1)).isEmpty = true) :
   wpAny (model prg V.w) A' (eval (PySem.Expr.Call (PySem.Expr.Attribute (PySem.Expr.Call (PySem.Expr.Attribute (PySem.Expr.Name (Str.ofString "s") ⟨137, 38, 137, 39⟩) (Str.ofString "replace") ⟨137, 38, 137, 47⟩) [PySem.Expr.Constant (Const.str (Str.ofString "\\")) 0 ⟨137, 48, 137, 52⟩, PySem.Expr.Constant (Const.str (Str.ofString "\\\\")) 0 ⟨137, 54, 137, 60⟩] [] ⟨137, 38, 137, 61⟩) (Str.ofString "replace") ⟨137, 38, 137, 69⟩) [PySem.Expr.Constant (Const.str (Str.ofString "-")) 0 ⟨137, 70, 137, 73⟩, PySem.Expr.Constant (Const.str (Str.ofString "\\-")) 0 ⟨137, 75, 137, 80⟩] [] ⟨137, 38, 137, 81⟩) (genEnv gsc [] C code builtinsNs (envX cn cs L a cdv cl))) (fun v s₃ => (∃ t', v = .str y t') ∧ Keeps u s₃) E' u := by
  refine MethodCall_ ?_
  refine MethodCall_ ?_
  refine wpAny_Name (wpAny_loadName_local (env := genEnv gsc [] C code builtinsNs (envX cn cs L a cdv cl)) rfl rfl hn hm ?_) (by decide)
  k_steps
  unfold zC9
  refine yL9 h1 ?_
  intro t1 k1
  k_steps
  unfold zC9
  refine yL9 h2 ?_
  intro t2 k2
  exact ⟨⟨_, rfl⟩, ix2 u.heap _ (⟨rfl, fun _ _ e => e⟩)⟩
end
section
theorem ln14 : True := by
  k_with_none
  (k_with "ne9" => repeat' (first | refine nep ?_ ?_ | exact neWd | exact xf9 | exact xh9 | exact xg9 | exact qM9 | exact qN9 | exact inferInstance))
  (k_with "ite" => first | with_reducible refine ite_tt ?_ | with_reducible refine ite_ff ?_ | (k_closed; first | refine ite_pos (by k_dflt decide) ?_ | refine ite_neg (by k_dflt decide) ?_))
  (k_with "eval Name" => (k_here; first | (refine' nmC ?_ ?_ ?_ ?_ ?_ ?_ ?_ ?_; rotate_right 8; (· k_dflt k_asm); (· k_dflt (exact rfl)); (· k_dflt k_mem); (· k_dflt (first | with_reducible assumption | exact rfl)); (· kernel_rfl); (· kernel_rfl!); (· kernel_rfl)) | (refine' nmK ?_ ?_ ?_ ?_ ?_ ?_ ?_ ?_; rotate_right 8; (iterate 3 (· k_dflt k_asm)); (· k_dflt k_is); iterate 3 (· kernel_rfl)) | (refine' nmB ?_ ?_ ?_ ?_ ?_ ?_ ?_ ?_ ?_ ?_; rotate_right 10; (iterate 3 (· k_dflt k_asm)); (· k_dflt k_is); (· k_dflt boot_fast); (· decide); iterate 3 (· kernel_rfl))))
  (k_with "exec Assign cons ListComp" => k_extra "exec Assign")
  (k_with "exec If" => refine wpAny_If ?_)
  (k_with "isTrue Compare" => refine wpAny_isTrue_Compare1 ?_)
  (k_with "exec Assign" => with_reducible refine wpAny_Assign_Name ?_ (by k_dflt rfl))
  (k_with "execs cons Assign cons" => k_extra "execs cons")
  (k_with "eval Call Attribute" => with_reducible refine MethodCall_ ?_ (by k_dflt rfl))
  (k_with "exec Expr" => with_reducible refine wpAny_Expr_any ?_ (by k_dflt rfl) (by k_dflt rfl))
  (k_with "isTrue" => with_reducible refine isTrue_plain ?_ (by k_dflt rfl))
  (k_with "eval Call Name" => k_extra "eval Call")
  (k_with "eval Call" => with_reducible refine Call_ ?_ (by k_dflt rfl))
  (k_with "spliced" => with_reducible refine args_cons ?_ (by k_dflt rfl))
  (k_with "callWith" => with_reducible (first | refine cwB1 ?_ (by k_dflt rfl) | refine callWith_method1 ?_ (by k_dflt rfl) (by k_dflt rfl)))
  (k_with "newList" => (k_here; refine newList_K (by k_dflt k_asm) (by k_dflt k_asm) ?_ (by k_dflt (exact Nat.le_of_ble_eq_true rfl)); intro _ _ _ _ l1; (try k_lt l1); (revert l1; intro _); (try k_sweep)))
  (k_with "z" => (with_reducible refine hG9 ?_; clear hG9 G9))
  (k_with "y" => (with_reducible refine zh9 fun G9 hG9 => ?_))
  (k_with "w" => (have h3 := @id (zM9 = ⟨_, [_, _, _, _, _, _, _, _, _, _, _, _, _, _, _, _, _, _, _, _, _, _, _, _, _, _, _, _, _, _, _, _, _, _, _, _, _], _, _, _⟩) rfl; rw [h3] at hsc; subst hsc; clear h3))
  (k_with "v" => (refine' let M9 : Model := _; let A9 : Around := _; let e9 : Env := _; (?_ : wpAny M9 A9 (execs _ e9) _ _ _)))
  (k_with "u" => (try (with_reducible refine' (?_ : wpAny M9 A9 _ _ _ _))))
  (k_with "m_k_steps" => repeat' (first | ((fail_if_success (fail_if_success k_unfold)); (first | (with_reducible refine' (?_ : wpAny _ _ _ _ _ _)) | k_unfold); (try dsimp only)) | (k_end; wrow_close) | walk1 | (dsimp only; walk1) | (leave1; walk_say "STEP leave1"; try dsimp only) | fail "no step"))
  (k_with "m_k_ne" => (refine neN ?_; (try dsimp only); lia))
  (k_with "storeName" => (k_here; (refine' (let m9' : Str → Option Value := fun y => if y = (_ : Str) then some (_ : Value) else (_ : Str → Option Value) y; stG m9' rfl ?_ ?_ (by k_dflt rfl) (by k_dflt rfl) ?_); (· k_dflt k_asm); (· k_dflt k_asm)); (revert m9'; intro _); intro _ _ _; (try k_sweep)))
  (k_with "execs cons" => (k_here; first | k_fold | dsimp only | ((fail_if_success (fail_if_success k_gentoks)); refine genT ?_; intro _) | ((with_reducible refine wpAny_execs_cons ?_); (refine' (?_ : let q9 : Flow → Shared → Prop := _; wpAny _ _ _ q9 _ _); intro _))))
  (k_with "eval BinOp" => (k_here; (fail_if_success (fail_if_success k_fold)); (refine' (?_ : let q9 : Value → Shared → Prop := _; wpAny _ _ _ q9 _ _); intro _)))
  (k_with "eval Call" => (k_here; (fail_if_success (fail_if_success k_fold)); (refine' (?_ : let q9 : Value → Shared → Prop := _; wpAny _ _ _ q9 _ _); intro _)))
  (k_with "eval Name" => (k_here; (refine' nmF ?_ ?_ ?_ ?_ ?_ ?_; rotate_right 6; (· k_dflt k_asm); (· k_dflt (exact rfl)); iterate 3 (· kernel_rfl))))
  (k_with "eval Constant int" => refine cI ?_)
  (k_with "eval Constant str" => refine cS ?_)
  (k_with "binaryOp Add int int" => refine addF ?_)
  (k_with "binaryOp Sub int int" => refine subF ?_)
  (k_with "m_enter" => ((case k6 => k_is); (case k7 => k_is); (case k9 => exact rfl); (case kB => exact locs rfl); (case c5 => decide); (case c2 => exact rfl); (case c3 => exact rfl); (case c4 => exact rfl)))
  (k_with "call builtin:list.append" => (k_here; (with_reducible show wpAny _ _ (call (Value.builtin _) [Value.ref _, _]) _ _ _); k_dflt (refine' append_K ?_ ?_ ?_ ?_ ?_; rotate_right 5; (· k_asm); (· k_asm); (· k_upd); rotate_left; (· assumption)); intro _ _ _; (try k_sweep)))
  (k_with "subscriptTail" => (k_here; (with_reducible show wpAny _ _ (subscriptTail _ _ (Value.str (PySem.Str.ofString "ab") _) (Value.bool _)) _ _ _); (with_unfolding_all refine' vV9 ?_ ?_; rotate_right 2; rotate_left; (· (with_unfolding_all rfl)))))
  (k_with "binaryOp Add str str" => (k_here; (with_reducible show wpAny _ _ (binaryOp _ (Value.str _ _) (Value.str (PySem.Str.mk #[_]) _)) _ _ _); (refine wF9 (by assumption) ?_); (intro _ _); (try dsimp only)))
  (k_with "binaryOp LShift int int" => (k_here; first | (refine' vQ9 ?_ ?_ ?_ ?_; rotate_right 4; (· lia); (· assumption); (· assumption)) | (refine' lshift_int ?_ ?_ ?_; rotate_right 3; (· lia); (· assumption))))
  (k_with "binaryOp Mult int int" => (k_here; (refine PyProof.Rows.mul_int ?_ (by assumption))))
  (k_with "binaryOp FloorDiv int int" => (k_here; first | (refine' qj9 ?_ ?_ ?_ ?_; rotate_right 4; (· (first | lia | assumption)); (· (first | assumption | decide +kernel)); (· assumption)) | (refine' vY9 ?_ ?_ ?_; rotate_right 3; (· (first | lia | assumption)); (· (first | assumption | decide +kernel)))))
  (k_with "call builtin:len" => (k_here; (with_reducible show wpAny _ _ (call (Value.builtin "len") [Value.ref _]) _ _ _); (refine' lenL ?_ ?_ ?_ ?_; rotate_right 4; (· k_asm); (· k_mem); (· (first | assumption | ((simp only [List.size_toArray, List.length_replicate]); lia)))); (intro _ _); (try simp only [List.size_toArray, List.length_replicate]); (try dsimp only)))
  (k_with "setItem ref int" => (k_here; (refine' setL ?_ ?_ ?_ ?_ ?_ ?_; rotate_right 6; (· k_asm); (· k_asm); (· k_upd); (· (first | assumption | lia)); (· assumption)); (intro _ _ _); (try k_sweep)))
  (k_with "exec While" => refine zK9 ?_)
  (k_with "exec While Compare cons nil" => refine zK9 ?_)
  (k_with "call ref" => (k_here; refine zK9 ?_))
  (k_with "m_sep" => (repeat' (first | exact List.forall_mem_nil _ | refine List.forall_mem_cons.mpr ⟨?_, ?_⟩ | k_ne)))
  (k_with "m_enterC" => ((case k6 => k_is); (case k7 => k_is); (case k9 => exact rfl); (case kB => exact kindsX rfl); (case c5 => decide); (case c2 => exact rfl); (case c3 => exact rfl); (case c4 => exact rfl)))
  trivial
theorem bY9 {prog : Program} {w : World} {A : Around} {E : Value → Shared → Prop} {s : Shared} {h₀ : Heap} {L : Addr} {news : List (Addr × Obj)} {value slice : PySem.Expr} {D : Addr} {ws : List Value} {v : Value} {n : Nat} {z : Int} {u : Tok} {Q : Value → Shared → Prop} (N : News h₀ L s.heap news) (hm : (D, W.listOf ws.toArray n) ∈ news) (i : Nat) (hz : z = (i : Int)) (hv : ws[i]? = some v) (hi : i < 1000000) (h : Q v s)
    (hs : subscripted slice false (.ref D) (.int z u) = operate [.ref D, .int z u] (getItem (.ref D) (.int z u)) := by with_unfolding_all rfl) (hg : ∀ r, letTemporaryGo value (.ref D) r = pure () := by intro _; with_unfolding_all rfl) :
    wpAny (model prog w) A (subscriptTail value slice (.ref D) (.int z u)) Q E s := by
  subst hz
  have hl : s.heap.IsList D ws.toArray := ⟨_, (N _ hm).1, rfl, _, rfl⟩
  refine subscriptTail_builtin hl.typeIs slot_list_getitem.lookup (wpAny_getItem_list hl (by lia) (by lia) (x := v) ?_ h) hs hg
  simpa using hv
theorem yS9 {hh9 : Heap} {gg9 : Array GenState} {dd9 : Drawn} {tt9 : Nat} {oo9 : OsState} {prog : Program} {w : World} {A : Around} {E : Value → Shared → Prop}  {h₀ : Heap} {L : Addr} {news : List (Addr × Obj)} {value slice : PySem.Expr} {D : Addr} {ws : List Value} {v : Value} {n : Nat} {z : Int} {u : Tok} {Q : Value → Shared → Prop} (N : News h₀ L hh9 news) (hm : (D, W.listOf ws.toArray n) ∈ news) (i : Nat) (hz : z = (i : Int)) (hv : ws[i]? = some v) (hi : i < 1000000) (h : Q v ⟨hh9, gg9, dd9, tt9, oo9⟩)
    (hs : subscripted slice false (.ref D) (.int z u) = operate [.ref D, .int z u] (getItem (.ref D) (.int z u)) := by with_unfolding_all rfl) (hg : ∀ r, letTemporaryGo value (.ref D) r = pure () := by intro _; with_unfolding_all rfl) :
    wpAny (model prog w) A (subscriptTail value slice (.ref D) (.int z u)) Q E ⟨hh9, gg9, dd9, tt9, oo9⟩ := bY9 (s := ⟨hh9, gg9, dd9, tt9, oo9⟩) N hm i hz hv hi h hs hg
local macro_rules | `(tactic| size_fits) => `(tactic| k_extra "m_fits")
theorem ln15 : True := by
  (k_with "m_ne" => (first | with_reducible assumption | k_ne))
  (k_with "m_allne" => (repeat' (first | exact List.forall_mem_nil _ | with_reducible exact AllNe.at _ (by with_reducible assumption) | with_reducible exact allLt_ne (And.right (And.right (by with_reducible assumption))) | with_reducible exact allLt_ne (And.right (And.right (And.right (by with_reducible assumption)))) | with_reducible exact allLt_ne (And.right (And.right (And.right (And.right (by with_reducible assumption))))) | with_reducible exact allLt_ne (And.right (by with_reducible assumption)) | refine List.forall_mem_cons.mpr ⟨by walk_at "m_ne", ?_⟩)))
  (k_with "m_upd" => first | (with_reducible refine Upd.head ?_; walk_at "m_allne") | (refine' Upd.tail ?_ ?_; rotate_right 2; (· (walk_at "m_ne")); (· (walk_at "m_upd"))))
  (k_with "call builtin:list.append" => (k_here; (with_reducible show wpAny _ _ (call (Value.builtin _) [Value.ref _, _]) _ _ _); k_dflt (refine' append_K ?_ ?_ ?_ ?_ ?_; rotate_right 5; (· k_asm); (· k_asm); (· (walk_at "m_upd")); rotate_left; (· (first | with_reducible assumption | exact Nat.le_of_ble_eq_true rfl))); intro _ _ _; (try k_sweep)))
  (k_with "callWith ref" => (k_here; (with_reducible show wpAny _ _ (callWith _ (Value.ref _) _ (backTo _ (starEach (_ :: _) _)) []) _ _ _); k_dflt (refine' qq9 ?_ ?_ ?_; rotate_right 3; (· k_asm); (· k_mem))))
  (k_with "And" => ((with_reducible show StandsApp _ _ _ ∧ _); k_dflt (refine ⟨(News.get (by k_asm) (by k_mem)), ?_⟩); (try dsimp only [List.nil_append, List.cons_append])))
  (k_with "StandsApp" => ((with_reducible show StandsApp _ _ _); k_dflt (exact News.get (by k_asm) (by k_mem))))
  (k_with "truthy ref" => (k_here; (with_reducible show wpAny _ _ (truthy (Value.ref _)) _ _ _); k_dflt (refine' cf9 ?_ ?_ ?_ ?_; rotate_right 4; (· k_asm); (· k_mem); (· assumption)); intro _))
  (k_with "subscriptTail Name BinOp ref int" => (k_here; (with_reducible show wpAny _ _ (subscriptTail _ _ (Value.ref _) (Value.int _ _)) _ _ _); first | (k_dflt (refine yS9 (by k_asm) (by k_mem) 0 (by rfl) (by rfl) (by decide) ?_)) | (k_dflt (refine yS9 (by k_asm) (by k_mem) 1 (by rfl) (by rfl) (by decide) ?_))))
  (k_with "subscriptTail Name Name ref int" => (k_here; (with_reducible show wpAny _ _ (subscriptTail _ _ (Value.ref _) (Value.int _ _)) _ _ _); first | (k_dflt (refine yS9 (by k_asm) (by k_mem) 0 (by rfl) (by rfl) (by decide) ?_)) | (k_dflt (refine yS9 (by k_asm) (by k_mem) 1 (by rfl) (by rfl) (by decide) ?_))))
  (k_with "subscriptTail Name UnaryOp ref int" => (k_here; (with_reducible show wpAny _ _ (subscriptTail _ _ (Value.ref _) (Value.int (-1) _)) _ _ _); k_dflt (refine' jq9 ?_ ?_ ?_ ?_; rotate_right 4; (· k_asm); (· k_mem); (· rfl))))
  (k_with "subscriptTail Name Slice str ref" => (k_here; (with_reducible show wpAny _ _ (subscriptTail _ _ (Value.str (patOf _) _) _) _ _ _); (refine bG9 (by assumption) _ _ (by k_dflt k_asm) (by k_dflt k_asm) (by with_unfolding_all (first | ((show _ = (((_ : Nat) + 1 : Nat) : Int)); rfl) | ((show _ = (((_ : Nat) + 3 : Nat) : Int)); rfl) | ((show _ = (((_ : Nat) + 4 : Nat) : Int)); rfl))) (by with_unfolding_all (first | ((show _ = (((_ : Nat) + 2 : Nat) : Int)); rfl) | ((show _ = (((_ : Nat) + 3 : Nat) : Int)); rfl) | ((show _ = (((_ : Nat) + 4 : Nat) : Int)); rfl) | ((show _ = (((_ : Nat) + 5 : Nat) : Int)); rfl))) (by decide) (by decide) rfl ?_); intro _ _ _ _ _; (try simp only [List.drop_succ_cons, List.drop_zero, List.take_succ_cons, List.take_zero, Nat.reduceSub])))
  (k_with "call builtin:str.find" => (k_here; first | (k_dflt (refine wR9 (by assumption) 2 4 2 (by decide) (by with_unfolding_all rfl) (by with_unfolding_all rfl) (by decide) rfl ?_); intro _) | (k_dflt (refine wS9 (by assumption) 5 4 (by decide) (by with_unfolding_all rfl) (by with_unfolding_all rfl) (by decide) rfl ?_); intro _) | (k_dflt (refine wR9 (by assumption) 3 5 3 (by decide) (by with_unfolding_all rfl) (by with_unfolding_all rfl) (by decide) rfl ?_); intro _) | (k_dflt (refine wS9 (by assumption) 6 5 (by decide) (by with_unfolding_all rfl) (by with_unfolding_all rfl) (by decide) rfl ?_); intro _)))
  (k_with "ite" => first | with_reducible refine ite_tt ?_ | with_reducible refine ite_ff ?_)
  (k_with "compareOp IsNot" => (k_here; (with_reducible show wpAny _ _ (compareOp CmpOp.IsNot (Value.str _ _) (Value.ref _)) _ _ _); k_dflt (refine wpAny_isNot_other (by rfl) (by intro x; cases x) ?_)))
  (k_with "compareOp IsNot str ref" => (k_here; (with_reducible show wpAny _ _ (compareOp CmpOp.IsNot (Value.str _ _) (Value.ref _)) _ _ _); k_dflt (refine wpAny_isNot_other (by rfl) (by intro x; cases x) ?_)))
  (k_with "call builtin:str.replace" => (k_here; k_dflt (refine' yL9 ?_ ?_; rotate_right 2; (· (decide +kernel))); intro _ _))
  (k_with "compareOp NotIn str str" => (k_here; first | k_dflt (refine' wU9 (b := true) ?_ ?_; rotate_right 2; (· kernel_rfl!)) | k_dflt (refine' wU9 (b := false) ?_ ?_; rotate_right 2; (· kernel_rfl!))))
  (k_with "getMethod ref" => (k_here; (with_reducible show wpAny _ _ (getMethod (Value.ref _) (PySem.Str.ofString "sub") _) _ _ _); k_dflt (refine' hw9 ?_ ?_ ?_ ?_ ?_ ?_; rotate_right 6; (· k_asm); (· k_asm); (· k_is); (· rfl); (· rfl))))
  (k_with "call builtin:re.Pattern.sub" => (k_here; refine zK9 ?_))
  (k_with "eval Lambda" => (k_here; refine zK9 ?_))
  (k_with "eval GeneratorExp" => (k_here; refine zK9 ?_))
  (k_with "call builtin:str.join" => (k_here; refine zK9 ?_))
  (k_with "pyIter ref" => (k_here; (with_reducible show wpAny _ _ (pyIter (Value.ref _)) _ _ _); refine zK9 ?_))
  (k_with "exec For Name Call cons nil" => (k_here; (rename Fr _ _ _ _ => lF'); (with_unfolding_all refine' For_invVF lF' ?_ ?_ ?_; rotate_right 3; (· (exact rfl)); (· (exact rfl)))))
  (k_with "getAttr ref" => (k_here; (with_reducible show wpAny _ _ (getAttr (Value.ref _) (PySem.Str.ofString "append") _) _ _ _); k_dflt (refine' wv9 ?_ ?_ ?_ ?_; rotate_right 4; (· k_asm); (· k_asm); (· k_mem)); intro _ _ _ _ _ l1; (try k_lt l1); (revert l1; intro _); (try k_sweep)))
  (k_with "call ref" => (k_here; (try dsimp only [List.nil_append, List.cons_append]); first | (k_dflt (refine' callAppL ?_ ?_ ?_ ?_ ?_ ?_; rotate_right 6; (· k_asm); (· k_asm); (· k_mem); (· (walk_at "m_upd")); rotate_left; (· (with_reducible assumption))); intro _ _ _; (try k_sweep)) | refine zK9 ?_))
  (k_with "exec While" => first | ((with_reducible show wpAny _ _ (exec (Stmt.While (Expr.Compare _ _ _ _) _ _ _) _) _ _ _); refine zK9 ?_) | (refine whl_start 100 ?_))
  (k_with "subscriptTail" => (k_here; (with_reducible show wpAny _ _ (subscriptTail _ _ (Value.str _ _) (Value.int _ _)) _ _ _); first | (refine qt9 (by assumption) 0 (by with_unfolding_all rfl) rfl ?_; intro _) | (refine qt9 (by assumption) 1 (by with_unfolding_all rfl) rfl ?_; intro _) | (refine qt9 (by assumption) 2 (by with_unfolding_all rfl) rfl ?_; intro _) | (refine qt9 (by assumption) 3 (by with_unfolding_all rfl) rfl ?_; intro _) | (refine qt9 (by assumption) 4 (by with_unfolding_all rfl) rfl ?_; intro _) | (refine qt9 (by assumption) 5 (by with_unfolding_all rfl) rfl ?_; intro _)))
  (k_with "subscriptTail Name Name str int" => (k_here; (with_reducible show wpAny _ _ (subscriptTail _ _ (Value.str _ _) (Value.int _ _)) _ _ _); first | (refine qt9 (by assumption) 0 (by with_unfolding_all rfl) rfl ?_; intro _) | (refine qt9 (by assumption) 1 (by with_unfolding_all rfl) rfl ?_; intro _) | (refine qt9 (by assumption) 2 (by with_unfolding_all rfl) rfl ?_; intro _) | (refine qt9 (by assumption) 3 (by with_unfolding_all rfl) rfl ?_; intro _) | (refine qt9 (by assumption) 4 (by with_unfolding_all rfl) rfl ?_; intro _) | (refine qt9 (by assumption) 5 (by with_unfolding_all rfl) rfl ?_; intro _)))
  (k_with "m_fits" => exact Nat.le_of_ble_eq_true (by decide +kernel))
  trivial
theorem qx9 {L pp k r : Nat} {z : Int} (h : L = pp + k + r) (j : Nat) (hz : z = Int.ofNat (pp + j)) (hk : Nat.blt j k = true) : z < (L : Int) := by
  subst h hz
  exact Int.ofNat_lt.mpr (Nat.lt_of_lt_of_le (Nat.add_lt_add_left (Nat.le_of_ble_eq_true hk) pp) (Nat.le_add_right _ r))
theorem ltV {prog : Program} {w : World} {A : Around} {E : Value → Shared → Prop} {s : Shared} {Q : Value → Shared → Prop} {x y : Int} {t u : Tok} (h : x < y) (hq : Q (.bool true) s) : wpAny (model prog w) A (compareOp .Lt (.int x t) (.int y u)) Q E s := lt_int (by rw [decide_eq_true h]; exact hq)
theorem geV {prog : Program} {w : World} {A : Around} {E : Value → Shared → Prop} {s : Shared} {Q : Value → Shared → Prop} {x y : Int} {t u : Tok} (h : x < y) (hq : Q (.bool false) s) : wpAny (model prog w) A (compareOp .GtE (.int x t) (.int y u)) Q E s := ge_int (by rw [decide_eq_false (Int.not_le.mpr h)]; exact hq)
theorem hg9 {prog : Program} {w : World} {A : Around} {E : Value → Shared → Prop} {s : Shared} {Q : Value → Shared → Prop} {x : Int} {t u : Tok} (hq : Q (.bool false) s) : wpAny (model prog w) A (compareOp .Lt (.int x t) (.int x u)) Q E s := lt_int (by rw [decide_eq_false (Int.lt_irrefl x)]; exact hq)
theorem hx9 {prog : Program} {w : World} {A : Around} {E : Value → Shared → Prop} {s : Shared} {Q : Value → Shared → Prop} {x : Int} {t u : Tok} (hq : Q (.bool true) s) : wpAny (model prog w) A (compareOp .Eq (.int x t) (.int x u)) Q E s := eq_int (by rw [beq_self_eq_true]; exact hq)
theorem ln16 : True := by
  (k_with "compareOp Eq int int" => (k_here; with_reducible refine hx9 ?_))
  (k_with "compareOp Lt int int" => (k_here; first | (with_reducible refine hg9 ?_) | (refine ltV (qx9 (by with_reducible assumption) 0 rfl rfl) ?_) | (refine ltV (qx9 (by with_reducible assumption) 1 rfl rfl) ?_) | (refine ltV (qx9 (by with_reducible assumption) 2 rfl rfl) ?_) | (refine ltV (qx9 (by with_reducible assumption) 3 rfl rfl) ?_) | (refine ltV (qx9 (by with_reducible assumption) 4 rfl rfl) ?_) | (refine ltV (qx9 (by with_reducible assumption) 5 rfl rfl) ?_)))
  (k_with "compareOp GtE int int" => (k_here; first | (refine geV (qx9 (by with_reducible assumption) 0 rfl rfl) ?_) | (refine geV (qx9 (by with_reducible assumption) 1 rfl rfl) ?_) | (refine geV (qx9 (by with_reducible assumption) 2 rfl rfl) ?_) | (refine geV (qx9 (by with_reducible assumption) 3 rfl rfl) ?_) | (refine geV (qx9 (by with_reducible assumption) 4 rfl rfl) ?_) | (refine geV (qx9 (by with_reducible assumption) 5 rfl rfl) ?_)))
  trivial
theorem cQ9 {prog : Program} {w : World} {A : Around} {E : Value → Shared → Prop} {s : Shared} {env : Env} {h₀ : Heap} {x : Str} {body : List Stmt} {Q : Flow → Shared → Prop}
    {r : Addr} {a₀ b₀ : Int} {t₀ u₀ v₀ : Tok} {m₀ : Str → Option Value} {news : List (Addr × Obj)} (K : (Str → Option Value) → List (Addr × Obj) → Prop)
    (hh : A.handled = none) (hr : IsRange s.heap r a₀ b₀ (-1) t₀ u₀ v₀) (ha : a₀ = 1) (hb : b₀ = 0) (F : Fr h₀ env.locals s.heap m₀) (N : News h₀ env.locals s.heap news)
    (turn : ∀ t I oI h tk, (∀ p ∈ news, p.1 < I) → Fr h₀ env.locals h (fun y => if y = x then some (.int 1 t) else m₀ y) → News h₀ env.locals h ((I, oI) :: news) →
      wpAny (model prog w) A (execs body env) (fun f s₂ => match f with
        | .ret v => Q (.ret v) s₂
        | .brk => Q .next s₂
        | _ => ∃ h' tk m' nx, s₂ = { s with heap := h', toks := tk } ∧ Fr h₀ env.locals h' m' ∧ News h₀ env.locals h' ((I, oI) :: nx) ∧ (∀ p ∈ nx, p.1 ≠ I) ∧ K m' nx) E { s with heap := h, toks := tk })
    (done : ∀ m₁ nx h tk, K m₁ nx → Fr h₀ env.locals h m₁ → News h₀ env.locals h nx → Q .next { s with heap := h, toks := tk }) :
    wpAny (model prog w) A (pyIter (.ref r)) (fun it s₂ => LoopAtV prog w A h₀ env x body Q E it s₂) E s := by
  subst ha hb
  refine wpAny_pyIter_range hr (by decide) ?_
  have W0 : Walks prog w A s.heap.objs.size [s.heap.objs.size] [s.heap.objs.size] 1 (fun i v => i < 1 ∧ ∃ t, v = .int (1 + i * (-1)) t)
      (fun i h => IsRangeIter h s.heap.objs.size (1 + (i : Nat) * (-1)) (((1 : Nat) : Int) - (i : Nat)) (-1)) := (Walks.range hh _ 1 (-1) 1).bound
  refine tP9 (m₀ := m₀) (news := news) (fun i m nx => if i = 0 then m = m₀ ∧ nx = news else K m nx) W0 ?_ (next_is_new F) (fun i h st => ⟨_, st⟩) ?_ (fun b hb hne => absurd (List.mem_singleton.mp hb) hne) (by show IsRangeIter _ _ _ _ _; simpa [Builtin.Range.rangeSize] using Heap.get?_push_size _ rfl) (F.push _) (fun p hp => ⟨Heap.get?_push_of_some _ (N p hp).1, (N p hp).2⟩) ⟨rfl, rfl⟩ ?_ (fun m₁ nx h tk hJ F N => done m₁ nx h tk (by simpa using hJ) F N)
  · intro hm
    exact absurd F.ns.lt ((List.mem_singleton.mp hm) ▸ Nat.lt_irrefl _)
  · intro p hp e
    exact absurd (Heap.lt_size (N p hp).1) (e ▸ Nat.lt_irrefl _)
  · rintro i v m₁ nx h tk oI hin hJ9 hne hJ F₁ N₁
    k_extra "y"
    refine an1 hJ9 fun _ hJ9 => ?_
    refine ex1 hJ9 fun t e9_0 => ?_
    iterate 2 clear hJ9
    subst e9_0
    k_extra "z"
    obtain rfl : i = 0 := by lia
    obtain ⟨rfl, rfl⟩ : m₁ = m₀ ∧ nx = news := by simpa using hJ
    have N₂ : News h₀ env.locals h ((s.heap.objs.size, oI) :: nx) := fun p hp => N₁ p (by
      rcases List.mem_cons.mp hp with rfl | hp
      · exact List.mem_append_right _ (.head _)
      · exact List.mem_append_left _ hp)
    refine wpAny_mono (turn t _ oI h tk (fun p hp => Heap.lt_size (N p hp).1) F₁ N₂) (fun f s₂ q => ?_) fun _ _ e => e
    have go : (∃ h' tk m' nx, s₂ = { s with heap := h', toks := tk } ∧ Fr h₀ env.locals h' m' ∧ News h₀ env.locals h' ((s.heap.objs.size, oI) :: nx) ∧ (∀ p ∈ nx, p.1 ≠ s.heap.objs.size) ∧ K m' nx) → wH9 h₀ env.locals (fun m nx' => if 0 + 1 = 0 then m = m₁ ∧ nx' = nx else K m nx') s.heap.objs.size oI { s with heap := h, toks := tk } s₂ := by
      rintro hJ9
      k_extra "y"
      refine ex4 hJ9 fun h' tk m' nx' hJ9 => ?_
      refine an4 hJ9 fun e F' N' hn hK => ?_
      iterate 2 clear hJ9
      k_extra "z"
      refine ix4 h' tk m' nx' (⟨e, F', fun p hp => N' p ?_, hn, by simpa using hK⟩)
      rcases List.mem_append.mp hp with hp | hp
      · exact .tail _ hp
      · rw [List.mem_singleton.mp hp]; exact .head _
    cases f with
    | ret v => exact q
    | brk => exact q
    | next => exact go q
    | cont => exact go q
noncomputable def hE9 (h₀ : Heap) (L : Addr) (x : Str) (m₀ : Str → Option Value) (I : Addr) (oI : Obj) (l : Addr) (rest : List (Addr × Obj)) (RO : Obj → Prop) (s s₂ : Shared) : Prop :=
  ∃ h' tk t o', s₂ = { s with heap := h', toks := tk } ∧ Fr h₀ L h' (fun y => if y = x then some (.int 1 t) else m₀ y) ∧ News h₀ L h' ((I, oI) :: (l, o') :: rest) ∧ RO o'
theorem vT9 {prog : Program} {w : World} {A : Around} {E : Value → Shared → Prop} {s : Shared} {env : Env} {h₀ : Heap} {x : Str} {body : List Stmt} {Q : Flow → Shared → Prop}
    {r : Addr} {a₀ b₀ : Int} {t₀ u₀ v₀ : Tok} {m₀ : Str → Option Value} {l : Addr} {o : Obj} {rest : List (Addr × Obj)} (RO : Obj → Prop)
    (hh : A.handled = none) (hr : IsRange s.heap r a₀ b₀ (-1) t₀ u₀ v₀) (ha : a₀ = 1) (hb : b₀ = 0) (F : Fr h₀ env.locals s.heap m₀) (N : News h₀ env.locals s.heap ((l, o) :: rest))
    (turn : ∀ t I oI h tk, (∀ p ∈ (l, o) :: rest, p.1 < I) → Fr h₀ env.locals h (fun y => if y = x then some (.int 1 t) else m₀ y) → News h₀ env.locals h ((I, oI) :: (l, o) :: rest) →
      wpAny (model prog w) A (execs body env) (fun f s₂ => match f with
        | .ret v => Q (.ret v) s₂
        | .brk => Q .next s₂
        | _ => hE9 h₀ env.locals x m₀ I oI l rest RO s s₂) E { s with heap := h, toks := tk })
    (done : ∀ t o' h tk, RO o' → Fr h₀ env.locals h (fun y => if y = x then some (.int 1 t) else m₀ y) → News h₀ env.locals h ((l, o') :: rest) → Q .next { s with heap := h, toks := tk }) :
    wpAny (model prog w) A (pyIter (.ref r)) (fun it s₂ => LoopAtV prog w A h₀ env x body Q E it s₂) E s := by
  refine cQ9 (fun m nx => (∃ t, m = fun y => if y = x then some (.int 1 t) else m₀ y) ∧ ∃ o', nx = (l, o') :: rest ∧ RO o') hh hr ha hb F N (fun t I oI h tk hI F1 N1 => ?_) ?_
  · refine wpAny_mono (turn t I oI h tk hI F1 N1) (fun f s₂ q => ?_) fun _ _ e => e
    have hI' : ∀ o', ∀ p ∈ (l, o') :: rest, p.1 ≠ I := fun o' p hp => by
      rcases List.mem_cons.mp hp with rfl | hp
      · exact Nat.ne_of_lt (hI (l, o) (.head _))
      · exact Nat.ne_of_lt (hI _ (.tail _ hp))
    cases f with
    | ret v => exact q
    | brk => exact q
    | next => obtain ⟨h', tk', t', o', e, F', N', hR⟩ := q; exact ⟨h', tk', _, _, e, F', N', hI' o', ⟨t', rfl⟩, o', rfl, hR⟩
    | cont => obtain ⟨h', tk', t', o', e, F', N', hR⟩ := q; exact ⟨h', tk', _, _, e, F', N', hI' o', ⟨t', rfl⟩, o', rfl, hR⟩
  · rintro _ _ h tk hJ9 F1 N1
    k_extra "y"
    refine an1 hJ9 fun o9_0 hJ9 => ?_
    refine ex1 hJ9 fun o' hJ9 => ?_
    refine an1 hJ9 fun e9_1 hR => ?_
    iterate 3 clear hJ9
    obtain ⟨t, rfl⟩ := o9_0
    subst e9_1
    k_extra "z"
    exact done t o' h tk hR F1 N1
theorem hA9 {m : Str → Option Value} {x1 x2 x3 x4 x5 x6 x7 x8 : Str} {v1 v2 v3 v4 v5 v6 v7 v8 : Value} (h1 : m x1 = some v1) (h2 : m x2 = some v2) (h3 : m x3 = some v3) (h4 : m x4 = some v4) (h5 : m x5 = some v5) (h6 : m x6 = some v6) (h7 : m x7 = some v7) (h8 : m x8 = some v8) : m = fun y => if y = x1 then some v1 else if y = x2 then some v2 else if y = x3 then some v3 else if y = x4 then some v4 else if y = x5 then some v5 else if y = x6 then some v6 else if y = x7 then some v7 else if y = x8 then some v8 else m y := by
  funext y; (repeat' split) <;> simp_all
theorem wk9 {g h : Heap} {L l Qa R S : Addr} {m : Str → Option Value} {x q : Str} {t1 t2 : Tok} {z nz : Int} (F : Fr g L h m) (h1 : m (Str.ofString "chunks") = some (.ref l)) (h2 : ∃ t, m (Str.ofString "j") = some (.int z t)) (h3 : ∃ t, m (Str.ofString "n") = some (.int nz t)) (h4 : m (Str.ofString "add") = some (.ref Qa)) (h5 : m (Str.ofString "res") = some (.ref R)) (h6 : m (Str.ofString "pat") = some (.str x t1)) (h7 : m (Str.ofString "STAR") = some (.ref S)) (h8 : m (Str.ofString "QUESTION_MARK") = some (.str q t2)) :
    ∃ (tj tn : Tok) (m' : Str → Option Value), Fr g L h (fun y => if y = Str.ofString "chunks" then some (.ref l) else if y = Str.ofString "j" then some (.int z tj) else if y = Str.ofString "n" then some (.int nz tn) else if y = Str.ofString "add" then some (.ref Qa) else if y = Str.ofString "res" then some (.ref R) else if y = Str.ofString "pat" then some (.str x t1) else if y = Str.ofString "STAR" then some (.ref S) else if y = Str.ofString "QUESTION_MARK" then some (.str q t2) else m' y) := by
  obtain ⟨tj, h2⟩ := h2
  obtain ⟨tn, h3⟩ := h3
  exact ix3 tj tn m ((hA9 h1 h2 h3 h4 h5 h6 h7 h8) ▸ F)
theorem xA9 {m : Str → Option Value} {x1 x2 x3 x4 x5 x6 x7 : Str} {v1 v2 v3 v4 v5 v6 v7 : Value} (h1 : m x1 = some v1) (h2 : m x2 = some v2) (h3 : m x3 = some v3) (h4 : m x4 = some v4) (h5 : m x5 = some v5) (h6 : m x6 = some v6) (h7 : m x7 = some v7) : m = fun y => if y = x1 then some v1 else if y = x2 then some v2 else if y = x3 then some v3 else if y = x4 then some v4 else if y = x5 then some v5 else if y = x6 then some v6 else if y = x7 then some v7 else m y := by
  funext y; (repeat' split) <;> simp_all
theorem js9 (V : Wd) (t : Tok) : Spc V (.ref 97) [.str (Str.ofString "a") t] 2 12 [] (fun _ => True) (fun _ v _ => ∃ t, v = .str ⟨#[97]⟩ t) := vZ9 V 97 (.inl rfl) t
theorem jr9 (V : Wd) (t : Tok) : Spc V (.ref 97) [.str (Str.ofString "b") t] 2 12 [] (fun _ => True) (fun _ v _ => ∃ t, v = .str ⟨#[98]⟩ t) := vZ9 V 98 (.inr rfl) t
noncomputable def Ptr (V : Wd) (toks : List Tk) (t1 t2 : Tok) (S : Addr) : Prop := ∀ (hsm : (flat toks).length ≤ 1000) (hss : ∀ a b, toks ≠ a ++ Tk.star :: Tk.star :: b),
   SpcG V (.ref 104) [.str (patOf toks) t1, .ref S, .str (Str.ofString ".") t2] 5 100 [(99, tabObj #[])] (fun _ => True)
     (zn9 [(99, tabObj #[])] fun v nx => ∃ R vs e tb', v = .ref R ∧ nx = (R, W.listOf (List.toArray vs) e) :: tb' ∧ PartsAre S vs toks ∧ TabInv 99 tb' ∧ AllNe R tb')
@[irreducible] noncomputable def wtr := W5 Ptr
@[irreducible] noncomputable def ctr := hF9 (C := SpcG wtr.1 (.ref 104) [.str (patOf wtr.2.1) wtr.2.2.1, .ref wtr.2.2.2.2, .str (Str.ofString ".") wtr.2.2.2.1] 5 100 [(99, tabObj #[])] (fun _ => True)
     (zn9 [(99, tabObj #[])] fun v nx => ∃ R vs e tb', v = .ref R ∧ nx = (R, W.listOf (List.toArray vs) e) :: tb' ∧ PartsAre wtr.2.2.2.2 vs wtr.2.1 ∧ TabInv 99 tb' ∧ AllNe R tb')) (fun h => by
    refine' uz9 (binds := [(Str.ofString "pat", .str (patOf wtr.2.1) wtr.2.2.1), (Str.ofString "STAR", .ref wtr.2.2.2.2), (Str.ofString "QUESTION_MARK", .str (Str.ofString ".") wtr.2.2.2.1)]) ?k6 ?k7 ?k9 ?kB ?c5 ?c2 ?c3 ?c4 h
    walk_at "m_enter"
    )
set_option maxHeartbeats 40000000 in
theorem nn9 : A5 Ptr wtr := by
  intro hsm hss
  have hlen : (patOf wtr.2.1).length = (flat wtr.2.1).length := by simp [patOf, Str.length]
  refine' uz9 (binds := [(Str.ofString "pat", .str (patOf wtr.2.1) wtr.2.2.1), (Str.ofString "STAR", .ref wtr.2.2.2.2), (Str.ofString "QUESTION_MARK", .str (Str.ofString ".") wtr.2.2.2.1)]) ?k6 ?k7 ?k9 ?kB ?c5 ?c2 ?c3 ?c4 ?_
  walk_at "m_enter"
  refine H12 (c := ctr) (by unfold ctr; rfl) ?_
  intro hd hu hp hsg F N0 hlt B X T hG ret
  (try dsimp only)
  have hlt1 : @LT.lt Nat _ 99 ctr.2.2.2.2.2.2.2.2.1 := hlt _ (.head _)
  have C := codeHd_of_K (c := 103) (P := 99) X (by kernel_rfl)
  k_steps
  unfold zC9
  rename_i R _ lR _ _ _ _ Qa _ _ lQ _ _ _ _ _ D1 _ lD _ _ _ _ _ F5 N5 _ _
  have N6 := News.pick N5 (.tail _ (.head _)) (News.pick N5 (.tail _ (.tail _ (.head _))) (News.pick N5 (.tail _ (.tail _ (.tail _ (.head _)))) News.nil))
  dsimp +zetaDelta only at F5
  refine nk9 (n₀ := wtr.2.1.length) (J := fun n m nx => ∃ (done rest : List Tk) (vs : List Value) (e : Nat) (tbl : List (Addr × Obj)) (ti tn : Tok) (m' : Str → Option Value), wtr.2.1 = done ++ rest ∧ n = rest.length ∧
    m = (fun y => if y = Str.ofString "i" then some (.int ((flat done).length : Nat) ti) else if y = Str.ofString "n" then some (.int ((flat wtr.2.1).length : Nat) tn) else if y = Str.ofString "add" then some (.ref Qa) else if y = Str.ofString "res" then some (.ref R) else if y = Str.ofString "pat" then some (.str (patOf wtr.2.1) wtr.2.2.1) else if y = Str.ofString "STAR" then some (.ref wtr.2.2.2.2) else if y = Str.ofString "QUESTION_MARK" then some (.str (Str.ofString ".") wtr.2.2.2.1) else m' y) ∧
    nx = (Qa, zw9 R) :: (R, W.listOf (List.toArray vs) e) :: tbl ∧ PartsAre wtr.2.2.2.2 vs done ∧ TabInv 99 tbl ∧ AllNe Qa tbl ∧ AllNe R tbl) PassesOwn.never F5 N6 hG
    ⟨[], wtr.2.1, [], 0, _, _, _, _, rfl, rfl, by (rw [hlen]; exact xA9 rfl rfl rfl rfl rfl rfl rfl), rfl, trivial, TabInv.new _, ⟨neN (by lia), trivial⟩, ⟨neN (by lia), trivial⟩⟩ ?_
  rintro n _ _ h tk gn hJ9 hgn F7 N7
  k_extra "y"
  refine ex8 hJ9 fun done rest vs e tbl ti tn m' hJ9 => ?_
  refine an7 hJ9 fun e9_0 e9_1 e9_2 e9_3 hv htb hq1 hq2 => ?_
  iterate 2 clear hJ9
  subst e9_1
  subst e9_2
  subst e9_3
  k_extra "z"
  have hRQ : @Ne Nat R Qa := neN (by lia)
  cases rest with
  | nil =>
    have hdn : (flat wtr.2.1).length = (flat done).length := by rw [e9_0, List.append_nil]
    rw [hdn] at F7
    generalize (flat done).length = pp at F7
    clear N5 N6 F5
    k_steps
    all_goals (try (exfalso; lia))
    rename Fr _ _ _ _ => F9
    rename News _ _ _ _ => N9
    refine ret _ _ _ gn _ ((R, W.listOf (List.toArray vs) e) :: tbl) F9 (fun p hp => N9 p (.tail _ hp)) hgn ⟨R, vs, e, tbl, rfl, rfl, by rw [e9_0, List.append_nil]; exact hv, htb, hq2⟩
  | cons tk rest =>
    have TT := nq9 (e9_0 ▸ hsm)
    rw [← e9_0] at TT
    have hq0 : (flat wtr.2.1).length = (flat done).length + tk.text.length + (flat rest).length := by rw [e9_0]; simp [flat]; lia
    have hz0 : vs.length ≤ 1000 := by rw [hv.len]; have := wY9 done; lia
    have hz : vs.toArray.size ≤ sizeLine := by rw [sizeLine_eq, List.size_toArray]; lia
    generalize hpp : (flat done).length = pp at TT hq0 F7
    clear N5 N6 F5
    cases tk with
    | lit c =>
      cases c
      · have TX : TokAt (patOf wtr.2.1) pp [97] := TT
        clear TT
        have hq0' : (flat wtr.2.1).length = pp + 1 + (flat rest).length := hq0
        clear hq0
        k_steps
        unfold zC9
        rename News _ _ _ _ => N8
        rename Fr _ _ _ _ => F8
        refine use0 (js9 wtr.1 _) B F8 N8 X T rfl (by lia) (by lia) trivial ?_
        rintro v h1' tk1' F9 N9 _ ⟨tv, rfl⟩
        clear F8 N8
        (try dsimp only)
        k_steps
        rename News _ _ _ _ => N9
        rename Fr _ _ _ _ => F9
        simp only [List.push_toArray] at N9
        have ei : (flat (done ++ [Tk.lit false])).length = pp + 1 := by rw [← hpp]; simp [flat, Tk.text]
        refine ix6 rest.length _ _ gn _ _ (⟨rfl, by simp, hgn, F9, N9, ix8 (done ++ [Tk.lit false]) rest _ _ tbl _ _ _ (⟨by simp [e9_0], rfl, xA9 (by (rw [ei]; exact rfl)) rfl rfl rfl rfl rfl rfl, rfl, hv.append (by first | exact ⟨_, rfl⟩ | exact rfl), htb, hq1, hq2⟩)⟩)
      · have TX : TokAt (patOf wtr.2.1) pp [98] := TT
        clear TT
        have hq0' : (flat wtr.2.1).length = pp + 1 + (flat rest).length := hq0
        clear hq0
        k_steps
        unfold zC9
        rename News _ _ _ _ => N8
        rename Fr _ _ _ _ => F8
        refine use0 (jr9 wtr.1 _) B F8 N8 X T rfl (by lia) (by lia) trivial ?_
        rintro v h1' tk1' F9 N9 _ ⟨tv, rfl⟩
        clear F8 N8
        (try dsimp only)
        k_steps
        rename News _ _ _ _ => N9
        rename Fr _ _ _ _ => F9
        simp only [List.push_toArray] at N9
        have ei : (flat (done ++ [Tk.lit true])).length = pp + 1 := by rw [← hpp]; simp [flat, Tk.text]
        refine ix6 rest.length _ _ gn _ _ (⟨rfl, by simp, hgn, F9, N9, ix8 (done ++ [Tk.lit true]) rest _ _ tbl _ _ _ (⟨by simp [e9_0], rfl, xA9 (by (rw [ei]; exact rfl)) rfl rfl rfl rfl rfl rfl, rfl, hv.append (by first | exact ⟨_, rfl⟩ | exact rfl), htb, hq1, hq2⟩)⟩)
    | any =>
      · have TX : TokAt (patOf wtr.2.1) pp [63] := TT
        clear TT
        have hq0' : (flat wtr.2.1).length = pp + 1 + (flat rest).length := hq0
        clear hq0
        k_steps
        rename News _ _ _ _ => N9
        rename Fr _ _ _ _ => F9
        simp only [List.push_toArray] at N9
        have ei : (flat (done ++ [Tk.any])).length = pp + 1 := by rw [← hpp]; simp [flat, Tk.text]
        refine ix6 rest.length _ _ gn _ _ (⟨rfl, by simp, hgn, F9, N9, ix8 (done ++ [Tk.any]) rest _ _ tbl _ _ _ (⟨by simp [e9_0], rfl, xA9 (by (rw [ei]; exact rfl)) rfl rfl rfl rfl rfl rfl, rfl, hv.append (by first | exact ⟨_, rfl⟩ | exact rfl), htb, hq1, hq2⟩)⟩)
    | star =>
      · have TX : TokAt (patOf wtr.2.1) pp [42] := TT
        clear TT
        have hq0' : (flat wtr.2.1).length = pp + 1 + (flat rest).length := hq0
        clear hq0
        rcases List.eq_nil_or_concat done with hdn | ⟨d0, tk0, hdn⟩
        · have hvs : vs = [] := by rw [hdn] at hv; cases vs with | nil => rfl | cons _ _ => exact hv.elim
          subst hvs
          k_steps
          rename News _ _ _ _ => N9
          rename Fr _ _ _ _ => F9
          simp only [List.push_toArray] at N9
          have ei : (flat (done ++ [Tk.star])).length = pp + 1 := by rw [← hpp]; simp [flat, Tk.text]
          refine ix6 rest.length _ _ gn _ _ (⟨rfl, by simp, hgn, F9, N9, ix8 (done ++ [Tk.star]) rest _ _ tbl _ _ _ (⟨by simp [e9_0], rfl, xA9 (by (rw [ei]; exact rfl)) rfl rfl rfl rfl rfl rfl, rfl, hv.append (by first | exact ⟨_, rfl⟩ | exact rfl), htb, hq1, hq2⟩)⟩)
        · rw [List.concat_eq_append] at hdn
          have hns : tk0 ≠ Tk.star := by
            rintro rfl
            exact hss d0 rest (by rw [e9_0, hdn]; simp)
          k_extra "y"
          refine ex2 (PartsAre.snoc (hdn ▸ hv)) fun ws v0 hJ9 => ?_
          refine an2 hJ9 fun hvs hv1 hv2 => ?_
          clear hJ9
          k_extra "z"
          subst hvs
          have hwl : ws.length ≤ 1000000 := by rw [List.length_append] at hz0; lia
          rw [if_neg hns] at hv2
          obtain ⟨t0, rfl⟩ := hv2
          k_steps
          rename News _ _ _ _ => N9
          rename Fr _ _ _ _ => F9
          simp only [List.push_toArray] at N9
          have ei : (flat (done ++ [Tk.star])).length = pp + 1 := by rw [← hpp]; simp [flat, Tk.text]
          refine ix6 rest.length _ _ gn _ _ (⟨rfl, by simp, hgn, F9, N9, ix8 (done ++ [Tk.star]) rest _ _ tbl _ _ _ (⟨by simp [e9_0], rfl, xA9 (by (rw [ei]; exact rfl)) rfl rfl rfl rfl rfl rfl, rfl, hv.append (by first | exact ⟨_, rfl⟩ | exact rfl), htb, hq1, hq2⟩)⟩)
    | br neg c =>
      cases neg
      · cases c
        · have TX : TokAt (patOf wtr.2.1) pp [91, 97, 93] := TT
          clear TT
          have hq0' : (flat wtr.2.1).length = pp + 3 + (flat rest).length := hq0
          clear hq0
          k_steps
          unfold zC9
          rename News _ _ _ _ => N8
          rename Fr _ _ _ _ => F8
          refine vD9 F8 N8 T C htb (AllNe.at _ hq1) (AllNe.at _ hq2) rfl rfl ?_
          clear N8 F8 htb hq1 hq2
          intro f o h' tk' tbl F9 N9 hoc htb hq1 hq2 hfl
          (try dsimp only)
          k_steps
          unfold zC9
          rename Fr _ _ _ _ => F10
          rename News _ _ _ _ => N10
          refine qB9 (P := 78) (T := 77) (f := f) (of := o) (F10.keep _ _ (X 78 _ (by k_is))) (F10.keep _ _ (X 77 _ (by rw [xO9]; k_is))) (N10 _ (.head _)).1 hoc (by decide +kernel) (by decide) (by decide) ?_
          intro h'' t'' tk'' hk
          have F11 := F10.keeps hk
          have N11 := N10.grown hk
          clear F10 N10
          (try dsimp only)
          k_steps
          rename News _ _ _ _ => N12
          rename Fr _ _ _ _ => F12
          simp only [List.push_toArray] at N12
          have ei : (flat (done ++ [Tk.br false false])).length = pp + 3 := by rw [← hpp]; simp [flat, Tk.text]
          refine ix6 rest.length _ _ gn _ _ (⟨rfl, by simp, hgn, F12, fun p hp => N12 p (by first | exact hp | exact .tail _ hp | exact .tail _ (.tail _ hp) | exact .tail _ (.tail _ (.tail _ hp)) | exact .tail _ (.tail _ (.tail _ (.tail _ hp)))), ix8 (done ++ [Tk.br false false]) rest _ _ tbl _ _ _ (⟨by simp [e9_0], rfl, xA9 (by (rw [ei]; exact rfl)) rfl rfl rfl rfl rfl rfl, rfl, hv.append (by exact ⟨_, congrArg (fun z => Value.str z _) (by decide +kernel)⟩), htb, hq1, hq2⟩)⟩)
        · have TX : TokAt (patOf wtr.2.1) pp [91, 98, 93] := TT
          clear TT
          have hq0' : (flat wtr.2.1).length = pp + 3 + (flat rest).length := hq0
          clear hq0
          k_steps
          unfold zC9
          rename News _ _ _ _ => N8
          rename Fr _ _ _ _ => F8
          refine vD9 F8 N8 T C htb (AllNe.at _ hq1) (AllNe.at _ hq2) rfl rfl ?_
          clear N8 F8 htb hq1 hq2
          intro f o h' tk' tbl F9 N9 hoc htb hq1 hq2 hfl
          (try dsimp only)
          k_steps
          unfold zC9
          rename Fr _ _ _ _ => F10
          rename News _ _ _ _ => N10
          refine qB9 (P := 78) (T := 77) (f := f) (of := o) (F10.keep _ _ (X 78 _ (by k_is))) (F10.keep _ _ (X 77 _ (by rw [xO9]; k_is))) (N10 _ (.head _)).1 hoc (by decide +kernel) (by decide) (by decide) ?_
          intro h'' t'' tk'' hk
          have F11 := F10.keeps hk
          have N11 := N10.grown hk
          clear F10 N10
          (try dsimp only)
          k_steps
          rename News _ _ _ _ => N12
          rename Fr _ _ _ _ => F12
          simp only [List.push_toArray] at N12
          have ei : (flat (done ++ [Tk.br false true])).length = pp + 3 := by rw [← hpp]; simp [flat, Tk.text]
          refine ix6 rest.length _ _ gn _ _ (⟨rfl, by simp, hgn, F12, fun p hp => N12 p (by first | exact hp | exact .tail _ hp | exact .tail _ (.tail _ hp) | exact .tail _ (.tail _ (.tail _ hp)) | exact .tail _ (.tail _ (.tail _ (.tail _ hp)))), ix8 (done ++ [Tk.br false true]) rest _ _ tbl _ _ _ (⟨by simp [e9_0], rfl, xA9 (by (rw [ei]; exact rfl)) rfl rfl rfl rfl rfl rfl, rfl, hv.append (by exact ⟨_, congrArg (fun z => Value.str z _) (by decide +kernel)⟩), htb, hq1, hq2⟩)⟩)
      · cases c
        · have TX : TokAt (patOf wtr.2.1) pp [91, 33, 97, 93] := TT
          clear TT
          have hq0' : (flat wtr.2.1).length = pp + 4 + (flat rest).length := hq0
          clear hq0
          k_steps
          unfold zC9
          rename News _ _ _ _ => N8
          rename Fr _ _ _ _ => F8
          refine vD9 F8 N8 T C htb (AllNe.at _ hq1) (AllNe.at _ hq2) rfl rfl ?_
          clear N8 F8 htb hq1 hq2
          intro f o h' tk' tbl F9 N9 hoc htb hq1 hq2 hfl
          (try dsimp only)
          k_steps
          unfold zC9
          rename Fr _ _ _ _ => F10
          rename News _ _ _ _ => N10
          refine qB9 (P := 78) (T := 77) (f := f) (of := o) (F10.keep _ _ (X 78 _ (by k_is))) (F10.keep _ _ (X 77 _ (by rw [xO9]; k_is))) (N10 _ (.head _)).1 hoc (by decide +kernel) (by decide) (by decide) ?_
          intro h'' t'' tk'' hk
          have F11 := F10.keeps hk
          have N11 := N10.grown hk
          clear F10 N10
          (try dsimp only)
          k_steps
          rename News _ _ _ _ => N12
          rename Fr _ _ _ _ => F12
          simp only [List.push_toArray] at N12
          have ei : (flat (done ++ [Tk.br true false])).length = pp + 4 := by rw [← hpp]; simp [flat, Tk.text]
          refine ix6 rest.length _ _ gn _ _ (⟨rfl, by simp, hgn, F12, fun p hp => N12 p (by first | exact hp | exact .tail _ hp | exact .tail _ (.tail _ hp) | exact .tail _ (.tail _ (.tail _ hp)) | exact .tail _ (.tail _ (.tail _ (.tail _ hp)))), ix8 (done ++ [Tk.br true false]) rest _ _ tbl _ _ _ (⟨by simp [e9_0], rfl, xA9 (by (rw [ei]; exact rfl)) rfl rfl rfl rfl rfl rfl, rfl, hv.append (by exact ⟨_, congrArg (fun z => Value.str z _) (by decide +kernel)⟩), htb, hq1, hq2⟩)⟩)
        · have TX : TokAt (patOf wtr.2.1) pp [91, 33, 98, 93] := TT
          clear TT
          have hq0' : (flat wtr.2.1).length = pp + 4 + (flat rest).length := hq0
          clear hq0
          k_steps
          unfold zC9
          rename News _ _ _ _ => N8
          rename Fr _ _ _ _ => F8
          refine vD9 F8 N8 T C htb (AllNe.at _ hq1) (AllNe.at _ hq2) rfl rfl ?_
          clear N8 F8 htb hq1 hq2
          intro f o h' tk' tbl F9 N9 hoc htb hq1 hq2 hfl
          (try dsimp only)
          k_steps
          unfold zC9
          rename Fr _ _ _ _ => F10
          rename News _ _ _ _ => N10
          refine qB9 (P := 78) (T := 77) (f := f) (of := o) (F10.keep _ _ (X 78 _ (by k_is))) (F10.keep _ _ (X 77 _ (by rw [xO9]; k_is))) (N10 _ (.head _)).1 hoc (by decide +kernel) (by decide) (by decide) ?_
          intro h'' t'' tk'' hk
          have F11 := F10.keeps hk
          have N11 := N10.grown hk
          clear F10 N10
          (try dsimp only)
          k_steps
          rename News _ _ _ _ => N12
          rename Fr _ _ _ _ => F12
          simp only [List.push_toArray] at N12
          have ei : (flat (done ++ [Tk.br true true])).length = pp + 4 := by rw [← hpp]; simp [flat, Tk.text]
          refine ix6 rest.length _ _ gn _ _ (⟨rfl, by simp, hgn, F12, fun p hp => N12 p (by first | exact hp | exact .tail _ hp | exact .tail _ (.tail _ hp) | exact .tail _ (.tail _ (.tail _ hp)) | exact .tail _ (.tail _ (.tail _ (.tail _ hp)))), ix8 (done ++ [Tk.br true true]) rest _ _ tbl _ _ _ (⟨by simp [e9_0], rfl, xA9 (by (rw [ei]; exact rfl)) rfl rfl rfl rfl rfl rfl, rfl, hv.append (by exact ⟨_, congrArg (fun z => Value.str z _) (by decide +kernel)⟩), htb, hq1, hq2⟩)⟩)
    | rng neg =>
      · cases neg
        · have TX : TokAt (patOf wtr.2.1) pp [91, 97, 45, 98, 93] := TT
          clear TT
          have hq0' : (flat wtr.2.1).length = pp + 5 + (flat rest).length := hq0
          clear hq0
          k_steps
          unfold zC9
          rename Fr _ _ _ _ => F8
          k_extra "y"
          refine ex3 (wk9 (z := ((pp + 4 : Nat) : Int)) F8 rfl ⟨_, rfl⟩ ⟨_, rfl⟩ rfl rfl rfl rfl rfl) fun tj tn2 m2 F9 => ?_
          k_extra "z"
          clear F8
          rename News _ _ _ _ => N9
          simp only [List.push_toArray, List.nil_append, List.cons_append] at N9
          rename IsRange _ _ _ _ _ _ _ _ => hr
          refine vT9 (fun o' => ∃ u1 u2 e, o' = W.listOf [Value.str (Str.mk #[97]) u1, Value.str (Str.mk #[98]) u2].toArray e) rfl hr rfl rfl F9 N9 ?_ ?_
          · intro t I oI h tk hI F10 N10
            clear F9 N9
            k_lt hI
            k_steps
            rename Fr _ _ _ _ => F11
            rename News _ _ _ _ => N11
            refine ix4 _ _ _ _ (⟨rfl, F11, N11, ?_⟩)
            exact ix3 _ _ _ (congrArg (fun z => W.listOf [Value.str ⟨#[97]⟩ _, Value.str z _].toArray _) (show Str.ofString "b" = ⟨#[98]⟩ from by decide +kernel))
          · intro t o' h tk hR F10 N10
            clear F9 N9 hr
            k_extra "y"
            refine ex3 (hR) fun ta tb ee e9_0 => ?_
            try clear hR
            subst e9_0
            k_extra "z"
            (try dsimp only)
            k_steps
            unfold zC9
            rename News _ _ _ _ => N11
            rename Fr _ _ _ _ => F11
            refine wh9 F11 N11 T C htb (by walk_at "m_allne") (AllNe.at _ hq1) (AllNe.at _ hq2) (.cons _ _ (.cons _ _ .nil)) hgn rfl ?room rfl rfl (by decide) rfl rfl rfl ?hit ?helt ?kk
            case room => show ctr.1 < recursionLimit; lia
            case hit =>
              intro Q' hq
              exact nameX_L F11 rfl hq
            case helt =>
              intro A' E' C code y t u m₂ hA hy hn hm
              exact wg9 wtr.1 hn hm (by simp only [List.mem_cons, List.mem_singleton, List.not_mem_nil, or_false] at hy; rcases hy with rfl | rfl <;> decide +kernel) (by simp only [List.mem_cons, List.mem_singleton, List.not_mem_nil, or_false] at hy; rcases hy with rfl | rfl <;> decide +kernel)
            case kk =>
              clear N11 F11 htb hq1 hq2
              intro ga h₅ tk5 gn5 tbl F12 N12 htb hq0 hq1 hq2 hgn5 JJ
              (try dsimp only)
              k_steps
              unfold zC9
              refine wc9 (s := { ctr.2.2.2.2.2.2.2.2.2.2.1 with heap := _, toks := _, gens := _ }) F12 N12 hgn5 JJ (by decide +kernel) (by decide) ?_
              clear F12 N12 hgn5 JJ
              intro h6 tk6 gn6 t6 F13 N13 hgn6
              rw [show Txt.join (Str.ofString "-") [⟨#[97]⟩, ⟨#[98]⟩] = ⟨#[97, 45, 98]⟩ from by decide +kernel]
              (try dsimp only)
              k_steps
              unfold zC9
              rename News _ _ _ _ => N8
              rename Fr _ _ _ _ => F8
              refine wb9 F8 N8 T C htb (AllNe.at _ hq0) (AllNe.at _ hq1) (AllNe.at _ hq2) rfl rfl ?_
              clear N8 F8 htb hq1 hq2
              intro f o h' tk' tbl F9 N9 hoc htb hq0 hq1 hq2 hfl
              (try dsimp only)
              k_steps
              unfold zC9
              rename Fr _ _ _ _ => F10
              rename News _ _ _ _ => N10
              refine qB9 (P := 78) (T := 77) (f := f) (of := o) (F10.keep _ _ (X 78 _ (by k_is))) (F10.keep _ _ (X 77 _ (by rw [xO9]; k_is))) (N10 _ (.head _)).1 hoc (by decide +kernel) (by decide) (by decide) ?_
              intro h'' t'' tk'' hk
              have F11 := F10.keeps hk
              have N11 := N10.grown hk
              clear F10 N10
              (try dsimp only)
              k_steps
              rename News _ _ _ _ => N12
              rename Fr _ _ _ _ => F12
              simp only [List.push_toArray] at N12
              have ei : (flat (done ++ [Tk.rng false])).length = pp + 5 := by rw [← hpp]; simp [flat, Tk.text]
              refine ix6 rest.length _ _ gn6 _ _ (⟨rfl, by simp, hgn6, F12, fun p hp => N12 p (by first | exact hp | exact .tail _ hp | exact .tail _ (.tail _ hp) | exact .tail _ (.tail _ (.tail _ hp)) | exact .tail _ (.tail _ (.tail _ (.tail _ hp)))), ix8 (done ++ [Tk.rng false]) rest _ _ tbl _ _ _ (⟨by simp [e9_0], rfl, xA9 (by (rw [ei]; exact rfl)) rfl rfl rfl rfl rfl rfl, rfl, hv.append (by exact ⟨_, congrArg (fun z => Value.str z _) (by decide +kernel)⟩), htb, hq1, hq2⟩)⟩)
        · have TX : TokAt (patOf wtr.2.1) pp [91, 33, 98, 45, 97, 93] := TT
          clear TT
          have hq0' : (flat wtr.2.1).length = pp + 6 + (flat rest).length := hq0
          clear hq0
          k_steps
          unfold zC9
          rename Fr _ _ _ _ => F8
          k_extra "y"
          refine ex3 (wk9 (z := ((pp + 5 : Nat) : Int)) F8 rfl ⟨_, rfl⟩ ⟨_, rfl⟩ rfl rfl rfl rfl rfl) fun tj tn2 m2 F9 => ?_
          k_extra "z"
          clear F8
          rename News _ _ _ _ => N9
          simp only [List.push_toArray, List.nil_append, List.cons_append] at N9
          rename IsRange _ _ _ _ _ _ _ _ => hr
          refine vT9 (fun o' => ∃ u1 e, o' = W.listOf [Value.str (Str.mk #[33]) u1].toArray e) rfl hr rfl rfl F9 N9 ?_ ?_
          · intro t I oI h tk hI F10 N10
            clear F9 N9
            k_lt hI
            k_steps
            rename Fr _ _ _ _ => F11
            rename News _ _ _ _ => N11
            refine ix4 _ _ _ _ (⟨rfl, F11, N11, ?_⟩)
            exact ⟨_, _, congrArg (fun z => W.listOf [Value.str z _].toArray _) (by decide +kernel)⟩
          · intro t o' h tk hR F10 N10
            clear F9 N9 hr
            k_extra "y"
            refine ex2 (hR) fun ta ee e9_0 => ?_
            try clear hR
            subst e9_0
            k_extra "z"
            (try dsimp only)
            k_steps
            unfold zC9
            rename News _ _ _ _ => N11
            rename Fr _ _ _ _ => F11
            refine wh9 F11 N11 T C htb (by walk_at "m_allne") (AllNe.at _ hq1) (AllNe.at _ hq2) (.cons _ _ .nil) hgn rfl ?room rfl rfl (by decide) rfl rfl rfl ?hit ?helt ?kk
            case room => show ctr.1 < recursionLimit; lia
            case hit =>
              intro Q' hq
              exact nameX_L F11 rfl hq
            case helt =>
              intro A' E' C code y t u m₂ hA hy hn hm
              exact wg9 wtr.1 hn hm (by simp only [List.mem_cons, List.mem_singleton, List.not_mem_nil, or_false] at hy; rcases hy with rfl <;> decide +kernel) (by simp only [List.mem_cons, List.mem_singleton, List.not_mem_nil, or_false] at hy; rcases hy with rfl <;> decide +kernel)
            case kk =>
              clear N11 F11 htb hq1 hq2
              intro ga h₅ tk5 gn5 tbl F12 N12 htb hq0 hq1 hq2 hgn5 JJ
              (try dsimp only)
              k_steps
              unfold zC9
              refine wc9 (s := { ctr.2.2.2.2.2.2.2.2.2.2.1 with heap := _, toks := _, gens := _ }) F12 N12 hgn5 JJ (by decide +kernel) (by decide) ?_
              clear F12 N12 hgn5 JJ
              intro h6 tk6 gn6 t6 F13 N13 hgn6
              rw [show Txt.join (Str.ofString "-") [⟨#[33]⟩] = ⟨#[33]⟩ from by decide +kernel]
              (try dsimp only)
              k_steps
              unfold zC9
              rename News _ _ _ _ => N8
              rename Fr _ _ _ _ => F8
              refine wb9 F8 N8 T C htb (AllNe.at _ hq0) (AllNe.at _ hq1) (AllNe.at _ hq2) rfl rfl ?_
              clear N8 F8 htb hq1 hq2
              intro f o h' tk' tbl F9 N9 hoc htb hq0 hq1 hq2 hfl
              (try dsimp only)
              k_steps
              unfold zC9
              rename Fr _ _ _ _ => F10
              rename News _ _ _ _ => N10
              refine qB9 (P := 78) (T := 77) (f := f) (of := o) (F10.keep _ _ (X 78 _ (by k_is))) (F10.keep _ _ (X 77 _ (by rw [xO9]; k_is))) (N10 _ (.head _)).1 hoc (by decide +kernel) (by decide) (by decide) ?_
              intro h'' t'' tk'' hk
              have F11 := F10.keeps hk
              have N11 := N10.grown hk
              clear F10 N10
              (try dsimp only)
              k_steps
              rename News _ _ _ _ => N12
              rename Fr _ _ _ _ => F12
              simp only [List.push_toArray] at N12
              have ei : (flat (done ++ [Tk.rng true])).length = pp + 6 := by rw [← hpp]; simp [flat, Tk.text]
              refine ix6 rest.length _ _ gn6 _ _ (⟨rfl, by simp, hgn6, F12, fun p hp => N12 p (by first | exact hp | exact .tail _ hp | exact .tail _ (.tail _ hp) | exact .tail _ (.tail _ (.tail _ hp)) | exact .tail _ (.tail _ (.tail _ (.tail _ hp)))), ix8 (done ++ [Tk.rng true]) rest _ _ tbl _ _ _ (⟨by simp [e9_0], rfl, xA9 (by (rw [ei]; exact rfl)) rfl rfl rfl rfl rfl rfl, rfl, hv.append (by exact ⟨_, congrArg (fun z => Value.str z _) (by decide +kernel)⟩), htb, hq1, hq2⟩)⟩)
theorem hN9 (V : Wd) (toks : List Tk) (hsm : (flat toks).length ≤ 1000) (hss : ∀ a b, toks ≠ a ++ Tk.star :: Tk.star :: b) (t1 t2 : Tok) (S : Addr) :
   SpcG V (.ref 104) [.str (patOf toks) t1, .ref S, .str (Str.ofString ".") t2] 5 100 [(99, tabObj #[])] (fun _ => True)
     (zn9 [(99, tabObj #[])] fun v nx => ∃ R vs e tb', v = .ref R ∧ nx = (R, W.listOf (List.toArray vs) e) :: tb' ∧ PartsAre S vs toks ∧ TabInv 99 tb' ∧ AllNe R tb') := H5 (by unfold wtr; rfl) @nn9 V toks t1 t2 S hsm hss
end
section
theorem ln17 : True := by
  k_with_none
  (k_with "ne9" => repeat' (first | refine nep ?_ ?_ | exact neWd | exact xf9 | exact xh9 | exact xg9 | exact qM9 | exact qN9 | exact inferInstance))
  (k_with "ite" => first | with_reducible refine ite_tt ?_ | with_reducible refine ite_ff ?_ | (k_closed; first | refine ite_pos (by k_dflt decide) ?_ | refine ite_neg (by k_dflt decide) ?_))
  (k_with "eval Name" => (k_here; first | (refine' nmC ?_ ?_ ?_ ?_ ?_ ?_ ?_ ?_; rotate_right 8; (· k_dflt k_asm); (· k_dflt (exact rfl)); (· k_dflt k_mem); (· k_dflt (first | with_reducible assumption | exact rfl)); (· kernel_rfl); (· kernel_rfl!); (· kernel_rfl)) | (refine' nmK ?_ ?_ ?_ ?_ ?_ ?_ ?_ ?_; rotate_right 8; (iterate 3 (· k_dflt k_asm)); (· k_dflt k_is); iterate 3 (· kernel_rfl)) | (refine' nmB ?_ ?_ ?_ ?_ ?_ ?_ ?_ ?_ ?_ ?_; rotate_right 10; (iterate 3 (· k_dflt k_asm)); (· k_dflt k_is); (· k_dflt boot_fast); (· decide); iterate 3 (· kernel_rfl))))
  (k_with "exec Assign cons ListComp" => k_extra "exec Assign")
  (k_with "exec If" => refine wpAny_If ?_)
  (k_with "isTrue Compare" => refine wpAny_isTrue_Compare1 ?_)
  (k_with "exec Assign" => with_reducible refine wpAny_Assign_Name ?_ (by k_dflt rfl))
  (k_with "execs cons Assign cons" => k_extra "execs cons")
  (k_with "eval Call Attribute" => with_reducible refine MethodCall_ ?_ (by k_dflt rfl))
  (k_with "exec Expr" => with_reducible refine wpAny_Expr_any ?_ (by k_dflt rfl) (by k_dflt rfl))
  (k_with "isTrue" => with_reducible refine isTrue_plain ?_ (by k_dflt rfl))
  (k_with "eval Call Name" => k_extra "eval Call")
  (k_with "eval Call" => with_reducible refine Call_ ?_ (by k_dflt rfl))
  (k_with "spliced" => with_reducible refine args_cons ?_ (by k_dflt rfl))
  (k_with "callWith" => with_reducible (first | refine cwB1 ?_ (by k_dflt rfl) | refine callWith_method1 ?_ (by k_dflt rfl) (by k_dflt rfl)))
  (k_with "newList" => (k_here; refine newList_K (by k_dflt k_asm) (by k_dflt k_asm) ?_ (by k_dflt (exact Nat.le_of_ble_eq_true rfl)); intro _ _ _ _ l1; (try k_lt l1); (revert l1; intro _); (try k_sweep)))
  (k_with "z" => (with_reducible refine hG9 ?_; clear hG9 G9))
  (k_with "y" => (with_reducible refine zh9 fun G9 hG9 => ?_))
  (k_with "w" => (have h3 := @id (zM9 = ⟨_, [_, _, _, _, _, _, _, _, _, _, _, _, _, _, _, _, _, _, _, _, _, _, _, _, _, _, _, _, _, _, _, _, _, _, _, _, _], _, _, _⟩) rfl; rw [h3] at hsc; subst hsc; clear h3))
  (k_with "v" => (refine' let M9 : Model := _; let A9 : Around := _; let e9 : Env := _; (?_ : wpAny M9 A9 (execs _ e9) _ _ _)))
  (k_with "u" => (try (with_reducible refine' (?_ : wpAny M9 A9 _ _ _ _))))
  (k_with "m_k_steps" => repeat' (first | ((fail_if_success (fail_if_success k_unfold)); (first | (with_reducible refine' (?_ : wpAny _ _ _ _ _ _)) | k_unfold); (try dsimp only)) | (k_end; wrow_close) | walk1 | (dsimp only; walk1) | (leave1; walk_say "STEP leave1"; try dsimp only) | fail "no step"))
  (k_with "m_k_ne" => (refine neN ?_; (try dsimp only); lia))
  (k_with "storeName" => (k_here; (refine' (let m9' : Str → Option Value := fun y => if y = (_ : Str) then some (_ : Value) else (_ : Str → Option Value) y; stG m9' rfl ?_ ?_ (by k_dflt rfl) (by k_dflt rfl) ?_); (· k_dflt k_asm); (· k_dflt k_asm)); (revert m9'; intro _); intro _ _ _; (try k_sweep)))
  (k_with "execs cons" => (k_here; first | k_fold | dsimp only | ((fail_if_success (fail_if_success k_gentoks)); refine genT ?_; intro _) | ((with_reducible refine wpAny_execs_cons ?_); (refine' (?_ : let q9 : Flow → Shared → Prop := _; wpAny _ _ _ q9 _ _); intro _))))
  (k_with "eval BinOp" => (k_here; (fail_if_success (fail_if_success k_fold)); (refine' (?_ : let q9 : Value → Shared → Prop := _; wpAny _ _ _ q9 _ _); intro _)))
  (k_with "eval Call" => (k_here; (fail_if_success (fail_if_success k_fold)); (refine' (?_ : let q9 : Value → Shared → Prop := _; wpAny _ _ _ q9 _ _); intro _)))
  (k_with "isTrue" => (k_here; (fail_if_success (fail_if_success k_fold)); (refine' (?_ : let q9 : Bool → Shared → Prop := _; wpAny _ _ _ q9 _ _); intro _)))
  (k_with "isTrue Compare" => (k_here; (fail_if_success (fail_if_success k_fold)); (refine' (?_ : let q9 : Bool → Shared → Prop := _; wpAny _ _ _ q9 _ _); intro _)))
  (k_with "isTrue BoolOp" => (k_here; (fail_if_success (fail_if_success k_fold)); (refine' (?_ : let q9 : Bool → Shared → Prop := _; wpAny _ _ _ q9 _ _); intro _)))
  (k_with "isTrue UnaryOp" => (k_here; (fail_if_success (fail_if_success k_fold)); (refine' (?_ : let q9 : Bool → Shared → Prop := _; wpAny _ _ _ q9 _ _); intro _)))
  (k_with "eval Name" => (k_here; (refine' nmF ?_ ?_ ?_ ?_ ?_ ?_; rotate_right 6; (· k_dflt k_asm); (· k_dflt (exact rfl)); iterate 3 (· kernel_rfl))))
  (k_with "eval Constant int" => refine cI ?_)
  (k_with "eval Constant str" => refine cS ?_)
  (k_with "binaryOp Add int int" => refine addF ?_)
  (k_with "binaryOp Sub int int" => refine subF ?_)
  (k_with "m_enter" => ((case k6 => k_is); (case k7 => k_is); (case k9 => exact rfl); (case kB => exact locs rfl); (case c5 => decide); (case c2 => exact rfl); (case c3 => exact rfl); (case c4 => exact rfl)))
  (k_with "call builtin:list.append" => (k_here; (with_reducible show wpAny _ _ (call (Value.builtin _) [Value.ref _, _]) _ _ _); k_dflt (refine' append_K ?_ ?_ ?_ ?_ ?_; rotate_right 5; (· k_asm); (· k_asm); (· k_upd); rotate_left; (· assumption)); intro _ _ _; (try k_sweep)))
  (k_with "call builtin:list.append" => (k_here; (with_reducible show wpAny _ _ (call (Value.builtin _) [Value.ref _, _]) _ _ _); k_dflt (refine' append_K ?_ ?_ ?_ ?_ ?_; rotate_right 5; (· k_asm); (· k_asm); (· (walk_at "m_upd")); rotate_left; (· (first | with_reducible assumption | exact Nat.le_of_ble_eq_true rfl))); intro _ _ _; (try k_sweep)))
  (k_with "binaryOp Add str str" => (k_here; (with_reducible show wpAny _ _ (binaryOp _ (Value.str _ _) (Value.str (PySem.Str.mk #[_]) _)) _ _ _); (refine wF9 (by assumption) ?_); (intro _ _); (try dsimp only)))
  (k_with "binaryOp LShift int int" => (k_here; first | (refine' vQ9 ?_ ?_ ?_ ?_; rotate_right 4; (· lia); (· assumption); (· assumption)) | (refine' lshift_int ?_ ?_ ?_; rotate_right 3; (· lia); (· assumption))))
  (k_with "binaryOp Mult int int" => (k_here; (refine PyProof.Rows.mul_int ?_ (by assumption))))
  (k_with "binaryOp FloorDiv int int" => (k_here; first | (refine' qj9 ?_ ?_ ?_ ?_; rotate_right 4; (· (first | lia | assumption)); (· (first | assumption | decide +kernel)); (· assumption)) | (refine' vY9 ?_ ?_ ?_; rotate_right 3; (· (first | lia | assumption)); (· (first | assumption | decide +kernel)))))
  (k_with "call builtin:len" => (k_here; (with_reducible show wpAny _ _ (call (Value.builtin "len") [Value.ref _]) _ _ _); (refine' lenL ?_ ?_ ?_ ?_; rotate_right 4; (· k_asm); (· k_mem); (· (first | assumption | ((simp only [List.size_toArray, List.length_replicate]); lia)))); (intro _ _); (try simp only [List.size_toArray, List.length_replicate]); (try dsimp only)))
  (k_with "setItem ref int" => (k_here; (refine' setL ?_ ?_ ?_ ?_ ?_ ?_; rotate_right 6; (· k_asm); (· k_asm); (· k_upd); (· (first | assumption | lia)); (· assumption)); (intro _ _ _); (try k_sweep)))
  (k_with "m_sep" => (repeat' (first | exact List.forall_mem_nil _ | refine List.forall_mem_cons.mpr ⟨?_, ?_⟩ | k_ne)))
  (k_with "m_enterC" => ((case k6 => k_is); (case k7 => k_is); (case k9 => exact rfl); (case kB => exact kindsX rfl); (case c5 => decide); (case c2 => exact rfl); (case c3 => exact rfl); (case c4 => exact rfl)))
  (k_with "m_ne" => (first | with_reducible assumption | k_ne))
  (k_with "m_allne" => (repeat' (first | exact List.forall_mem_nil _ | with_reducible exact AllNe.at _ (by with_reducible assumption) | with_reducible exact allLt_ne (And.right (And.right (by with_reducible assumption))) | with_reducible exact allLt_ne (And.right (And.right (And.right (by with_reducible assumption)))) | with_reducible exact allLt_ne (And.right (And.right (And.right (And.right (by with_reducible assumption))))) | with_reducible exact allLt_ne (And.right (by with_reducible assumption)) | refine List.forall_mem_cons.mpr ⟨by walk_at "m_ne", ?_⟩)))
  (k_with "m_upd" => first | (with_reducible refine Upd.head ?_; walk_at "m_allne") | (refine' Upd.tail ?_ ?_; rotate_right 2; (· (walk_at "m_ne")); (· (walk_at "m_upd"))))
  trivial
theorem bX9 {prog : Program} {w : World} {A : Around} {E : Value → Shared → Prop} {s : Shared} {h₀ : Heap} {L : Addr} {news : List (Addr × Obj)} {value slice : PySem.Expr} {D : Addr} {ws : List Value} {v : Value} {n : Nat} {z : Int} {u : Tok} {Q : Value → Shared → Prop} (N : News h₀ L s.heap news) (hm : (D, W.listOf ws.toArray n) ∈ news) (i : Nat) (hz : z = (i : Int)) (hv : ws[i]? = some v) (hi : ws.length ≤ 1000000) (h : Q v s)
    (hs : subscripted slice false (.ref D) (.int z u) = operate [.ref D, .int z u] (getItem (.ref D) (.int z u)) := by with_unfolding_all rfl) (hg : ∀ r, letTemporaryGo value (.ref D) r = pure () := by intro _; with_unfolding_all rfl) :
    wpAny (model prog w) A (subscriptTail value slice (.ref D) (.int z u)) Q E s := by
  subst hz
  have hl : s.heap.IsList D ws.toArray := ⟨_, (N _ hm).1, rfl, _, rfl⟩
  have hlt : i < ws.length := (List.getElem?_eq_some_iff.mp hv).1
  refine subscriptTail_builtin hl.typeIs slot_list_getitem.lookup (wpAny_getItem_list hl (by lia) (by lia) (x := v) ?_ h) hs hg
  simpa using hv
theorem qO9 {hh9 : Heap} {gg9 : Array GenState} {dd9 : Drawn} {tt9 : Nat} {oo9 : OsState} {prog : Program} {w : World} {A : Around} {E : Value → Shared → Prop}  {h₀ : Heap} {L : Addr} {news : List (Addr × Obj)} {value slice : PySem.Expr} {D : Addr} {ws : List Value} {v : Value} {n : Nat} {z : Int} {u : Tok} {Q : Value → Shared → Prop} (N : News h₀ L hh9 news) (hm : (D, W.listOf ws.toArray n) ∈ news) (i : Nat) (hz : z = (i : Int)) (hv : ws[i]? = some v) (hi : ws.length ≤ 1000000) (h : Q v ⟨hh9, gg9, dd9, tt9, oo9⟩)
    (hs : subscripted slice false (.ref D) (.int z u) = operate [.ref D, .int z u] (getItem (.ref D) (.int z u)) := by with_unfolding_all rfl) (hg : ∀ r, letTemporaryGo value (.ref D) r = pure () := by intro _; with_unfolding_all rfl) :
    wpAny (model prog w) A (subscriptTail value slice (.ref D) (.int z u)) Q E ⟨hh9, gg9, dd9, tt9, oo9⟩ := bX9 (s := ⟨hh9, gg9, dd9, tt9, oo9⟩) N hm i hz hv hi h hs hg
theorem fit2 {a b : Str} (ha : a.length ≤ 5000000) (hb : b.length ≤ 5000000) : (a ++ b).length ≤ sizeLine := by
  rw [Str.length_append, sizeLine_eq]; exact Nat.le_trans (Nat.add_le_add ha hb) (Nat.le_of_ble_eq_true rfl)
theorem fit3 {a b c : Str} (ha : a.length ≤ 5000000) (hb : b.length ≤ 5000000) (hc : c.length ≤ 5000000) : (a ++ b ++ c).length ≤ sizeLine := by
  rw [Str.length_append, Str.length_append, sizeLine_eq]; exact Nat.le_trans (Nat.add_le_add (Nat.add_le_add ha hb) hc) (Nat.le_of_ble_eq_true rfl)
theorem fitE {b : Str} (hb : b.length ≤ 5000000) : (Str.empty ++ b).length ≤ sizeLine := by
  rw [Str.empty_append, sizeLine_eq]; exact Nat.le_trans hb (Nat.le_of_ble_eq_true rfl)
local macro_rules | `(tactic| size_fits) => `(tactic| k_extra "m_fits")
theorem ln18 : True := by
  (k_with "m_sz" => first | exact Nat.le_of_ble_eq_true (by decide +kernel) | exact Nat.le_trans (by with_reducible assumption) (Nat.le_of_ble_eq_true rfl))
  (k_with "m_fits" => first | exact Nat.le_of_ble_eq_true (by decide +kernel) | exact fitE (by walk_at "m_sz") | exact fit3 (by walk_at "m_sz") (by walk_at "m_sz") (by walk_at "m_sz") | exact fit2 (by walk_at "m_sz") (by walk_at "m_sz"))
  trivial
theorem eqT {prog : Program} {w : World} {A : Around} {E : Value → Shared → Prop} {s : Shared} {a b : Int} {t u : Tok} {Q : Value → Shared → Prop} (h : a = b) (hq : Q (.bool true) s) : wpAny (model prog w) A (compareOp .Eq (.int a t) (.int b u)) Q E s :=
  eq_int (by rw [beq_iff_eq.mpr h]; exact hq)
theorem eqF {prog : Program} {w : World} {A : Around} {E : Value → Shared → Prop} {s : Shared} {a b : Int} {t u : Tok} {Q : Value → Shared → Prop} (h : a ≠ b) (hq : Q (.bool false) s) : wpAny (model prog w) A (compareOp .Eq (.int a t) (.int b u)) Q E s :=
  eq_int (by rw [beq_eq_false_iff_ne.mpr h]; exact hq)
theorem ltT {prog : Program} {w : World} {A : Around} {E : Value → Shared → Prop} {s : Shared} {a b : Int} {t u : Tok} {Q : Value → Shared → Prop} (h : a < b) (hq : Q (.bool true) s) : wpAny (model prog w) A (compareOp .Lt (.int a t) (.int b u)) Q E s :=
  lt_int (by rw [decide_eq_true h]; exact hq)
theorem ltF {prog : Program} {w : World} {A : Around} {E : Value → Shared → Prop} {s : Shared} {a b : Int} {t u : Tok} {Q : Value → Shared → Prop} (h : ¬ a < b) (hq : Q (.bool false) s) : wpAny (model prog w) A (compareOp .Lt (.int a t) (.int b u)) Q E s :=
  lt_int (by rw [decide_eq_false h]; exact hq)
theorem qJ9 {M : Model} {A : Around} {E : Value → Shared → Prop} {s : Shared} {x : Addr} {Q : Value → Shared → Prop} (h : Q (.bool false) s) : wpAny M A (compareOp .IsNot (.ref x) (.ref x)) Q E s := by
  show wpAny M A (do return .bool (!(← isSame (.ref x) (.ref x)))) Q E s
  exact wpAny_bind (wpAny_isSame_ref_self (wpAny_pure h))
theorem ln19 : True := by
  (k_with "callWith ref" => (k_here; (with_reducible show wpAny _ _ (callWith _ (Value.ref _) _ (backTo _ (starEach (_ :: _) _)) []) _ _ _); k_dflt (refine' qq9 ?_ ?_ ?_; rotate_right 3; (· k_asm); (· k_mem))))
  (k_with "And" => ((with_reducible show StandsApp _ _ _ ∧ _); k_dflt (refine ⟨(News.get (by k_asm) (by k_mem)), ?_⟩); (try dsimp only [List.nil_append, List.cons_append])))
  (k_with "StandsApp" => ((with_reducible show StandsApp _ _ _); k_dflt (exact News.get (by k_asm) (by k_mem))))
  (k_with "call ref" => (k_here; (try dsimp only [List.nil_append, List.cons_append]); first | (k_dflt (refine' callAppL ?_ ?_ ?_ ?_ ?_ ?_; rotate_right 6; (· k_asm); (· k_asm); (· k_mem); (· (walk_at "m_upd")); rotate_left; (· (first | with_reducible assumption | exact Nat.le_of_ble_eq_true rfl))); intro _ _ _; (try k_sweep)) | refine zK9 ?_))
  (k_with "getAttr ref" => (k_here; (with_reducible show wpAny _ _ (getAttr (Value.ref _) (PySem.Str.ofString "append") _) _ _ _); k_dflt (refine' wv9 ?_ ?_ ?_ ?_; rotate_right 4; (· k_asm); (· k_asm); (· k_mem)); intro _ _ _ _ _ l1; (try k_lt l1); (revert l1; intro _); (try k_sweep)))
  (k_with "exec While" => first | ((with_reducible show wpAny _ _ (exec (Stmt.While (Expr.Compare _ _ _ _) _ _ _) _) _ _ _); refine whl_start 3 ?_) | (refine zK9 ?_))
  (k_with "subscriptTail Name Name ref int" => (k_here; (with_reducible show wpAny _ _ (subscriptTail _ _ (Value.ref _) (Value.int _ _)) _ _ _); (k_dflt (refine qO9 (by k_asm) (by k_mem) _ rfl (by with_reducible assumption) (by with_reducible assumption) ?_))))
  (k_with "compareOp IsNot" => (k_here; first | ((with_reducible show wpAny _ _ (compareOp CmpOp.IsNot (Value.str _ _) (Value.ref _)) _ _ _); k_dflt (refine wpAny_isNot_other (by rfl) (by intro x; cases x) ?_)) | ((with_reducible show wpAny _ _ (compareOp CmpOp.IsNot (Value.ref _) (Value.ref _)) _ _ _); refine qJ9 ?_)))
  (k_with "compareOp Eq int int" => (k_here; first | (refine eqT (by lia) ?_) | (refine eqF (by lia) ?_)))
  (k_with "compareOp Lt int int" => (k_here; first | (refine ltT (by lia) ?_) | (refine ltF (by lia) ?_)))
  (k_with "WhlIf" => first | (refine WhlIf.yes (decide_eq_true (by lia)) ?_) | (refine WhlIf.no (decide_eq_false (by lia)) ?_))
  (k_with "compareOp Is ref ref" => (k_here; refine wpAny_is_ref_self ?_))
  (k_with "compareOp IsNot str ref" => (k_here; k_dflt (refine wpAny_isNot_other (by rfl) (by intro x; cases x) ?_)))
  (k_with "compareOp IsNot ref ref" => (k_here; refine qJ9 ?_))
  (k_with "call builtin:str.join" => (k_here; refine zK9 ?_))
  trivial
noncomputable def rowText (row : List Tk) : List Nat := row.flatMap Tk.part
noncomputable def bodyText (sa sb : Bool) (row : List Tk) : List Nat := match sa, sb with
  | true, true => [40, 63, 62, 46, 42, 63] ++ rowText row ++ [41] ++ [46, 42]
  | false, _ => rowText row ++ [46, 42]
  | true, false => [46, 42] ++ rowText row
noncomputable def joinedText (sa sb : Bool) (row : List Tk) : Str := ⟨([40, 63, 115, 58] ++ bodyText sa sb row ++ [41, 92, 90]).toArray⟩
noncomputable def zJ9 (b : Bool) : List Tk := if b then [Tk.star] else []
theorem yN9 {S : Addr} {vs : List Value} {l : List Tk} {i : Nat} {tk : Tk} (h : PartsAre S vs l) (e : l[i]? = some tk) : ∃ v, vs[i]? = some v ∧ (if tk = .star then v = .ref S else ∃ t, v = .str ⟨tk.part.toArray⟩ t) := by
  induction vs generalizing l i with
  | nil => cases l with
    | nil => cases e
    | cons _ _ => exact h.elim
  | cons v vs ih => cases l with
    | nil => exact h.elim
    | cons x l => cases i with
      | zero => cases e; exact ⟨v, rfl, h.1⟩
      | succ i => exact ih h.2 e
theorem yB9 {S : Addr} {vs : List Value} {l : List Tk} (h : PartsAre S vs l) (hn : ∀ t ∈ l, t ≠ .star) : StrsAre vs (l.map fun tk => (⟨tk.part.toArray⟩ : Str)) := by
  induction vs generalizing l with
  | nil => cases l with
    | nil => exact .nil
    | cons _ _ => exact h.elim
  | cons v vs ih => cases l with
    | nil => exact h.elim
    | cons x l =>
      have h1 := (if_neg (hn x (.head _))).mp h.1
      refine h1.elim fun t e => ?_
      rw [e]
      exact .cons _ _ (ih h.2 fun t ht => hn t (.tail _ ht))
theorem yx9 {S : Addr} {vs : List Value} {l : List Tk} (a n : Nat) (h : PartsAre S vs l) : PartsAre S ((vs.drop a).take n) ((l.drop a).take n) := by
  induction vs generalizing l a n with
  | nil => cases l with
    | nil => rw [List.drop_nil, List.take_nil, List.drop_nil, List.take_nil]; exact trivial
    | cons _ _ => exact h.elim
  | cons v vs ih => cases l with
    | nil => exact h.elim
    | cons x l => cases a with
      | succ a => exact ih a n h.2
      | zero => cases n with
        | zero => exact trivial
        | succ n => exact ⟨h.1, ih 0 n h.2⟩
theorem qE9 : ∀ (ys : List Str), Txt.join (Str.ofString "") ys = ⟨(ys.flatMap (·.cps.toList)).toArray⟩ := by
  intro ys
  unfold Txt.join
  rw [StrLaws.glued_eq_join]
  induction ys with
  | nil => rfl
  | cons x r ih =>
    cases r with
    | nil => show x = _; simp
    | cons y r =>
      show x ++ Str.ofString "" ++ Str.join (Str.ofString "") (y :: r) = _
      rw [ih]
      apply Str.ext'
      simp [Str.cps_append]
      rfl
theorem bH9 (tk : Tk) : tk.part.length ≤ 5 := by
  cases tk with
  | br n c => cases n <;> exact Nat.le_of_ble_eq_true rfl
  | rng n => cases n <;> exact Nat.le_of_ble_eq_true rfl
  | _ => exact Nat.le_of_ble_eq_true rfl
theorem xI9 : ∀ row : List Tk, ((row.map fun tk => (⟨tk.part.toArray⟩ : Str)).map (·.length)).sum ≤ 5 * row.length
  | [] => Nat.le_refl _
  | tk :: r => by
    have h1 := xI9 r
    have h2 := bH9 tk
    simp only [List.map_cons, List.sum_cons, List.length_cons]
    have h3 : (⟨tk.part.toArray⟩ : Str).length = tk.part.length := by simp [Str.length]
    rw [h3]; lia
theorem ul9 (row : List Tk) : (row.map fun tk => (⟨tk.part.toArray⟩ : Str)).flatMap (·.cps.toList) = rowText row := by
  simp [rowText, List.flatMap_map]
theorem yV9 (b : List Nat) : Str.empty ++ Str.ofString "(?s:" ++ ⟨b.toArray⟩ ++ Str.ofString ")\\Z" = ⟨([40, 63, 115, 58] ++ b ++ [41, 92, 90]).toArray⟩ := by
  rw [show Str.ofString "(?s:" = ⟨[40, 63, 115, 58].toArray⟩ from by decide +kernel, show Str.ofString ")\\Z" = ⟨[41, 92, 90].toArray⟩ from by decide +kernel]
  apply Str.ext'
  simp [Str.cps_append, Str.empty]
theorem nL9 (b : List Nat) : Str.empty ++ Str.ofString "(?>.*?" ++ ⟨b.toArray⟩ ++ Str.ofString ")" = ⟨([40, 63, 62, 46, 42, 63] ++ b ++ [41]).toArray⟩ := by
  rw [show Str.ofString "(?>.*?" = ⟨[40, 63, 62, 46, 42, 63].toArray⟩ from by decide +kernel, show Str.ofString ")" = ⟨[41].toArray⟩ from by decide +kernel]
  apply Str.ext'
  simp [Str.cps_append, Str.empty]
theorem dM9 (a b row : List Tk) (j : Nat) (h : j < row.length) : (a ++ row ++ b)[a.length + j]? = row[j]? := by
  rw [List.append_assoc, List.getElem?_append_right (Nat.le_add_right _ _), Nat.add_sub_cancel_left, List.getElem?_append_left (by assumption)]
theorem tZ9 {S : Addr} {vs : List Value} {row : List Tk} {sa sb : Bool} (hrow : ∀ t ∈ row, t ≠ Tk.star) (hv : PartsAre S vs (zJ9 sa ++ row ++ zJ9 sb)) (j : Nat) (h : j < row.length) : ∃ x t, vs[(zJ9 sa).length + j]? = some (.str x t) := by
  have e := dM9 (zJ9 sa) (zJ9 sb) row j h
  rw [List.getElem?_eq_getElem h] at e
  obtain ⟨v, h1, h2⟩ := yN9 hv e
  rw [if_neg (hrow _ (List.getElem_mem h))] at h2
  obtain ⟨t, rfl⟩ := h2
  exact ⟨_, t, h1⟩
theorem dS9 {S : Addr} {vs : List Value} {row : List Tk} {sa : Bool} (hv : PartsAre S vs (zJ9 sa ++ row ++ zJ9 true)) : vs[(zJ9 sa).length + row.length]? = some (.ref S) := by
  have e : (zJ9 sa ++ row ++ zJ9 true)[(zJ9 sa).length + row.length]? = some Tk.star := by
    rw [List.getElem?_append_right (by simp)]; simp [zJ9]
  obtain ⟨v, h1, h2⟩ := yN9 hv e
  rw [if_pos rfl] at h2
  rw [h1, h2]
theorem bV9 {S : Addr} {vs : List Value} {row : List Tk} {sb : Bool} (hv : PartsAre S vs (zJ9 true ++ row ++ zJ9 sb)) : vs[0]? = some (.ref S) := by
  obtain ⟨v, h1, h2⟩ := yN9 (i := 0) (tk := Tk.star) hv (by simp [zJ9])
  rw [if_pos rfl] at h2
  rw [h1, h2]
theorem word_weight (row : List Tk) (h : row.length ≤ 4) : (rowText row).length ≤ 20 := by
  have := xI9 row
  have e : (rowText row).length = ((row.map fun tk => (⟨tk.part.toArray⟩ : Str)).map (·.length)).sum := by
    unfold rowText
    rw [List.length_flatMap, List.map_map]
    congr 1
  rw [e]; lia
noncomputable def Pwjn (V : Wd) (row : List Tk) (vs : List Value) (e : Nat) (S : Addr) (R : Addr) : Prop := ∀ (hrow : ∀ t ∈ row, t ≠ Tk.star) (hne : row ≠ []) (hlen : row.length ≤ 4) (sa sb : Bool), (sa || sb) = true ∧ PartsAre S vs (zJ9 sa ++ row ++ zJ9 sb) →
   Spc V (.ref 111) [.ref R, .ref S] 2 60 [(R, W.listOf vs.toArray e)] (fun _ => True)
     (zn9 [(R, W.listOf vs.toArray e)] fun v nx => nx = [] ∧ ∃ t, v = .str (joinedText sa sb row) t)
@[irreducible] noncomputable def wjn := W6 Pwjn
set_option maxHeartbeats 8000000 in
@[irreducible] noncomputable def cjn := dh9 (H := fun sa sb => (sa || sb) = true ∧ PartsAre wjn.2.2.2.2.1 wjn.2.2.1 (zJ9 sa ++ wjn.2.1 ++ zJ9 sb)) (C := fun sa sb => Spc wjn.1 (.ref 111) [.ref wjn.2.2.2.2.2, .ref wjn.2.2.2.2.1] 2 60 [(wjn.2.2.2.2.2, W.listOf wjn.2.2.1.toArray wjn.2.2.2.1)] (fun _ => True)
     (zn9 [(wjn.2.2.2.2.2, W.listOf wjn.2.2.1.toArray wjn.2.2.2.1)] fun v nx => nx = [] ∧ ∃ t, v = .str (joinedText sa sb wjn.2.1) t)) (fun sa sb hor h => by
    refine' uL9 (binds := [(Str.ofString "inp", .ref wjn.2.2.2.2.2), (Str.ofString "STAR", .ref wjn.2.2.2.2.1)]) ?k6 ?k7 ?k9 ?kB ?c5 ?c2 ?c3 ?c4 h
    walk_at "m_enter"
    )
set_option maxHeartbeats 8000000 in
theorem tY9 : A6 Pwjn wjn := by
  intro hrow hne hlen
  refine HB12 (c := cjn) (by unfold cjn; exact rfl) ?_
  intro sa sb hor hd hu hp hsg F N0 hlt B X T ret
  have hv := hor.2
  replace hor := hor.1
  have hvl : wjn.2.2.1.length = (zJ9 sa).length + wjn.2.1.length + (zJ9 sb).length := by rw [hv.len]; simp; lia
  have hsl : ∀ b, (zJ9 b).length ≤ 1 := fun b => by cases b <;> decide
  have hva := hsl sa
  have hvb := hsl sb
  have hv6 : wjn.2.2.1.length ≤ 1000000 := by lia
  have hvs6 : wjn.2.2.1.toArray.size ≤ 1000000 := by rw [List.size_toArray]; lia
  (try dsimp only)
  have hlt1 : @LT.lt Nat _ wjn.2.2.2.2.2 cjn.2.2.2.2.2.2.2.2.1 := hlt _ (.head _)
  k_steps
  unfold zC9
  rename_i RS _ lR _ _ _ _ Qa _ _ lQ _ _ _ _ _ _ _ D1 _ lD _ _ _ _ _ F5 N5 _ _
  have N6 := News.pick N5 (.tail _ (.head _)) (News.pick N5 (.tail _ (.tail _ (.head _))) (News.pick N5 (.tail _ (.tail _ (.tail _ (.head _)))) News.nil))
  have nRQ : @Ne Nat RS Qa := neN (by lia)
  have nRS : @Ne Nat wjn.2.2.2.2.2 RS := neN (by lia)
  have nQR : @Ne Nat wjn.2.2.2.2.2 Qa := neN (by lia)
  have hld : ∃ lead, lead = (if sa then 0 else wjn.2.1.length) ∧ (∀ k, k < lead → ∃ x t, wjn.2.2.1[k]? = some (.str x t)) ∧ wjn.2.2.1[lead]? = some (.ref wjn.2.2.2.2.1) ∧ lead < wjn.2.2.1.length ∧ (lead ≤ 4) := by
    cases sa with
    | false =>
      obtain rfl : sb = true := by simpa using hor
      refine ix1 wjn.2.1.length (⟨by simp, fun k hk => ?_, ?_, ?_, hlen⟩)
      · have := tZ9 hrow hv k hk
        simpa [zJ9] using this
      · have := dS9 hv
        simpa [zJ9] using this
      · rw [hvl]; simp [zJ9]
    | true => exact ⟨0, by simp, fun k hk => absurd hk (Nat.not_lt_zero _), bV9 hv, (by rw [hvl]; simp [zJ9]; lia), Nat.zero_le _⟩
  k_extra "y"
  refine ex1 (hld) fun lead hJ9 => ?_
  refine an4 hJ9 fun hl0 hl1 hl2 hl3 hl4 => ?_
  clear hJ9
  try clear hld
  k_extra "z"
  have hrest := hvl
  refine qZ9 (n₀ := lead) (J := fun n m nx => ∃ (k e' : Nat) (ti tn : Tok) (m' : Str → Option Value), k ≤ lead ∧ n = lead - k ∧
    m = (fun y => if y = Str.ofString "i" then some (.int (k : Nat) ti) else if y = Str.ofString "n" then some (.int (wjn.2.2.1.length : Nat) tn) else if y = Str.ofString "add" then some (.ref Qa) else if y = Str.ofString "res" then some (.ref RS) else if y = Str.ofString "inp" then some (.ref wjn.2.2.2.2.2) else if y = Str.ofString "STAR" then some (.ref wjn.2.2.2.2.1) else m' y) ∧
    nx = [(Qa, zw9 RS), (RS, W.listOf (List.toArray (wjn.2.2.1.take k)) e'), (wjn.2.2.2.2.2, W.listOf wjn.2.2.1.toArray wjn.2.2.2.1)]) PassesOwn.never F5 N6
    ⟨0, 0, _, _, _, Nat.zero_le _, rfl, nM9 rfl rfl rfl rfl rfl rfl, rfl⟩ ?_
  clear N5 N6 F5
  rintro n _ _ h tk hJ9 F6 N6
  k_extra "y"
  refine ex5 hJ9 fun k e' ti tn m' hJ9 => ?_
  refine an3 hJ9 fun hk e9_0 e9_1 e9_2 => ?_
  iterate 2 clear hJ9
  subst e9_0
  subst e9_1
  subst e9_2
  k_extra "z"
  by_cases hkl : k < lead
  · refine zh9 fun G9 hG9 => ?_
    refine ex2 (hl1 k hkl) fun x tx hx => ?_
    k_extra "z"
    have hz1 : (List.take k wjn.2.2.1).toArray.size ≤ sizeLine := by rw [sizeLine_eq, List.size_toArray, List.length_take]; exact Nat.le_trans (Nat.min_le_right _ _) (Nat.le_trans hv6 (by decide))
    k_steps
    rename Fr _ _ _ _ => F9
    rename News _ _ _ _ => N9
    simp only [List.push_toArray] at N9
    have htk : List.take (k + 1) wjn.2.2.1 = List.take k wjn.2.2.1 ++ [Value.str x tx] := by rw [List.take_add_one, hx]; rfl
    rw [← htk] at N9
    exact ix5 (lead - (k + 1)) _ _ _ _ (⟨rfl, Nat.sub_succ_lt_self _ _ (by first | assumption | lia), F9, N9, ix5 (k + 1) _ _ _ _ (⟨by first | assumption | lia, rfl, nM9 rfl rfl rfl rfl rfl rfl, rfl⟩)⟩)
  · obtain rfl : k = lead := by lia
    have hz1 : (List.take k wjn.2.2.1).toArray.size ≤ sizeLine := by rw [sizeLine_eq, List.size_toArray, List.length_take]; exact Nat.le_trans (Nat.min_le_right _ _) (Nat.le_trans hv6 (by decide))
    cases sa
    · obtain rfl : sb = true := by simpa using hor
      have hrl : k = wjn.2.1.length := by simpa using hl0
      have hn1 : wjn.2.2.1.length = k + 1 := by rw [hvl, hrl]; simp [zJ9]
      k_steps
      all_goals (try (exfalso; lia))
      unfold zC9
      rename Fr _ _ _ _ => F9
      rename News _ _ _ _ => N9
      simp only [List.push_toArray] at N9
      have hpr : PartsAre wjn.2.2.2.2.1 (List.take k wjn.2.2.1) wjn.2.1 := by
        have := yx9 0 k hv
        rw [List.drop_zero, List.drop_zero, hrl] at this
        simpa [zJ9, hrl] using this
      have hst : ∀ t, StrsAre (List.take k wjn.2.2.1 ++ [Value.str (Str.ofString ".*") t]).toArray.toList ((wjn.2.1.map fun tk => (⟨tk.part.toArray⟩ : Str)) ++ [Str.ofString ".*"]) := fun t => zd9 (yB9 hpr hrow) (.cons _ _ .nil)
      refine join_listW ⟨_, (N9 _ (.tail _ (.head _))).1, rfl, _, rfl⟩ (hst _) (by decide) (by have h1 := xI9 wjn.2.1; have h2 : (List.map (fun x : Str => x.length) [Str.ofString ".*"]).sum = 2 := (by decide); simp only [List.map_append, List.sum_append, List.length_append, List.length_map, List.length_cons, List.length_nil]; lia) ?_
      intro t' k'
      rw [qE9, List.flatMap_append, ul9]
      have hbt : rowText wjn.2.1 ++ List.flatMap (fun x => x.cps.toList) [Str.ofString ".*"] = bodyText false true wjn.2.1 := by
        rw [show List.flatMap (fun x : Str => x.cps.toList) [Str.ofString ".*"] = [46, 42] from by decide +kernel]; rfl
      rw [hbt]
      have hjl : (Str.mk (bodyText false true wjn.2.1).toArray).length ≤ 10000 := by
        have := word_weight wjn.2.1 hlen
        simp [Str.length, bodyText]; lia
      (try dsimp only)
      k_steps
      rename Fr _ _ _ _ => F11
      rw [yV9]
      exact ret _ _ _ _ [] F11 News.nil ⟨rfl, _, rfl⟩
    · have hrl : k = 0 := by simpa using hl0
      subst hrl
      have hn1 : 1 < wjn.2.2.1.length := by
        have : 0 < wjn.2.1.length := List.length_pos_iff.mpr hne
        rw [hvl]; simp [zJ9]; lia
      obtain ⟨x1, tx1, hx1⟩ : ∃ x t, wjn.2.2.1[1]? = some (.str x t) := tZ9 hrow hv 0 (List.length_pos_iff.mpr hne)
      k_steps
      all_goals (try (exfalso; lia))
      unfold zC9
      rename_i FX _ lFX _ _ F8 N8 _ _
      have nF1 : @Ne Nat FX Qa := neN (by lia)
      have nF2 : @Ne Nat FX RS := neN (by lia)
      have nF3 : @Ne Nat FX wjn.2.2.2.2.2 := neN (by lia)
      refine qZ9 (n₀ := wjn.2.1.length) (J := fun n m nx => ∃ (k e2 : Nat) (ti tn : Tok) (m' : Str → Option Value), k ≤ wjn.2.1.length ∧ n = wjn.2.1.length - k ∧
        m = (fun y => if y = Str.ofString "i" then some (.int ((1 + k : Nat) : Int) ti) else if y = Str.ofString "fixed" then some (.ref FX) else if y = Str.ofString "n" then some (.int (wjn.2.2.1.length : Nat) tn) else if y = Str.ofString "add" then some (.ref Qa) else if y = Str.ofString "res" then some (.ref RS) else if y = Str.ofString "inp" then some (.ref wjn.2.2.2.2.2) else if y = Str.ofString "STAR" then some (.ref wjn.2.2.2.2.1) else m' y) ∧
        nx = [(FX, W.listOf (List.toArray ((wjn.2.2.1.drop 1).take k)) e2), (Qa, zw9 RS), (RS, W.listOf (List.toArray (wjn.2.2.1.take 0)) e'), (wjn.2.2.2.2.2, W.listOf wjn.2.2.1.toArray wjn.2.2.2.1)]) PassesOwn.never F8 N8
        ⟨0, 0, _, _, _, Nat.zero_le _, rfl, xA9 rfl rfl rfl rfl rfl rfl rfl, rfl⟩ ?_
      clear F8 N8
      rintro n _ _ h tk hJ9 F7 N7
      k_extra "y"
      refine ex5 hJ9 fun k e2 ti tn m' hJ9 => ?_
      refine an3 hJ9 fun hk e9_0 e9_1 e9_2 => ?_
      iterate 2 clear hJ9
      subst e9_0
      subst e9_1
      subst e9_2
      k_extra "z"
      by_cases hkr : k < wjn.2.1.length
      · refine zh9 fun G9 hG9 => ?_
        refine ex2 (tZ9 hrow hv k hkr) fun x tx hx => ?_
        k_extra "z"
        have hx' : wjn.2.2.1[1 + k]? = some (.str x tx) := hx
        have hz2 : (List.take k (List.drop 1 wjn.2.2.1)).toArray.size ≤ sizeLine := by rw [sizeLine_eq, List.size_toArray, List.length_take, List.length_drop]; exact Nat.le_trans (Nat.min_le_right _ _) (Nat.le_trans (Nat.sub_le _ _) (Nat.le_trans hv6 (by decide)))
        have hlt2 : 1 + k < wjn.2.2.1.length := (List.getElem?_eq_some_iff.mp hx').1
        k_steps
        rename Fr _ _ _ _ => F9
        rename News _ _ _ _ => N9
        simp only [List.push_toArray] at N9
        have htk : List.take (k + 1) (List.drop 1 wjn.2.2.1) = List.take k (List.drop 1 wjn.2.2.1) ++ [Value.str x tx] := by rw [List.take_add_one, List.getElem?_drop, hx']; rfl
        rw [← htk] at N9
        exact ix5 (wjn.2.1.length - (k + 1)) _ _ _ _ (⟨rfl, Nat.sub_succ_lt_self _ _ (by first | assumption | lia), F9, N9, ix5 (k + 1) _ _ _ _ (⟨by first | assumption | lia, rfl, xA9 rfl rfl rfl rfl rfl rfl rfl, rfl⟩)⟩)
      · obtain rfl : k = wjn.2.1.length := by lia
        have hjr : (Str.mk (rowText wjn.2.1).toArray).length ≤ 10000 := by
          have := word_weight wjn.2.1 hlen
          simp [Str.length]; lia
        have hpr : PartsAre wjn.2.2.2.2.1 (List.take wjn.2.1.length (List.drop 1 wjn.2.2.1)) wjn.2.1 := by
          have := yx9 1 wjn.2.1.length hv
          simpa [zJ9] using this
        have hst : StrsAre (List.take wjn.2.1.length (List.drop 1 wjn.2.2.1)).toArray.toList (wjn.2.1.map fun tk => (⟨tk.part.toArray⟩ : Str)) := yB9 hpr hrow
        cases sb
        · have hn2 : wjn.2.2.1.length = 1 + wjn.2.1.length := by rw [hvl]; simp [zJ9]
          k_steps
          all_goals (try (exfalso; lia))
          unfold zC9
          rename Fr _ _ _ _ => F9
          rename News _ _ _ _ => N9
          refine join_listW ⟨_, (N9 _ (.head _)).1, rfl, _, rfl⟩ hst (by decide) (by have h1 := xI9 wjn.2.1; simp only [List.length_map]; lia) ?_
          intro t' k'
          rw [qE9, ul9]
          (try dsimp only)
          k_steps
          all_goals (try (exfalso; lia))
          unfold zC9
          rename Fr _ _ _ _ => F9
          rename News _ _ _ _ => N9
          simp only [List.push_toArray, List.take_zero, List.nil_append, List.cons_append] at N9
          refine join_listW (ys := [Str.ofString ".*", Str.mk (rowText wjn.2.1).toArray]) ⟨_, (N9 _ (.tail _ (.tail _ (.head _)))).1, rfl, _, rfl⟩ (.cons _ _ (.cons _ _ .nil)) (by decide) (by have h1 := word_weight wjn.2.1 hlen; have h2 : (Str.ofString ".*").length = 2 := (by decide); simp only [List.map_cons, List.map_nil, List.sum_cons, List.sum_nil, List.length_cons, List.length_nil, h2]; simp [Str.length]; lia) ?_
          intro t' k'
          rw [qE9]
          have hBT : List.flatMap (fun x : Str => x.cps.toList) ([Str.ofString ".*", Str.mk (rowText wjn.2.1).toArray] : List Str) = bodyText true false wjn.2.1 := (by rw [List.flatMap_cons, show (Str.ofString ".*").cps.toList = [46, 42] from by decide +kernel]; simp [bodyText])
          rw [hBT]
          have hjl : (Str.mk (bodyText true false wjn.2.1).toArray).length ≤ 10000 := by
            have := word_weight wjn.2.1 hlen
            simp [Str.length, bodyText]; lia
          (try dsimp only)
          k_steps
          rename Fr _ _ _ _ => F11
          rw [yV9]
          exact ret _ _ _ _ [] F11 News.nil ⟨rfl, _, rfl⟩
        · have hn2 : wjn.2.2.1.length = 1 + wjn.2.1.length + 1 := by rw [hvl]; simp [zJ9]
          have hx2 : wjn.2.2.1[1 + wjn.2.1.length]? = some (.ref wjn.2.2.2.2.1) := dS9 hv
          k_steps
          all_goals (try (exfalso; lia))
          unfold zC9
          rename Fr _ _ _ _ => F9
          rename News _ _ _ _ => N9
          refine join_listW ⟨_, (N9 _ (.head _)).1, rfl, _, rfl⟩ hst (by decide) (by have h1 := xI9 wjn.2.1; simp only [List.length_map]; lia) ?_
          intro t' k'
          rw [qE9, ul9]
          (try dsimp only)
          k_steps
          all_goals (try (exfalso; lia))
          unfold zC9
          rename Fr _ _ _ _ => F9
          rename News _ _ _ _ => N9
          simp only [List.push_toArray, List.take_zero, List.nil_append, List.cons_append] at N9
          rw [nL9] at N9
          refine join_listW (ys := [Str.mk ([40, 63, 62, 46, 42, 63] ++ rowText wjn.2.1 ++ [41]).toArray, Str.ofString ".*"]) ⟨_, (N9 _ (.tail _ (.tail _ (.head _)))).1, rfl, _, rfl⟩ (.cons _ _ (.cons _ _ .nil)) (by decide) (by have h1 := word_weight wjn.2.1 hlen; have h2 : (Str.ofString ".*").length = 2 := (by decide); simp only [List.map_cons, List.map_nil, List.sum_cons, List.sum_nil, List.length_cons, List.length_nil, h2]; simp [Str.length]; lia) ?_
          intro t' k'
          rw [qE9]
          have hBT : List.flatMap (fun x : Str => x.cps.toList) ([Str.mk ([40, 63, 62, 46, 42, 63] ++ rowText wjn.2.1 ++ [41]).toArray, Str.ofString ".*"] : List Str) = bodyText true true wjn.2.1 := (by simp only [List.flatMap_cons, List.flatMap_nil]; rw [show (Str.ofString ".*").cps.toList = [46, 42] from by decide +kernel]; simp [bodyText])
          rw [hBT]
          have hjl : (Str.mk (bodyText true true wjn.2.1).toArray).length ≤ 10000 := by
            have := word_weight wjn.2.1 hlen
            simp [Str.length, bodyText]; lia
          (try dsimp only)
          k_steps
          rename Fr _ _ _ _ => F11
          rw [yV9]
          exact ret _ _ _ _ [] F11 News.nil ⟨rfl, _, rfl⟩
theorem gb9 (V : Wd) (row : List Tk) (vs : List Value) (e : Nat) (S R : Addr) (sa sb : Bool) (hor : (sa || sb) = true) (hrow : ∀ t ∈ row, t ≠ Tk.star) (hne : row ≠ []) (hlen : row.length ≤ 4) (hv : PartsAre S vs (zJ9 sa ++ row ++ zJ9 sb)) :
   Spc V (.ref 111) [.ref R, .ref S] 2 60 [(R, W.listOf vs.toArray e)] (fun _ => True)
     (zn9 [(R, W.listOf vs.toArray e)] fun v nx => nx = [] ∧ ∃ t, v = .str (joinedText sa sb row) t) := H6 (by unfold wjn; rfl) @tY9 V row vs e S R hrow hne hlen sa sb ⟨hor, hv⟩
end
section
set_option maxRecDepth 100000
theorem qg9 : typeLookup (.type "object") "__new__" = pure (some (.builtin "object.__new__")) := by rw [typeLookup_type, builtinLookup_eq_fast]; kernel_rfl
theorem yX9 : TypeCalled "object" "object.__new__" "object.__init__" :=
  ⟨by decide +kernel, by decide +kernel, ⟨_, _, F.mro_object⟩, madeBy_type F.mro_object qg9 (by decide +kernel), by decide +kernel, by rw [isSubtype_type]; kernel_rfl, F.slot_object_init⟩
theorem vK9 : checkTypeCall "object" ⟨[], []⟩ = pure () := by kernel_rfl
theorem vk9 : checkBuiltinCall "object.__new__" ⟨[.type "object"], []⟩ = pure () := by kernel_rfl
noncomputable abbrev vO9 : Obj := { cls := .type "object", data := .plain }
theorem qw9 : Meets (Builtin.«object.__new__» ⟨[.type "object"], []⟩) (fun _ R s => R (.ok (.ret (.ref s.heap.objs.size))) { s with heap := s.heap.push vO9 }) :=
  .of_wp fun prog w A R s h => by
    obtain ⟨hp, g, d, tk, os⟩ := s
    unfold Builtin.«object.__new__»
    dsimp only
    refine wpAny_bind (wpAny_of_eq (a := true) (by first | rfl | kernel_rfl) ?_)
    rw [if_neg (by decide), if_neg (by decide +kernel)]
    refine wpAny_bind (wpAny_of_eq (a := ()) (by kernel_rfl) ?_)
    rw [if_neg (by decide), if_neg (by decide +kernel)]
    refine wpAny_bind (wpAny_pure ?_)
    refine wpAny_bind ?_
    unfold newObj
    wp_walk
    exact ⟨_, rfl, h⟩
section
variable {prog : Program} {w : World} {A : Around} {E : Value → Shared → Prop} {s : Shared} {h₀ : Heap} {L : Addr} {m : Str → Option Value} {news : List (Addr × Obj)}
theorem wC9 {Q : Value → Shared → Prop} (h : Q (.ref s.heap.objs.size) { s with heap := s.heap.push vO9 }) : wpAny (model prog w) A (call (.type "object") []) Q E s := by
  refine callType_meets (Q₁ := fun v s₁ => v = .ref s.heap.objs.size ∧ s₁ = { s with heap := s.heap.push vO9 }) yX9 vK9 vk9 F.entry_object_new F.entry_object_init qw9 ⟨rfl, rfl⟩ ?_
  rintro obj s₁ ⟨rfl, rfl⟩
  refine ⟨⟨vO9, Heap.get?_push_size _ rfl, rfl⟩, F.args_object_init_1 _, ix1 _ (⟨Meets.of_wp (S := fun _ R s => R (.ok (.ret .none)) s) fun prog w A R s hs => wpAny_pure ⟨_, rfl, hs⟩, ⟨rfl, h⟩⟩)⟩
theorem bL9 {Q : Value → Shared → Prop} (F : Fr h₀ L s.heap m) (N : News h₀ L s.heap news) (h : ∀ l h', Fr h₀ L h' m → News h₀ L h' ((l, vO9) :: news) → (∀ p ∈ news, p.1 < l) → Q (.ref l) { s with heap := h' }) :
    wpAny (model prog w) A (call (.type "object") []) Q E s :=
  wC9 (h _ _ (F.push _) (N.push F _) fun p hp => Heap.lt_size (N p hp).1)
theorem gQ9 {hh9 : Heap} {gg9 : Array GenState} {dd9 : Drawn} {tt9 : Nat} {oo9 : OsState} {Q : Value → Shared → Prop} (F : Fr h₀ L hh9 m) (N : News h₀ L hh9 news) (h : ∀ l h', Fr h₀ L h' m → News h₀ L h' ((l, vO9) :: news) → (∀ p ∈ news, p.1 < l) → Q (.ref l) ⟨h', gg9, dd9, tt9, oo9⟩) :
    wpAny (model prog w) A (call (.type "object") []) Q E ⟨hh9, gg9, dd9, tt9, oo9⟩ := bL9 (s := ⟨hh9, gg9, dd9, tt9, oo9⟩) F N h
end
end
section
theorem ln20 : True := by
  (k_with "exec For Name Call cons nil" => (k_here; (rename Fr _ _ _ _ => lF'); (with_unfolding_all refine' For_invVF lF' ?_ ?_ ?_; rotate_right 3; (· (exact rfl)); (· (exact rfl)))))
  (k_with "call builtin:list.append" => (k_here; (with_reducible show wpAny _ _ (call (Value.builtin _) [Value.ref _, _]) _ _ _); k_dflt (refine' append_K ?_ ?_ ?_ ?_ ?_; rotate_right 5; (· k_asm); (· k_asm); (· k_upd); rotate_left; (· assumption)); intro _ _ _; (try k_sweep)))
  (k_with "subscriptTail" => (k_here; (with_reducible show wpAny _ _ (subscriptTail _ _ (Value.str (PySem.Str.ofString "ab") _) (Value.bool _)) _ _ _); (with_unfolding_all refine' vV9 ?_ ?_; rotate_right 2; rotate_left; (· (with_unfolding_all rfl)))))
  (k_with "exec While" => refine zK9 ?_)
  (k_with "call ref" => (k_here; refine zK9 ?_))
  (k_with "pyIter ref" => refine zK9 ?_)
  (k_with "call type:object" => (k_here; (refine' gQ9 ?_ ?_ ?_; rotate_right 3; (· k_asm); (· k_asm)); intro _ _ _ _ l1; (try k_lt l1); (revert l1; intro _); (try k_sweep)))
  trivial
theorem hO9 (tk : Tk) : tk.text.length ≤ 6 := by
  cases tk with
  | br n c => cases n <;> exact Nat.le_of_ble_eq_true rfl
  | rng n => cases n <;> exact Nat.le_of_ble_eq_true rfl
  | _ => exact Nat.le_of_ble_eq_true rfl
theorem wm9 : ∀ l : List Tk, (flat l).length ≤ 6 * l.length
  | [] => Nat.le_refl _
  | tk :: l => by
    have h1 := wm9 l
    have h2 := hO9 tk
    simp only [flat, List.flatMap_cons, List.length_append, List.length_cons] at *
    lia
theorem tA9 (row : List Tk) (sa sb : Bool) (h : row.length ≤ 4) : (flat (zJ9 sa ++ row ++ zJ9 sb)).length ≤ 1000 := by
  have := wm9 (zJ9 sa ++ row ++ zJ9 sb)
  have h1 : ∀ b, (zJ9 b).length ≤ 1 := fun b => by cases b <;> decide
  have ha := h1 sa
  have hb := h1 sb
  simp only [List.length_append] at this
  lia
theorem hZ9 (row : List Tk) (sa sb : Bool) (hrow : ∀ t ∈ row, t ≠ Tk.star) (hne : row ≠ []) : ∀ a b, zJ9 sa ++ row ++ zJ9 sb ≠ a ++ Tk.star :: Tk.star :: b := by
  intro a b e
  have hp : 0 < row.length := List.length_pos_iff.mpr hne
  have g1 : (zJ9 sa ++ row ++ zJ9 sb)[a.length]? = some Tk.star := by rw [e, List.getElem?_append_right (Nat.le_refl _)]; simp
  have g2 : (zJ9 sa ++ row ++ zJ9 sb)[a.length + 1]? = some Tk.star := by rw [e, List.getElem?_append_right (Nat.le_succ _)]; simp
  have key : ∀ i, (zJ9 sa ++ row ++ zJ9 sb)[i]? = some Tk.star → i < (zJ9 sa).length ∨ (zJ9 sa).length + row.length ≤ i := by
    intro i hi
    by_cases h1 : i < (zJ9 sa).length
    · exact .inl h1
    · by_cases h2 : i < (zJ9 sa).length + row.length
      · have := dM9 (zJ9 sa) (zJ9 sb) row (i - (zJ9 sa).length) (Nat.sub_lt_left_of_lt_add (Nat.not_lt.mp h1) h2)
        rw [show (zJ9 sa).length + (i - (zJ9 sa).length) = i from Nat.add_sub_cancel' (Nat.not_lt.mp h1), hi] at this
        exact absurd rfl (hrow Tk.star (List.mem_of_getElem? this.symm))
      · exact .inr (Nat.not_lt.mp h2)
  have h1 : ∀ b, (zJ9 b).length ≤ 1 := fun b => by cases b <;> decide
  have ha := h1 sa
  have hb := h1 sb
  have l2 : a.length + 1 < (zJ9 sa ++ row ++ zJ9 sb).length := (List.getElem?_eq_some_iff.mp g2).1
  simp only [List.length_append] at l2
  rcases key _ g1 with k1 | k1 <;> rcases key _ g2 with k2 | k2 <;> lia
theorem cD9 (V : Wd) (row : List Tk) (sa sb : Bool) (hor : (sa || sb) = true) (hrow : ∀ t ∈ row, t ≠ Tk.star) (hne : row ≠ []) (hlen : row.length ≤ 4) (t1 : Tok) :
   SpcG V (.ref 85) [.str (patOf (zJ9 sa ++ row ++ zJ9 sb)) t1] 8 200 [(99, tabObj #[])] (fun _ => True)
     (zn9 [(99, tabObj #[])] fun v nx => ∃ t, v = .str (joinedText sa sb row) t ∧ TabInv 99 nx) := by
  refine' uz9 (binds := [(Str.ofString "pat", .str (patOf (zJ9 sa ++ row ++ zJ9 sb)) t1)]) ?k6 ?k7 ?k9 ?kB ?c5 ?c2 ?c3 ?c4 ?_
  walk_at "m_enter"
  intro dp un gd outer A₁ base sh g L' h₁ s Q hd hu hp hsg F N0 hlt B X T hG ret
  (try dsimp only)
  k_extra "v"
  have hlt1 : @LT.lt Nat _ 99 L' := hlt _ (.head _)
  k_extra "u"
  k_steps
  unfold zC9
  rename_i S _ lS _ _ F5 N5 _ _ _
  have N6 : News g L' _ [(S, vO9)] := News.pick N5 (.head _) News.nil
  have N7 : News g L' _ [(99, tabObj #[])] := News.pick N5 (.tail _ (.head _)) News.nil
  refine dL9 (hN9 V (zJ9 sa ++ row ++ zJ9 sb) ?hsm ?hss _ _ S) B F5 N7 N6 ?sep X T rfl (by first | exact limD (by assumption) (by decide) | lia) (by first | exact limU (by assumption) (by decide) | exact limV (by assumption) (by decide) | lia) hG trivial ?_
  case hsm => exact tA9 row sa sb hlen
  case hss => exact hZ9 row sa sb hrow hne
  case sep => intro p hp q hq; rw [List.mem_singleton.mp hp, List.mem_singleton.mp hq]; exact neN (by lia)
  clear F5 N5 N6 N7
  rintro v nx h2 tk2 gn2 F8 N8 _ hJ9 _ _ hgn2
  k_extra "y"
  refine ex4 hJ9 fun R vs e tb hJ9 => ?_
  refine an4 hJ9 fun e9_0 e9_1 hv hTI hRt => ?_
  iterate 2 clear hJ9
  subst e9_0
  subst e9_1
  k_extra "z"
  (try dsimp only)
  k_extra "u"
  k_steps
  unfold zC9
  rename Fr _ _ _ _ => F9
  rename News _ _ _ _ => N9
  refine xn9 (gb9 V row vs e S R sa sb hor hrow hne hlen hv) B F9 (fun p hp => N9 p (by rw [List.mem_singleton.mp hp]; exact .head _)) (rest := tb) (fun p hp => N9 p (.tail _ hp)) (fun p hp q hq => by rw [List.mem_singleton.mp hq]; exact AllNe.at _ hRt p hp) X T rfl (by first | exact limD (by assumption) (by decide) | lia) (by first | exact limU (by assumption) (by decide) | exact limV (by assumption) (by decide) | lia) trivial ?_
  rintro v nx h3 tk3 F10 _ N10 hJ9 _ _
  k_extra "y"
  refine an1 hJ9 fun e9_0 hJ9 => ?_
  refine ex1 hJ9 fun t e9_1 => ?_
  iterate 2 clear hJ9
  subst e9_0
  subst e9_1
  k_extra "z"
  exact ret _ _ _ _ _ tb F10 N10 hgn2 ⟨t, rfl, hTI⟩
end
section
theorem zl9 (a b c : List Nat) (lo hi : Option Int) (h1 : sLo (a ++ b ++ c).length lo = a.length) (h2 : sHi (a ++ b ++ c).length hi = a.length + b.length) : Txt.slice ⟨(a ++ b ++ c).toArray⟩ lo hi = ⟨b.toArray⟩ := by
  rw [xZ9, h1, h2, Nat.add_sub_cancel_left, List.append_assoc, List.drop_left, List.take_left]
theorem ct9 (n k : Nat) : sLo n (some (k : Int)) = min k n := by
  show (if (k : Int) < 0 then ((k : Int) + n).toNat else min (k : Int).toNat n) = _
  rw [if_neg (Int.not_lt.mpr (Int.natCast_nonneg k))]; rfl
theorem cv9 (n k : Nat) : sHi n (some (k : Int)) = min k n := by
  show (if (k : Int) < 0 then ((k : Int) + n).toNat else min (k : Int).toNat n) = _
  rw [if_neg (Int.not_lt.mpr (Int.natCast_nonneg k))]; rfl
theorem tK9 (n k : Nat) : ((-((k + 1 : Nat) : Int)) + (n : Int)).toNat = n - (k + 1) := by
  rw [Int.add_comm]; exact Int.toNat_sub n (k + 1)
theorem gI9 (n k : Nat) : sLo n (some (-((k + 1 : Nat) : Int))) = n - (k + 1) := (if_pos (Int.neg_neg_of_pos (Int.natCast_pos.mpr (Nat.succ_pos k)))).trans (tK9 n k)
theorem gJ9 (n k : Nat) : sHi n (some (-((k + 1 : Nat) : Int))) = n - (k + 1) := (if_pos (Int.neg_neg_of_pos (Int.natCast_pos.mpr (Nat.succ_pos k)))).trans (tK9 n k)
theorem vR9 {a b c : List Nat} : (a ++ b ++ c).length = a.length + b.length + c.length := by rw [List.length_append, List.length_append]
theorem lo_a {a b c : List Nat} (k : Nat) (h : a.length = k) : sLo (a ++ b ++ c).length (some (k : Int)) = a.length := by
  rw [ct9, vR9, ← h, Nat.add_assoc]; exact Nat.min_eq_left (Nat.le_add_right _ _)
theorem hi_b {a b c : List Nat} (k : Nat) (h : a.length + b.length = k) : sHi (a ++ b ++ c).length (some (k : Int)) = a.length + b.length := by
  rw [cv9, vR9, ← h]; exact Nat.min_eq_left (Nat.le_add_right _ _)
theorem hi_c {a b c : List Nat} (k : Nat) (h : c.length = k + 1) : sHi (a ++ b ++ c).length (some (-((k + 1 : Nat) : Int))) = a.length + b.length := by
  rw [gJ9, vR9, h, Nat.add_sub_cancel]
theorem lo_c {a b : List Nat} (k : Nat) (h : b.length = k + 1) : sLo (a ++ b ++ []).length (some (-((k + 1 : Nat) : Int))) = a.length := by
  rw [gI9, vR9, h]; exact Nat.add_sub_cancel _ (k + 1)
theorem hi_n {a b : List Nat} : sHi (a ++ b ++ []).length none = a.length + b.length := vR9
theorem hQ9 (n : Nat) : min (Int.toNat 6) (0 + 1 + 1 + n) - 0 = min 5 (n + 1) + 1 := by
  rw [show 0 + 1 + 1 + n = n + 1 + 1 from Nat.add_comm 2 n]; exact Nat.succ_min_succ 5 (n + 1)
theorem jg9 (n : Nat) : min (Int.toNat 6) (n + 1) - 0 = min 5 n + 1 := Nat.succ_min_succ 5 n
theorem qc9 (a b : List Nat) : ((⟨a.toArray⟩ : Str) == ⟨b.toArray⟩) = decide (a = b) := by
  by_cases h : a = b
  · rw [h]; simp
  · rw [decide_eq_false h]
    refine beq_eq_false_iff_ne.mpr fun e => h ?_
    have := congrArg Str.cps e
    simpa using this
noncomputable def Tk.inner : Tk → List Nat
  | .star => []
  | .any => [46]
  | .lit c => [ab c]
  | .br false c => [ab c]
  | .br true c => [94, ab c]
  | .rng false => [97, 45, 98]
  | .rng true => [46]
noncomputable def Tk.isBr : Tk → Bool
  | .br _ _ => true
  | .rng false => true
  | _ => false
theorem vP9 (tk : Tk) (h : tk ≠ .star) : tk.part = if tk.isBr then 91 :: tk.inner ++ [93] else tk.inner := by
  cases tk with
  | star => exact absurd rfl h
  | any => rfl
  | lit c => rfl
  | br n c => cases n <;> rfl
  | rng n => cases n <;> rfl
theorem uI9 (tk : Tk) (h : tk ≠ .star) (hb : tk.isBr = false) : ∃ c, tk.inner = [c] ∧ c ≠ 91 ∧ c ≠ 93 ∧ c ≠ 42 ∧ c ≠ 40 := by
  cases tk with
  | star => exact absurd rfl h
  | any => exact ⟨46, rfl, by decide, by decide, by decide, by decide⟩
  | lit c => exact ⟨ab c, rfl, by cases c <;> decide, by cases c <;> decide, by cases c <;> decide, by cases c <;> decide⟩
  | br n c => cases hb
  | rng n => cases n
             · cases hb
             · exact ix1 46 (⟨rfl, by decide, by decide, by decide, by decide⟩)
theorem bc9 (tk : Tk) : 93 ∉ tk.inner ∧ tk.inner.length ≤ 3 := by
  cases tk with
  | star => exact ⟨by decide, by decide⟩
  | any => exact ⟨by decide, by decide⟩
  | lit c => cases c <;> exact ⟨by decide, by decide⟩
  | br n c => cases n <;> cases c <;> exact ⟨by decide, by decide⟩
  | rng n => cases n <;> exact ⟨by decide, by decide⟩
theorem qT9 (tk : Tk) (h : tk ≠ .star) : ∃ c r, tk.inner = c :: r := by
  cases tk with
  | star => exact absurd rfl h
  | any => exact ⟨_, _, rfl⟩
  | lit c => exact ⟨_, _, rfl⟩
  | br n c => cases n <;> exact ⟨_, _, rfl⟩
  | rng n => cases n <;> exact ⟨_, _, rfl⟩
noncomputable def vM9 (tk : Tk) (c : Nat) : Bool := (tk.inner.contains c) != ((tk.inner.headD 0 == 94) || (tk.inner.headD 0 == 46))
noncomputable def qf9 (tk : Tk) : List Nat := [97, 98].filter (vM9 tk)
end
section
theorem hS9 : Str.ofString "(?s:" = ⟨[40, 63, 115, 58].toArray⟩ := by decide +kernel
theorem hR9 : Str.ofString ")\\Z" = ⟨[41, 92, 90].toArray⟩ := by decide +kernel
theorem cs9 : Str.ofString "(?>.*?" = ⟨[40, 63, 62, 46, 42, 63].toArray⟩ := by decide +kernel
theorem gH9 : Str.ofString ").*" = ⟨[41, 46, 42].toArray⟩ := by decide +kernel
theorem bB9 : Str.ofString ".*" = ⟨[46, 42].toArray⟩ := by decide +kernel
theorem ft1 (sa sb : Bool) (row : List Tk) : Txt.slice (joinedText sa sb row) (some 4) (some (-3)) = ⟨(bodyText sa sb row).toArray⟩ :=
  zl9 [40, 63, 115, 58] (bodyText sa sb row) [41, 92, 90] _ _ (lo_a 4 rfl) (hi_c 2 rfl)
theorem ft2 (sa sb : Bool) (row : List Tk) : (Txt.slice (joinedText sa sb row) none (some 4) == Str.ofString "(?s:") = true := by
  have e : joinedText sa sb row = ⟨([] ++ [40, 63, 115, 58] ++ (bodyText sa sb row ++ [41, 92, 90])).toArray⟩ := by unfold joinedText; simp
  rw [e, zl9 [] [40, 63, 115, 58] _ none (some 4) rfl (hi_b 4 rfl), hS9]; simp
theorem ft3 (sa sb : Bool) (row : List Tk) : (Txt.slice (joinedText sa sb row) (some (-3)) none == Str.ofString ")\\Z") = true := by
  have e : joinedText sa sb row = ⟨(([40, 63, 115, 58] ++ bodyText sa sb row) ++ [41, 92, 90] ++ []).toArray⟩ := by unfold joinedText; simp
  rw [e, zl9 _ [41, 92, 90] [] (some (-3)) none (lo_c 2 rfl) hi_n, hR9]; simp
theorem ft4t (row : List Tk) : (Txt.slice ⟨(bodyText true true row).toArray⟩ none (some 6) == Str.ofString "(?>.*?") = true := by
  have e : bodyText true true row = [] ++ [40, 63, 62, 46, 42, 63] ++ (rowText row ++ [41] ++ [46, 42]) := by simp [bodyText]
  rw [e, zl9 [] _ _ none (some 6) rfl (hi_b 6 rfl), cs9]; simp
theorem ft5t (row : List Tk) : (Txt.slice ⟨(bodyText true true row).toArray⟩ (some (-3)) none == Str.ofString ").*") = true := by
  have e : bodyText true true row = ([40, 63, 62, 46, 42, 63] ++ rowText row) ++ [41, 46, 42] ++ [] := by simp [bodyText]
  rw [e, zl9 _ _ [] (some (-3)) none (lo_c 2 rfl) hi_n, gH9]; simp
theorem ft6t (row : List Tk) : (Txt.slice ⟨(bodyText true true row).toArray⟩ none (some 2) == Str.ofString ".*") = false := by
  have e : bodyText true true row = [] ++ [40, 63] ++ ([62, 46, 42, 63] ++ rowText row ++ [41] ++ [46, 42]) := by simp [bodyText]
  rw [e, zl9 [] _ _ none (some 2) rfl (hi_b 2 rfl), bB9, qc9]; decide
theorem ft8t (row : List Tk) : Txt.slice ⟨(bodyText true true row).toArray⟩ (some 6) (some (-3)) = ⟨(rowText row).toArray⟩ := by
  have e : bodyText true true row = [40, 63, 62, 46, 42, 63] ++ rowText row ++ [41, 46, 42] := by simp [bodyText]
  rw [e]
  exact zl9 _ _ _ _ _ (lo_a 6 rfl) (hi_c 2 rfl)
theorem ft4b (row : List Tk) : (Txt.slice ⟨(bodyText true false row).toArray⟩ none (some 6) == Str.ofString "(?>.*?") = false := by
  rw [xZ9, cs9, qc9]
  refine decide_eq_false fun h => ?_
  simp only [bodyText, sLo, sHi, List.length_append, List.length_cons, List.length_nil] at h
  rw [if_neg (by decide), hQ9] at h
  simp at h
theorem ft6b (row : List Tk) : (Txt.slice ⟨(bodyText true false row).toArray⟩ none (some 2) == Str.ofString ".*") = true := by
  have e : bodyText true false row = [] ++ [46, 42] ++ rowText row := by simp [bodyText]
  rw [e, zl9 [] _ _ none (some 2) rfl (hi_b 2 rfl), bB9]; simp
theorem ft8b (row : List Tk) : Txt.slice ⟨(bodyText true false row).toArray⟩ (some 2) none = ⟨(rowText row).toArray⟩ := by
  have e : bodyText true false row = [46, 42] ++ rowText row ++ [] := by simp [bodyText]
  rw [e]
  exact zl9 _ _ [] _ _ (lo_a 2 rfl) hi_n
theorem tG9 (tk : Tk) (h : tk ≠ .star) : (∃ c, tk.part = [c] ∧ c ≠ 40 ∧ c ≠ 42) ∨ (∃ r, tk.part = 91 :: r) := by
  rw [vP9 tk h]
  cases hb : tk.isBr
  · obtain ⟨c, e, _, _, h3, h4⟩ := uI9 tk h hb
    exact .inl ⟨c, by simp [e], h4, h3⟩
  · exact .inr ⟨tk.inner ++ [93], by simp⟩
theorem wO9 (row : List Tk) (hrow : ∀ t ∈ row, t ≠ Tk.star) : ∃ c r, rowText row ++ [46, 42] = c :: r ∧ c ≠ 40 ∧ c ≠ 42 ∧ (row ≠ [] → c = 46 → r.head? ≠ some 42) := by
  induction row with
  | nil => exact ⟨46, [42], rfl, by decide, by decide, fun h => absurd rfl h⟩
  | cons tk row ih =>
    obtain ⟨c, r, e, h1, h2, _⟩ := ih fun t ht => hrow t (.tail _ ht)
    have e0 : rowText (tk :: row) ++ [46, 42] = tk.part ++ (rowText row ++ [46, 42]) := by simp [rowText]
    rw [e0, e]
    rcases tG9 tk (hrow tk (.head _)) with ⟨d, hd, g1, g2⟩ | ⟨q, hq⟩
    · exact ix2 d (c :: r) (⟨by rw [hd]; rfl, g1, g2, fun _ _ => by simpa using h2⟩)
    · exact ix2 91 (q ++ c :: r) (⟨by rw [hq]; rfl, by decide, by decide, fun _ h => by cases h⟩)
theorem wr9 (sb : Bool) (row : List Tk) : bodyText false sb row = rowText row ++ [46, 42] := by cases sb <;> rfl
theorem ft4f (sb : Bool) (row : List Tk) (hrow : ∀ t ∈ row, t ≠ Tk.star) : (Txt.slice ⟨(bodyText false sb row).toArray⟩ none (some 6) == Str.ofString "(?>.*?") = false := by
  rw [xZ9, cs9, qc9, wr9]
  obtain ⟨c, r, e, h1, h2, h3⟩ := wO9 row hrow
  rw [e]
  refine decide_eq_false fun h => ?_
  simp only [sLo, sHi, List.length_cons] at h
  rw [if_neg (by decide), jg9] at h
  simp at h
  exact h1 h.1
theorem ft6f (sb : Bool) (row : List Tk) (hrow : ∀ t ∈ row, t ≠ Tk.star) (hne : row ≠ []) : (Txt.slice ⟨(bodyText false sb row).toArray⟩ none (some 2) == Str.ofString ".*") = false := by
  rw [xZ9, bB9, qc9, wr9]
  obtain ⟨c, r, e, h1, h2, h3⟩ := wO9 row hrow
  have hl : 2 ≤ (c :: r).length := by rw [← e]; simp
  rw [e]
  refine decide_eq_false fun h => ?_
  cases r with
  | nil => simp at hl
  | cons d r =>
    simp [sLo, sHi] at h
    exact h3 hne h.1 (by simp [h.2])
theorem ft7f (sb : Bool) (row : List Tk) : (Txt.slice ⟨(bodyText false sb row).toArray⟩ (some (-2)) none == Str.ofString ".*") = true := by
  have e : bodyText false sb row = rowText row ++ [46, 42] ++ [] := by rw [wr9]; simp
  rw [e, zl9 _ _ [] (some (-2)) none (lo_c 1 rfl) hi_n, bB9]; simp
theorem ft8f (sb : Bool) (row : List Tk) : Txt.slice ⟨(bodyText false sb row).toArray⟩ none (some (-2)) = ⟨(rowText row).toArray⟩ := by
  have e : bodyText false sb row = [] ++ rowText row ++ [46, 42] := by rw [wr9]; simp
  rw [e]
  exact zl9 [] _ _ _ _ rfl (hi_c 1 rfl)
end
section
open PySem PySem.W PySem.Spec PySem.Calls PyProof.Rows PyProof.Rows.LCg
noncomputable def wJ9 (h₀ : Heap) (L : Addr) (I : Addr) (oI : Obj) (J : (Str → Option Value) → (Obj → List (Addr × Obj)) → Prop) (s s₂ : Shared) : Prop :=
  ∃ h' tk m' gf o v, s₂ = { s with heap := h', toks := tk } ∧ Fr h₀ L h' m' ∧ News h₀ L h' ((I, oI) :: gf o) ∧ o.data = .cell v ∧ (∀ p ∈ gf o, p.1 ≠ I) ∧ J m' gf
noncomputable def dJ9 (h₀ : Heap) (L : Addr) (I : Addr) (oI : Obj) (J : (Str → Option Value) → (Obj → List (Addr × Obj)) → Prop) (s : Shared) (Q : Flow → Shared → Prop) (f : Flow) (s₂ : Shared) : Prop :=
  match f with
  | .ret v => Q (.ret v) s₂
  | .brk => Q .next s₂
  | _ => wJ9 h₀ L I oI J s s₂
section
variable {prog : Program} {w : World} {A : Around} {E : Value → Shared → Prop} {s : Shared} {h₀ : Heap} {L : Addr} {env : Env}
noncomputable def wx9 (prog : Program) (w : World) (A : Around) (h₀ : Heap) (L : Addr) (env : Env) (c : Addr) (body : List Stmt) (Q : Flow → Shared → Prop) (E : Value → Shared → Prop) (xv : Value) (s₂ : Shared) : Prop :=
  ∃ (l : Addr) (vs : List Value) (k : Nat) (m : Str → Option Value) (gf : Obj → List (Addr × Obj)) (o : Obj) (v : Option Value) (J : Nat → (Str → Option Value) → (Obj → List (Addr × Obj)) → Prop),
    xv = .ref l ∧ A.handled = none ∧ Fr h₀ L s₂.heap m ∧ News h₀ L s₂.heap (gf o) ∧ o.data = .cell v ∧ J 0 m gf ∧ (∀ i m gf, J i m gf → (∀ o, UpdF c o (gf o) gf) ∧ ∀ o, (l, PySem.W.listOf vs.toArray k) ∈ gf o) ∧
    (∀ i v m₁ gf o I oI h tk, vs[i]? = some v → J i m₁ gf → o.data = .cell (some v) → Fr h₀ L h m₁ → News h₀ L h ((I, oI) :: gf o) → (∀ p ∈ gf o, p.1 ≠ I) →
      wpAny (model prog w) A (execs body env) (dJ9 h₀ L I oI (J (i + 1)) s₂ Q) E { s₂ with heap := h, toks := tk }) ∧
    (∀ m₁ gf o v h tk, J vs.length m₁ gf → o.data = .cell v → Fr h₀ L h m₁ → News h₀ L h (gf o) → Q .next { s₂ with heap := h, toks := tk })
noncomputable def uX9 (prog : Program) (w : World) (A : Around) (E : Value → Shared → Prop) (s : Shared) (h₀ : Heap) (L : Addr) (env : Env) (x : Str) (px : Pos) (iter : PySem.Expr) (body : List Stmt) (c : Addr) (Q : Flow → Shared → Prop) : Prop := ∀ {pos : Pos} (hk : env.scope.kind = .function) (hx : env.kindOf x = some .cell) (hc : env.cells.lookup x = some c) (h : wpAny (model prog w) A (eval iter env) (wx9 prog w A h₀ L env c body Q E) E s) (hs : ∀ x, foldedSetIterable iter env x = pure x) (hE : PassesOwn (model prog w) A env E), wpAny (model prog w) A (exec (.For (.Name x px) iter body [] pos) env) Q E s
@[irreducible] noncomputable def zV9 := W14 uX9
theorem cT9 : A14 uX9 zV9 := by
  intro pos hk hx hc h hs hE
  refine wpAny_For (wpAny_mono h (fun xv s₁ h₁ => ?_) fun _ _ e => e) hs
  k_extra "y"
  refine ex8 (h₁) fun l vs k m gf o v J hJ9 => ?_
  refine an8 hJ9 fun e9_0 hh F N ho h0 hJ turn done => ?_
  clear hJ9
  try clear h₁
  subst e9_0
  k_extra "z"
  have hmem := (hJ 0 m gf h0).2 o
  have hl : s₁.heap.IsList l vs.toArray := ⟨_, (N _ hmem).1, rfl, _, rfl⟩
  have hlt : l < s₁.heap.objs.size := Heap.lt_size (N _ hmem).1
  refine wpAny_pyIter_list hl ?_
  have up : ∀ b o', s₁.heap.get? b = some o' → (s₁.heap.push { cls := .type "list_iterator", data := .fields #[.ref l, .int 0 0] }).get? b = some o' := fun b o' e => Heap.get?_push_of_some _ e
  have hIn : zV9.2.2.2.2.2.1.get? s₁.heap.objs.size = none := next_is_new F
  have hIL : zV9.2.2.2.2.2.2.1 ≠ s₁.heap.objs.size := Nat.ne_of_lt F.ns.lt
  have hoff : ∀ p ∈ gf o, p.1 ≠ s₁.heap.objs.size := fun p hp => Nat.ne_of_lt (Heap.lt_size (N p hp).1)
  have WK := Walks.list (prog := zV9.1) (w := zV9.2.1) hh s₁.heap.objs.size l (Nat.ne_of_lt hlt) vs.toArray
  have F0 := F.keeps up
  have N0 := N.grown up
  have hst : (s₁.heap.push { cls := .type "list_iterator", data := .fields #[.ref l, .int 0 0] }).IsListIter s₁.heap.objs.size l 0 := ⟨_, Heap.get?_push_size _ rfl, rfl, rfl⟩
  generalize s₁.heap.push { cls := .type "list_iterator", data := .fields #[.ref l, .int 0 0] } = H0 at F0 N0 hst
  generalize s₁.heap.objs.size = I at hIn hIL hoff WK hst
  refine codeAny_forLoop
    (fun k' s' => ∃ h' tk i m' gf' o' v', s' = { s₁ with heap := h', toks := tk } ∧ h'.IsListIter I l i ∧ Fr zV9.2.2.2.2.2.1 zV9.2.2.2.2.2.2.1 h' m' ∧ News zV9.2.2.2.2.2.1 zV9.2.2.2.2.2.2.1 h' (gf' o') ∧ o'.data = .cell v' ∧ (∀ p ∈ gf' o', p.1 ≠ I) ∧ J i m' gf' ∧ i ≤ vs.length ∧ k' = vs.length + 1 - i) ?_ (vs.length + 1)
    ⟨H0, s₁.toks, 0, m, gf, o, v, rfl, hst, F0, N0, ho, hoff, h0, Nat.zero_le _, rfl⟩
  rintro k' s' hJ9
  k_extra "y"
  refine ex7 hJ9 fun h' tk i m' gf' o' v' hJ9 => ?_
  refine an8 hJ9 fun e9_0 hst' F' N' ho' hoff' hJ' hi e9_1 => ?_
  iterate 2 clear hJ9
  subst e9_0
  subst e9_1
  k_extra "z"
  obtain ⟨hU, hm'⟩ := hJ i m' gf' hJ'
  have hl' : h'.IsList l vs.toArray := ⟨_, (N' _ (hm' o')).1, rfl, _, rfl⟩
  by_cases hlt' : i < vs.length
  · refine WK.item i _ _ _ (by simpa using hlt') ⟨hst', hl'⟩ fun v h₁ tk₁ hP hst₁ hk₁ => ?_
    have hv : vs[i]? = some v := by simpa using hP
    have F₁ := fr_but F' hk₁ hIL hIn
    have N₁ := news_but N' hk₁ hoff'
    obtain ⟨pre, post, hsp, hgf, h1, h2⟩ := (hU o').split
    have hcm : (zV9.2.2.2.2.2.2.2.2.2.2.2.2.1, o') ∈ gf' o' := by rw [hsp]; exact List.mem_append_right _ (.head _)
    have zc := N₁ _ hcm
    refine wpAny_assign_Name (wpAny_storeName_cell hk hx hc ⟨o', zc.1, ho'⟩ fun h₂ hv₂ hs₂ => ?_)
    k_extra "y"
    refine ex1 (hv₂) fun o₂ hJ9 => ?_
    refine an1 hJ9 fun ho₂ hd₂ => ?_
    clear hJ9
    try clear hv₂
    k_extra "z"
    have hcI : zV9.2.2.2.2.2.2.2.2.2.2.2.2.1 ≠ I := hoff' _ hcm
    obtain ⟨⟨oI, heI, rI⟩, _⟩ := id hst₁
    have F₂ : Fr zV9.2.2.2.2.2.1 zV9.2.2.2.2.2.2.1 h₂ m' := ⟨F₁.ns.sameBut hs₂ (Ne.symm zc.2.1), fun b ob e => (hs₂.2 b (fun q => by rw [q, zc.2.2] at e; cases e)).trans (F₁.keep b ob e), F₁.above⟩
    have N₂ : News zV9.2.2.2.2.2.1 zV9.2.2.2.2.2.2.1 h₂ ((I, oI) :: gf' o₂) := fun p hp => by
      rcases List.mem_cons.mp hp with rfl | hp
      · exact ⟨hs₂.extBut _ _ (Ne.symm hcI) heI, Ne.symm hIL, hIn⟩
      · rw [hgf] at hp
        rcases List.mem_append.mp hp with hp | hp
        · have z := N₁ p (by rw [hsp]; exact List.mem_append_left _ hp)
          exact ⟨hs₂.extBut _ _ (h1 p hp) z.1, z.2⟩
        · rcases List.mem_cons.mp hp with rfl | hp
          · exact ⟨ho₂, zc.2⟩
          · have z := N₁ p (by rw [hsp]; exact List.mem_append_right _ (.tail _ hp))
            exact ⟨hs₂.extBut _ _ (h2 p hp) z.1, z.2⟩
    have hoff₂ : ∀ p ∈ gf' o₂, p.1 ≠ I := fun p hp => by
      rw [hgf] at hp
      rcases List.mem_append.mp hp with hp | hp
      · exact hoff' p (by rw [hsp]; exact List.mem_append_left _ hp)
      · rcases List.mem_cons.mp hp with rfl | hp
        · exact hcI
        · exact hoff' p (by rw [hsp]; exact List.mem_append_right _ (.tail _ hp))
    refine wpAny_mono (wpAny_passesOwn hE (turn i v m' gf' o₂ I oI h₂ _ hv hJ' hd₂ F₂ N₂ hoff₂)) (fun f s₃ h₃ => ?_) fun _ _ e => e
    have go : wJ9 zV9.2.2.2.2.2.1 zV9.2.2.2.2.2.2.1 I oI (J (i + 1)) s₁ s₃ → ∃ m, m < vs.length + 1 - i ∧ ∃ h' tk i m' gf' o' v', s₃ = { s₁ with heap := h', toks := tk } ∧ h'.IsListIter I l i ∧ Fr zV9.2.2.2.2.2.1 zV9.2.2.2.2.2.2.1 h' m' ∧ News zV9.2.2.2.2.2.1 zV9.2.2.2.2.2.2.1 h' (gf' o') ∧ o'.data = .cell v' ∧ (∀ p ∈ gf' o', p.1 ≠ I) ∧ J i m' gf' ∧ i ≤ vs.length ∧ m = vs.length + 1 - i := by
      rintro hJ9
      k_extra "y"
      refine ex6 hJ9 fun h₄ tk₄ m₄ gf₄ o₄ v₄ hJ9 => ?_
      refine an5 hJ9 fun e9_0 F₄ N₄ d₄ off₄ J₄ => ?_
      iterate 2 clear hJ9
      subst e9_0
      k_extra "z"
      exact ix1 (vs.length + 1 - (i + 1)) (⟨Nat.sub_lt_sub_left (Nat.lt_succ_of_lt hlt') (Nat.lt_succ_self i), ix7 h₄ tk₄ (i + 1) m₄ gf₄ o₄ v₄ (⟨rfl, ⟨oI, (N₄ (I, oI) (.head _)).1, rI⟩, F₄, fun p hp => N₄ p (.tail _ hp), d₄, off₄, J₄, hlt', rfl⟩)⟩)
    cases f with
    | ret v => exact h₃
    | brk => exact h₃
    | cont => exact go h₃
    | next => exact go h₃
  · have hin : i = vs.length := by lia
    subst hin
    have hd := WK.done
    simp only [List.size_toArray] at hd
    refine hd _ _ _ ⟨hst', hl'⟩ fun h₁ tk₁ hk₁ => wpAny_execs_nil ?_
    exact done m' gf' o' v' h₁ tk₁ hJ' ho' (fr_but F' hk₁ hIL hIn) (news_but N' hk₁ hoff')
theorem bm9 {prog : Program} {w : World} {A : Around} {E : Value → Shared → Prop} {s : Shared} {h₀ : Heap} {L : Addr} {env : Env} {x : Str} {px pos : Pos} {iter : PySem.Expr} {body : List Stmt} {c : Addr} {Q : Flow → Shared → Prop} (hk : env.scope.kind = .function) (hx : env.kindOf x = some .cell) (hc : env.cells.lookup x = some c) (h : wpAny (model prog w) A (eval iter env) (wx9 prog w A h₀ L env c body Q E) E s) (hs : ∀ x, foldedSetIterable iter env x = pure x := by intro _; rfl) (hE : PassesOwn (model prog w) A env E := by passes_own) : wpAny (model prog w) A (exec (.For (.Name x px) iter body [] pos) env) Q E s :=
  H14 (by unfold zV9; rfl) @cT9 prog w A E s h₀ L env x px iter body c Q hk hx hc h hs hE
end
end
section
noncomputable def PcsAre (ps : List Value) (done : List Tk) (pcs : List (Addr × Obj)) : Prop :=
  ps.length = done.length ∧ ∀ (i : Nat) tk, done[i]? = some tk → ∃ l k ws, ps[i]? = some (.ref l) ∧ (l, PySem.W.listOf (List.toArray ws) k) ∈ pcs ∧ StrsAre ws ((qf9 tk).map fun c => (⟨#[c]⟩ : Str))
theorem PcsAre.nil (pcs : List (Addr × Obj)) : PcsAre [] [] pcs := ⟨rfl, fun i tk h => by simp at h⟩
theorem PcsAre.snoc {ps : List Value} {done : List Tk} {pcs : List (Addr × Obj)} (h : PcsAre ps done pcs) {tk : Tk} {l : Addr} {k : Nat} {ws : List Value} (hw : StrsAre ws ((qf9 tk).map fun c => (⟨#[c]⟩ : Str))) :
    PcsAre (ps ++ [.ref l]) (done ++ [tk]) ((l, PySem.W.listOf (List.toArray ws) k) :: pcs) := by
  refine ⟨by simp [h.1], fun i t hi => ?_⟩
  by_cases hlt : i < done.length
  · rw [List.getElem?_append_left hlt] at hi
    obtain ⟨l', k', ws', h1, h2, h3⟩ := h.2 i t hi
    exact ix3 l' k' ws' (⟨by rw [List.getElem?_append_left (by rw [h.1]; exact hlt)]; exact h1, .tail _ h2, h3⟩)
  · have hil : i = done.length := by
      have := (List.getElem?_eq_some_iff.mp hi).1
      simp at this; lia
    subst hil
    rw [List.getElem?_append_right (Nat.le_refl _)] at hi
    simp at hi
    subst hi
    exact ix3 l k ws (⟨by rw [List.getElem?_append_right (by rw [h.1]; exact Nat.le_refl _)]; simp [h.1], .head _, hw⟩)
theorem dT9 (l : List Nat) (c : Nat) : (!(Builtin.Str.occurrences ⟨l.toArray⟩ ⟨#[c]⟩ 0 (⟨l.toArray⟩ : Str).length 1).isEmpty) = l.contains c := by
  rw [StrLaws.found_one]
  simp
theorem vU9 (c : Nat) (r : List Nat) : Txt.item ⟨(c :: r).toArray⟩ 0 = ⟨#[c]⟩ := by
  unfold Txt.item Txt.charAt
  have e : seqIndex? 0 (⟨(c :: r).toArray⟩ : Str).length = some 0 := by
    unfold seqIndex?
    simp [Str.length]
  rw [e]
  simp
theorem gl9 (inner r : List Nat) (h : 93 ∉ inner) : Txt.find ⟨(91 :: inner ++ [93] ++ r).toArray⟩ (Str.ofString "]") = ((inner.length + 1 : Nat) : Int) := by
  rw [show Str.ofString "]" = ⟨#[93]⟩ from by decide +kernel]
  generalize hx : (⟨(91 :: inner ++ [93] ++ r).toArray⟩ : Str) = x
  have hl : x.cps.toList = 91 :: inner ++ [93] ++ r := by rw [← hx]
  have hlen : x.length = (91 :: inner ++ [93] ++ r).length := by rw [← hx]; simp [Str.length]
  have at_iff : ∀ i, StrLaws.At x ⟨#[93]⟩ x.length i ↔ (91 :: inner ++ [93] ++ r)[i]? = some 93 := fun i => by rw [← hl]; exact StrLaws.subAt_one x 93 i
  have hgo : (91 :: inner ++ [93] ++ r)[inner.length + 1]? = some 93 := by
    rw [List.append_assoc, List.getElem?_append_right (by simp)]
    simp
  have hno : ∀ i, i < inner.length + 1 → (91 :: inner ++ [93] ++ r)[i]? ≠ some 93 := fun i hi e => by
    rw [List.append_assoc, List.getElem?_append_left (by simpa using hi)] at e
    cases i with
    | zero => simp at e
    | succ i =>
      rw [List.getElem?_cons_succ] at e
      exact h (List.mem_of_getElem? e)
  show (match Builtin.Str.occurrences x ⟨#[93]⟩ 0 x.length 1 with | i :: _ => (i : Int) | [] => -1) = _
  rcases wT9 x ⟨#[93]⟩ 0 x.length 1 (Nat.le_refl 1) with ⟨h0, hn⟩ | ⟨k, q, h0, _, hk, hn⟩
  · exact absurd ((at_iff _).mpr hgo) (hn _ (Nat.zero_le _))
  · rw [h0]
    have h1 := (at_iff k).mp hk
    have h2 : ¬ k < inner.length + 1 := fun hlt => hno k hlt h1
    have h3 : ¬ inner.length + 1 < k := fun hlt => hn _ (Nat.zero_le _) hlt ((at_iff _).mpr hgo)
    show (k : Int) = _
    lia
theorem xd9 (tk : Tk) (rest : List Tk) : rowText (tk :: rest) = tk.part ++ rowText rest := by simp [rowText]
section
variable {prog : Program} {w : World} {A : Around} {E : Value → Shared → Prop} {s : Shared} {x y z : Str} {t u : Tok} {value slice : PySem.Expr} {Q : Value → Shared → Prop}
theorem gc9 {k : Int} (h : Txt.item x k = y) (h0 : 0 ≤ k) (h1 : k < x.length) (hsz : x.length ≤ 1000) (hq : ∀ tk', Q (.str y tk') { s with toks := tk' + 1 })
    (hs : subscripted slice false (.str x t) (.int k u) = operate [.str x t, .int k u] (getItem (.str x t) (.int k u)) := by with_unfolding_all rfl)
    (ht : ∀ r, letTemporaryGo value (.str x t) r = pure () := by intro _; with_unfolding_all rfl) : wpAny (model prog w) A (subscriptTail value slice (.str x t) (.int k u)) Q E s := by
  refine item_str (fitsSsize_of (N := 9223372036854775808) (by lia) (by lia) (Int.le_refl _)) (by lia) (by lia) (fun _ => ?_) hs ht
  rw [h]
  exact hq _
theorem tc9 {hh9 : Heap} {gg9 : Array GenState} {dd9 : Drawn} {tt9 : Nat} {oo9 : OsState} {k : Int} (h : Txt.item x k = y) (h0 : 0 ≤ k) (h1 : k < x.length) (hsz : x.length ≤ 1000) (hq : ∀ tk', Q (.str y tk') ⟨hh9, gg9, dd9, tk' + 1, oo9⟩)
    (hs : subscripted slice false (.str x t) (.int k u) = operate [.str x t, .int k u] (getItem (.str x t) (.int k u)) := by with_unfolding_all rfl)
    (ht : ∀ r, letTemporaryGo value (.str x t) r = pure () := by intro _; with_unfolding_all rfl) : wpAny (model prog w) A (subscriptTail value slice (.str x t) (.int k u)) Q E ⟨hh9, gg9, dd9, tt9, oo9⟩ := gc9 (s := ⟨hh9, gg9, dd9, tt9, oo9⟩) h h0 h1 hsz hq hs ht
theorem bd9 {k : Int} (hh : A.handled = none) (h : Txt.find x y = k) (h0 : 0 ≤ k) (hq : ∀ t' tk', Q (.int k t') { s with toks := tk' }) : wpAny (model prog w) A (call (.builtin "str.index") [.str x t, .str y u]) Q E s :=
  index_or hh (fun e => by rw [h] at e; lia) (fun _ _ => by rw [h]; exact hq _ _)
theorem tg9 {hh9 : Heap} {gg9 : Array GenState} {dd9 : Drawn} {tt9 : Nat} {oo9 : OsState} {k : Int} (hh : A.handled = none) (h : Txt.find x y = k) (h0 : 0 ≤ k) (hq : ∀ t' tk', Q (.int k t') ⟨hh9, gg9, dd9, tk', oo9⟩) : wpAny (model prog w) A (call (.builtin "str.index") [.str x t, .str y u]) Q E ⟨hh9, gg9, dd9, tt9, oo9⟩ := bd9 (s := ⟨hh9, gg9, dd9, tt9, oo9⟩) hh h h0 hq
theorem inTo {b : Bool} (h : (!(Builtin.Str.occurrences x y 0 x.length 1).isEmpty) = b) (hq : Q (.bool b) s) : wpAny (model prog w) A (compareOp .In (.str y u) (.str x t)) Q E s := in_str (by rw [h]; exact hq)
end
end
section
open PySem PySem.W PySem.Spec PySem.Calls PyProof.Rows PyProof.Rows.LCg
noncomputable abbrev wP9 (a b : Int) (t u v : Tok) : Obj := { cls := .type "range", dict := none, data := .fields #[.int a t, .int b u, .int 1 v] }
section
variable {prog : Program} {w : World} {A : Around} {E : Value → Shared → Prop} {s : Shared} {h₀ : Heap} {L : Addr} {m : Str → Option Value} {news : List (Addr × Obj)}
theorem bF9 {n : Int} {t : Tok} {Q : Value → Shared → Prop} (F : Fr h₀ L s.heap m) (N : News h₀ L s.heap news)
    (h : ∀ l h' tk t' v', Fr h₀ L h' m → News h₀ L h' ((l, wP9 0 n t' t v') :: news) → (∀ p ∈ news, p.1 < l) → Q (.ref l) { s with heap := h', toks := tk }) :
    wpAny (model prog w) A (call (.type "range") [.int n t]) Q E s :=
  call_range_1 (h _ _ _ _ _ (F.push _) (N.push F _) fun p hp => Heap.lt_size (N p hp).1)
theorem qL9 {hh9 : Heap} {gg9 : Array GenState} {dd9 : Drawn} {tt9 : Nat} {oo9 : OsState} {n : Int} {t : Tok} {Q : Value → Shared → Prop} (F : Fr h₀ L hh9 m) (N : News h₀ L hh9 news)
    (h : ∀ l h' tk t' v', Fr h₀ L h' m → News h₀ L h' ((l, wP9 0 n t' t v') :: news) → (∀ p ∈ news, p.1 < l) → Q (.ref l) ⟨h', gg9, dd9, tk, oo9⟩) :
    wpAny (model prog w) A (call (.type "range") [.int n t]) Q E ⟨hh9, gg9, dd9, tt9, oo9⟩ := bF9 (s := ⟨hh9, gg9, dd9, tt9, oo9⟩) F N h
theorem cL9 {l : Addr} {vs : List Value} {ss : List Str} {c : Str} {t : Tok} {Q : Value → Shared → Prop} (hl : s.heap.IsList l vs.toArray) (hi : StrsAre vs ss)
    (h : Q (.bool (!(ss.contains c))) s) : wpAny (model prog w) A (compareOp .NotIn (.str c t) (.ref l)) Q E s := by
  refine SeqInW.notIn_listW _ (fun y hy => ug9 (c := c) (t := t) hi y (by simpa using hy)) hl ?_
  rw [← Array.any_toList, show vs.toArray.toList = vs from rfl]
  have e : (vs.any fun y => match y with | .str x _ => x.cps.toList == c.cps.toList | _ => false) = ss.contains c := by
    clear hl h
    induction hi with
    | nil => rfl
    | cons y u r ih =>
      rw [List.any_cons, ih, List.contains_cons]
      congr 1
      show (y.cps.toList == c.cps.toList) = (c == y)
      rw [toList_beq]
      rw [Bool.eq_iff_iff, beq_iff_eq, beq_iff_eq]; exact ⟨Eq.symm, Eq.symm⟩
  have h' : Q (.bool (!(vs.any fun y => match y with | .str x _ => x.cps.toList == c.cps.toList | _ => false))) s := by rw [e]; exact h
  exact h'
noncomputable def qX9 (o : Obj) (ks : List Int) : Prop :=
  (∃ b t u v, o = wP9 0 b t u v ∧ b = ((ks.length : Nat) : Int) ∧ ks = (List.range ks.length).map fun k : Nat => (k : Int)) ∨ (∃ x t k, o = PySem.W.listOf [Value.int x t].toArray k ∧ ks = [x])
variable {ce : Addr → Env} {elt : PySem.Expr} {ifs : List PySem.Expr} {Own : Addr → Option Value → List (Addr × Obj) → Prop}
theorem wM9 {r : Addr} {o : Obj} {ks : List Int} {Fin : Shared → List Value → List (Addr × Obj) → Prop} (J : Nat → List Value → Prop)
    (hh : A.handled = none) (F : Fr h₀ L s.heap m) (N : News h₀ L s.heap news) (hm : (r, o) ∈ news) (hP : qX9 o ks) (hsz : ks.length ≤ 1000)
    (hJ : J 0 []) (hlen : ∀ i ys, J i ys → ys.length ≤ i)
    (turn : ∀ g I, (∀ p ∈ news, @LT.lt Nat _ p.1 I) → nd9 prog w A h₀ L m ce elt ifs Own I news ks.length (fun i v => ∃ k t, ks[i]? = some k ∧ v = .int k t) J { s with heap := g })
    (fin : ∀ g ys, J ks.length ys → Fin { s with heap := g } ys news) :
    wpAny (model prog w) A (pyIter (.ref r)) (LGo prog w A h₀ L m ce elt ifs Own Fin) E s := by
  have hs2 : ks.length ≤ sizeLine := by rw [sizeLine_eq]; lia
  rcases hP with ⟨b, t, u, v, rfl, rfl, hks⟩ | ⟨x, t, k, rfl, rfl⟩
  · refine xR9 (a := 0) (b := ((ks.length : Nat) : Int)) (n := ks.length) J hh (N _ hm).1 ?_ ?_ hs2 F N hJ hlen (fun g I hI i v ys C D ow oI h tk E' hi hp => turn g I hI i v ys C D ow oI h tk E' hi ?_) fin
    · exact small_one (by lia) (by lia) (by lia) (by lia)
    · simpa using rangeSize_nat 0 ks.length
    · obtain ⟨t, rfl⟩ := hp
      refine ix2 _ t (⟨?_, rfl⟩)
      rw [hks, List.getElem?_map, List.getElem?_range (by simpa using hi)]
      simp
  · refine xV9 (vs := [Value.int x t]) J hh F N hm hs2 hJ hlen (fun g I hI i v ys C D ow oI h tk E' hi hp => turn g I hI i v ys C D ow oI h tk E' hi ?_) fin
    have hi0 : i = 0 := by simp at hi; exact hi
    subst hi0
    simp at hp
    exact ix2 x t (⟨rfl, hp.symm⟩)
end
noncomputable def zb9 (sa sb : Bool) (n : Nat) : List Int := if sa && sb then (List.range (6 - n)).map (fun k : Nat => (k : Int)) else if sa then [5 - (n : Int)] else [0]
noncomputable def vr9 (row : List Tk) (w : Str) (k : Int) (j : Nat) : Bool := !(((qf9 (row.getD j .star)).map fun c => (⟨#[c]⟩ : Str)).contains (Txt.item w (k + (j : Int))))
noncomputable def qU9 (row : List Tk) (w : Str) (k : Int) : Bool := decide (((List.range row.length).filter (vr9 row w k)).map (fun j : Nat => (j : Int)) = [])
noncomputable def xt9 (sa sb : Bool) (row : List Tk) (w : Str) : Bool := !decide ((zb9 sa sb row.length).filter (qU9 row w) = [])
theorem xp9 {sa sb : Bool} {n : Nat} (hn : n ≤ 4) {i : Nat} {k : Int} (h : (zb9 sa sb n)[i]? = some k) : 0 ≤ k ∧ k + (n : Int) ≤ 5 := by
  have hm := List.mem_of_getElem? h
  unfold zb9 at hm
  split at hm
  · obtain ⟨a, ha, rfl⟩ := List.mem_map.mp hm
    have := List.mem_range.mp ha
    lia
  · split at hm
    · simp at hm; lia
    · simp at hm; lia
theorem qn9 (sa sb : Bool) (n : Nat) : (zb9 sa sb n).length ≤ 6 := by
  unfold zb9
  split
  · simp
  · split <;> simp
section
variable {prog : Program} {w : World} {A : Around} {E : Value → Shared → Prop} {s : Shared} {h₀ : Heap} {L : Addr} {news : List (Addr × Obj)} {Q : Value → Shared → Prop}
theorem eqI {a b : Addr} {xs : List Value} {ns : List Int} {e f : Nat} (N : News h₀ L s.heap news) (m1 : (a, PySem.W.listOf xs.toArray e) ∈ news) (m2 : (b, PySem.W.listOf #[] f) ∈ news) (hi : IntsAre xs ns) (hu : A.units + 64 < cLine) (h : Q (.bool (decide (ns = []))) s) :
    wpAny (model prog w) A (compareOp .Eq (.ref a) (.ref b)) Q E s :=
  ke_eq_ints (xs := xs) (ys := []) ⟨_, (N _ m1).1, rfl, _, rfl⟩ ⟨_, (N _ m2).1, rfl, _, rfl⟩ hi .nil hu h
theorem neI {a b : Addr} {xs : List Value} {ns : List Int} {e f : Nat} (N : News h₀ L s.heap news) (m1 : (a, PySem.W.listOf xs.toArray e) ∈ news) (m2 : (b, PySem.W.listOf #[] f) ∈ news) (hi : IntsAre xs ns) (hu : A.units + 64 < cLine) (h : Q (.bool (!decide (ns = []))) s) :
    wpAny (model prog w) A (compareOp .NotEq (.ref a) (.ref b)) Q E s :=
  ke_ne_ints (xs := xs) (ys := []) ⟨_, (N _ m1).1, rfl, _, rfl⟩ ⟨_, (N _ m2).1, rfl, _, rfl⟩ hi .nil hu h
theorem zs9 {vs : List Value} {ns : List Int} (h : IntsAre vs ns) (n : Int) (t : Tok) : IntsAre (vs ++ [.int n t]) (ns ++ [n]) := by
  induction h with
  | nil => exact .cons n t .nil
  | cons m u r ih => exact .cons m u ih
theorem zN9 {vs : List Value} {ns : List Int} (h : IntsAre vs ns) : vs.length = ns.length := by
  induction h with
  | nil => rfl
  | cons m u r ih => simp [ih]
end
theorem zv9 {α : Type} (p : α → Bool) (l : List α) {i : Nat} {x : α} (h : l[i]? = some x) : (l.take (i + 1)).filter p = (l.take i).filter p ++ (if p x then [x] else []) := by
  rw [List.take_add_one, h, List.filter_append]
  cases hp : p x <;> simp [hp]
theorem xJ9 (p : Nat → Bool) (j : Nat) : (List.range (j + 1)).filter p = (List.range j).filter p ++ (if p j then [j] else []) := by
  rw [List.range_succ, List.filter_append]
  cases hp : p j <;> simp [hp]
section
variable {prog : Program} {w : World} {A : Around} {E : Value → Shared → Prop} {s : Shared} {h₀ : Heap} {L : Addr} {news : List (Addr × Obj)} {Q : Value → Shared → Prop}
theorem notinN {l : Addr} {vs : List Value} {ss : List Str} {c : Str} {t : Tok} {e : Nat} (N : News h₀ L s.heap news) (hm : (l, PySem.W.listOf vs.toArray e) ∈ news) (hi : StrsAre vs ss)
    (h : Q (.bool (!(ss.contains c))) s) : wpAny (model prog w) A (compareOp .NotIn (.str c t) (.ref l)) Q E s := cL9 ⟨_, (N _ hm).1, rfl, _, rfl⟩ hi h
end
theorem dH9 {row : List Tk} {w it : Str} {k : Int} {j : Nat} (hj : j < row.length) (h : Txt.item w (k + (j : Int)) = it) : vr9 row w k j = !(((qf9 row[j]).map fun c => (⟨#[c]⟩ : Str)).contains it) := by
  unfold vr9
  rw [h, List.getD_eq_getElem?_getD, List.getElem?_eq_getElem hj]
  rfl
end
section
theorem ln21 : True := by
  k_with_none
  (k_with "ne9" => repeat' (first | refine nep ?_ ?_ | exact neWd | exact xf9 | exact xh9 | exact xg9 | exact qM9 | exact qN9 | exact inferInstance))
  (k_with "ite" => first | with_reducible refine ite_tt ?_ | with_reducible refine ite_ff ?_ | (k_closed; first | refine ite_pos (by k_dflt decide) ?_ | refine ite_neg (by k_dflt decide) ?_))
  (k_with "eval Name" => (k_here; first | (refine' nmC ?_ ?_ ?_ ?_ ?_ ?_ ?_ ?_; rotate_right 8; (· k_dflt k_asm); (· k_dflt (exact rfl)); (· k_dflt k_mem); (· k_dflt (first | with_reducible assumption | exact rfl)); (· kernel_rfl); (· kernel_rfl!); (· kernel_rfl)) | (refine' nmK ?_ ?_ ?_ ?_ ?_ ?_ ?_ ?_; rotate_right 8; (iterate 3 (· k_dflt k_asm)); (· k_dflt k_is); iterate 3 (· kernel_rfl)) | (refine' nmB ?_ ?_ ?_ ?_ ?_ ?_ ?_ ?_ ?_ ?_; rotate_right 10; (iterate 3 (· k_dflt k_asm)); (· k_dflt k_is); (· k_dflt boot_fast); (· decide); iterate 3 (· kernel_rfl))))
  (k_with "exec Assign cons ListComp" => k_extra "exec Assign")
  (k_with "exec If" => refine wpAny_If ?_)
  (k_with "isTrue Compare" => refine wpAny_isTrue_Compare1 ?_)
  (k_with "exec Assign" => with_reducible refine wpAny_Assign_Name ?_ (by k_dflt rfl))
  (k_with "execs cons Assign cons" => k_extra "execs cons")
  (k_with "eval Call Attribute" => with_reducible refine MethodCall_ ?_ (by k_dflt rfl))
  (k_with "exec Expr" => with_reducible refine wpAny_Expr_any ?_ (by k_dflt rfl) (by k_dflt rfl))
  (k_with "isTrue" => with_reducible refine isTrue_plain ?_ (by k_dflt rfl))
  (k_with "eval Call Name" => k_extra "eval Call")
  (k_with "eval Call" => with_reducible refine Call_ ?_ (by k_dflt rfl))
  (k_with "spliced" => with_reducible refine args_cons ?_ (by k_dflt rfl))
  (k_with "callWith" => with_reducible (first | refine cwB1 ?_ (by k_dflt rfl) | refine callWith_method1 ?_ (by k_dflt rfl) (by k_dflt rfl)))
  (k_with "newList" => (k_here; refine newList_K (by k_dflt k_asm) (by k_dflt k_asm) ?_ (by k_dflt (exact Nat.le_of_ble_eq_true rfl)); intro _ _ _ _ l1; (try k_lt l1); (revert l1; intro _); (try k_sweep)))
  (k_with "z" => (with_reducible refine hG9 ?_; clear hG9 G9))
  (k_with "y" => (with_reducible refine zh9 fun G9 hG9 => ?_))
  (k_with "w" => (have h3 := @id (zM9 = ⟨_, [_, _, _, _, _, _, _, _, _, _, _, _, _, _, _, _, _, _, _, _, _, _, _, _, _, _, _, _, _, _, _, _, _, _, _, _, _], _, _, _⟩) rfl; rw [h3] at hsc; subst hsc; clear h3))
  (k_with "v" => (refine' let M9 : Model := _; let A9 : Around := _; let e9 : Env := _; (?_ : wpAny M9 A9 (execs _ e9) _ _ _)))
  (k_with "u" => (try (with_reducible refine' (?_ : wpAny M9 A9 _ _ _ _))))
  (k_with "m_k_steps" => repeat' (first | ((fail_if_success (fail_if_success k_unfold)); (first | (with_reducible refine' (?_ : wpAny _ _ _ _ _ _)) | k_unfold); (try dsimp only)) | (k_end; wrow_close) | walk1 | (dsimp only; walk1) | (leave1; walk_say "STEP leave1"; try dsimp only) | fail "no step"))
  (k_with "m_k_ne" => (refine neN ?_; (try dsimp only); lia))
  (k_with "storeName" => (k_here; (refine' (let m9' : Str → Option Value := fun y => if y = (_ : Str) then some (_ : Value) else (_ : Str → Option Value) y; stG m9' rfl ?_ ?_ (by k_dflt rfl) (by k_dflt rfl) ?_); (· k_dflt k_asm); (· k_dflt k_asm)); (revert m9'; intro _); intro _ _ _; (try k_sweep)))
  (k_with "execs cons" => (k_here; first | k_fold | dsimp only | ((fail_if_success (fail_if_success k_gentoks)); refine genT ?_; intro _) | ((with_reducible refine wpAny_execs_cons ?_); (refine' (?_ : let q9 : Flow → Shared → Prop := _; wpAny _ _ _ q9 _ _); intro _))))
  (k_with "eval BinOp" => (k_here; (fail_if_success (fail_if_success k_fold)); (refine' (?_ : let q9 : Value → Shared → Prop := _; wpAny _ _ _ q9 _ _); intro _)))
  (k_with "eval Call" => (k_here; (fail_if_success (fail_if_success k_fold)); (refine' (?_ : let q9 : Value → Shared → Prop := _; wpAny _ _ _ q9 _ _); intro _)))
  (k_with "eval Name" => (k_here; (refine' nmF ?_ ?_ ?_ ?_ ?_ ?_; rotate_right 6; (· k_dflt k_asm); (· k_dflt (exact rfl)); iterate 3 (· kernel_rfl))))
  (k_with "eval Constant int" => refine cI ?_)
  (k_with "eval Constant str" => refine cS ?_)
  (k_with "binaryOp Add int int" => refine addF ?_)
  (k_with "binaryOp Sub int int" => refine subF ?_)
  (k_with "m_enter" => ((case k6 => k_is); (case k7 => k_is); (case k9 => exact rfl); (case kB => exact locs rfl); (case c5 => decide); (case c2 => exact rfl); (case c3 => exact rfl); (case c4 => exact rfl)))
  (k_with "call builtin:list.append" => (k_here; (with_reducible show wpAny _ _ (call (Value.builtin _) [Value.ref _, _]) _ _ _); k_dflt (refine' append_K ?_ ?_ ?_ ?_ ?_; rotate_right 5; (· k_asm); (· k_asm); (· k_upd); rotate_left; (· assumption)); intro _ _ _; (try k_sweep)))
  (k_with "call builtin:list.append" => (k_here; (with_reducible show wpAny _ _ (call (Value.builtin _) [Value.ref _, _]) _ _ _); k_dflt (refine' append_K ?_ ?_ ?_ ?_ ?_; rotate_right 5; (· k_asm); (· k_asm); (· (walk_at "m_upd")); rotate_left; (· (first | with_reducible assumption | exact Nat.le_of_ble_eq_true rfl))); intro _ _ _; (try k_sweep)))
  (k_with "binaryOp Add str str" => (k_here; (with_reducible show wpAny _ _ (binaryOp _ (Value.str _ _) (Value.str (PySem.Str.mk #[_]) _)) _ _ _); (refine wF9 (by assumption) ?_); (intro _ _); (try dsimp only)))
  (k_with "binaryOp LShift int int" => (k_here; first | (refine' vQ9 ?_ ?_ ?_ ?_; rotate_right 4; (· lia); (· assumption); (· assumption)) | (refine' lshift_int ?_ ?_ ?_; rotate_right 3; (· lia); (· assumption))))
  (k_with "binaryOp Mult int int" => (k_here; (refine PyProof.Rows.mul_int ?_ (by assumption))))
  (k_with "binaryOp FloorDiv int int" => (k_here; first | (refine' qj9 ?_ ?_ ?_ ?_; rotate_right 4; (· (first | lia | assumption)); (· (first | assumption | decide +kernel)); (· assumption)) | (refine' vY9 ?_ ?_ ?_; rotate_right 3; (· (first | lia | assumption)); (· (first | assumption | decide +kernel)))))
  (k_with "call builtin:len" => (k_here; (with_reducible show wpAny _ _ (call (Value.builtin "len") [Value.ref _]) _ _ _); (refine' lenL ?_ ?_ ?_ ?_; rotate_right 4; (· k_asm); (· k_mem); (· (first | assumption | ((simp only [List.size_toArray, List.length_replicate]); lia)))); (intro _ _); (try simp only [List.size_toArray, List.length_replicate]); (try dsimp only)))
  (k_with "setItem ref int" => (k_here; (refine' setL ?_ ?_ ?_ ?_ ?_ ?_; rotate_right 6; (· k_asm); (· k_asm); (· k_upd); (· (first | assumption | lia)); (· assumption)); (intro _ _ _); (try k_sweep)))
  (k_with "call ref" => (k_here; refine zK9 ?_))
  (k_with "m_sep" => (repeat' (first | exact List.forall_mem_nil _ | refine List.forall_mem_cons.mpr ⟨?_, ?_⟩ | k_ne)))
  (k_with "m_enterC" => ((case k6 => k_is); (case k7 => k_is); (case k9 => exact rfl); (case kB => exact kindsX rfl); (case c5 => decide); (case c2 => exact rfl); (case c3 => exact rfl); (case c4 => exact rfl)))
  (k_with "m_ne" => (first | with_reducible assumption | k_ne))
  (k_with "m_allne" => (repeat' (first | exact List.forall_mem_nil _ | with_reducible exact AllNe.at _ (by with_reducible assumption) | with_reducible exact allLt_ne (And.right (And.right (by with_reducible assumption))) | with_reducible exact allLt_ne (And.right (And.right (And.right (by with_reducible assumption)))) | with_reducible exact allLt_ne (And.right (And.right (And.right (And.right (by with_reducible assumption))))) | with_reducible exact allLt_ne (And.right (by with_reducible assumption)) | refine List.forall_mem_cons.mpr ⟨by walk_at "m_ne", ?_⟩)))
  (k_with "m_upd" => first | (with_reducible refine Upd.head ?_; walk_at "m_allne") | (refine' Upd.tail ?_ ?_; rotate_right 2; (· (walk_at "m_ne")); (· (walk_at "m_upd"))))
  trivial
section
variable {prog : Program} {w : World} {A : Around} {E : Value → Shared → Prop} {s : Shared} {h₀ : Heap} {L : Addr} {m : Str → Option Value} {news : List (Addr × Obj)} {x y z : Str} {t u : Tok} {value slice : PySem.Expr} {Q : Value → Shared → Prop}
theorem eqS {b : Bool} (h : (x == y) = b) (hq : Q (.bool b) s) : wpAny (model prog w) A (compareOp .Eq (.str x t) (.str y u)) Q E s := eq_str (by rw [h]; exact hq)
theorem neS {b : Bool} (h : (x == y) = b) (hq : Q (.bool (!b)) s) : wpAny (model prog w) A (compareOp .NotEq (.str x t) (.str y u)) Q E s := ne_str (by rw [show (x != y) = !b from by rw [← h]; rfl]; exact hq)
theorem uh9 {i j : Int} {ui uj : Tok} (hF : Fr h₀ L s.heap m) (hN : News h₀ L s.heap news) (he : Txt.slice x (some i) (some j) = y) (h : ∀ h' t' k, Fr h₀ L h' m → News h₀ L h' news → Q (.str y t') { s with heap := h', toks := k })
    (hs : subscripted slice false (.str x t) (.ref s.heap.objs.size) = operate [.ref s.heap.objs.size, .str x t] (getItem (.str x t) (.ref s.heap.objs.size)) := by with_unfolding_all rfl)
    (ht : ∀ r, letTemporaryGo value (.str x t) r = pure () := by intro _; with_unfolding_all rfl) (hsz : x.length ≤ 16777216) :
    wpAny (model prog w) A (subscriptTail value slice (.str x t) (.ref s.heap.objs.size)) Q E { s with heap := s.heap.push { cls := .type "slice", data := .fields #[.int i ui, .int j uj, .none] } } := slice_strN_ss hF hN (he ▸ h) hs ht (by rw [sizeLine_eq]; exact hsz)
theorem vz9 {hh9 : Heap} {gg9 : Array GenState} {dd9 : Drawn} {tt9 : Nat} {oo9 : OsState} {i j : Int} {ui uj : Tok} (hF : Fr h₀ L hh9 m) (hN : News h₀ L hh9 news) (he : Txt.slice x (some i) (some j) = y) (h : ∀ h' t' k, Fr h₀ L h' m → News h₀ L h' news → Q (.str y t') ⟨h', gg9, dd9, k, oo9⟩)
    (hs : subscripted slice false (.str x t) (.ref hh9.objs.size) = operate [.ref hh9.objs.size, .str x t] (getItem (.str x t) (.ref hh9.objs.size)) := by with_unfolding_all rfl)
    (ht : ∀ r, letTemporaryGo value (.str x t) r = pure () := by intro _; with_unfolding_all rfl) (hsz : x.length ≤ 16777216) :
    wpAny (model prog w) A (subscriptTail value slice (.str x t) (.ref hh9.objs.size)) Q E ⟨hh9.push { cls := .type "slice", data := .fields #[.int i ui, .int j uj, .none] }, gg9, dd9, tt9, oo9⟩ := uh9 (s := ⟨hh9, gg9, dd9, tt9, oo9⟩) hF hN he h hs ht hsz
theorem uj9 {i : Int} {ui : Tok} (hF : Fr h₀ L s.heap m) (hN : News h₀ L s.heap news) (he : Txt.slice x (some i) none = y) (h : ∀ h' t' k, Fr h₀ L h' m → News h₀ L h' news → Q (.str y t') { s with heap := h', toks := k })
    (hs : subscripted slice false (.str x t) (.ref s.heap.objs.size) = operate [.ref s.heap.objs.size, .str x t] (getItem (.str x t) (.ref s.heap.objs.size)) := by with_unfolding_all rfl)
    (ht : ∀ r, letTemporaryGo value (.str x t) r = pure () := by intro _; with_unfolding_all rfl) (hsz : x.length ≤ 16777216) :
    wpAny (model prog w) A (subscriptTail value slice (.str x t) (.ref s.heap.objs.size)) Q E { s with heap := s.heap.push { cls := .type "slice", data := .fields #[.int i ui, .none, .none] } } := slice_strN_sn hF hN (he ▸ h) hs ht (by rw [sizeLine_eq]; exact hsz)
theorem cJ9 {hh9 : Heap} {gg9 : Array GenState} {dd9 : Drawn} {tt9 : Nat} {oo9 : OsState} {i : Int} {ui : Tok} (hF : Fr h₀ L hh9 m) (hN : News h₀ L hh9 news) (he : Txt.slice x (some i) none = y) (h : ∀ h' t' k, Fr h₀ L h' m → News h₀ L h' news → Q (.str y t') ⟨h', gg9, dd9, k, oo9⟩)
    (hs : subscripted slice false (.str x t) (.ref hh9.objs.size) = operate [.ref hh9.objs.size, .str x t] (getItem (.str x t) (.ref hh9.objs.size)) := by with_unfolding_all rfl)
    (ht : ∀ r, letTemporaryGo value (.str x t) r = pure () := by intro _; with_unfolding_all rfl) (hsz : x.length ≤ 16777216) :
    wpAny (model prog w) A (subscriptTail value slice (.str x t) (.ref hh9.objs.size)) Q E ⟨hh9.push { cls := .type "slice", data := .fields #[.int i ui, .none, .none] }, gg9, dd9, tt9, oo9⟩ := uj9 (s := ⟨hh9, gg9, dd9, tt9, oo9⟩) hF hN he h hs ht hsz
theorem uk9 {j : Int} {uj : Tok} (hF : Fr h₀ L s.heap m) (hN : News h₀ L s.heap news) (he : Txt.slice x none (some j) = y) (h : ∀ h' t' k, Fr h₀ L h' m → News h₀ L h' news → Q (.str y t') { s with heap := h', toks := k })
    (hs : subscripted slice false (.str x t) (.ref s.heap.objs.size) = operate [.ref s.heap.objs.size, .str x t] (getItem (.str x t) (.ref s.heap.objs.size)) := by with_unfolding_all rfl)
    (ht : ∀ r, letTemporaryGo value (.str x t) r = pure () := by intro _; with_unfolding_all rfl) (hsz : x.length ≤ 16777216) :
    wpAny (model prog w) A (subscriptTail value slice (.str x t) (.ref s.heap.objs.size)) Q E { s with heap := s.heap.push { cls := .type "slice", data := .fields #[.none, .int j uj, .none] } } := slice_strN_ns hF hN (he ▸ h) hs ht (by rw [sizeLine_eq]; exact hsz)
theorem cK9 {hh9 : Heap} {gg9 : Array GenState} {dd9 : Drawn} {tt9 : Nat} {oo9 : OsState} {j : Int} {uj : Tok} (hF : Fr h₀ L hh9 m) (hN : News h₀ L hh9 news) (he : Txt.slice x none (some j) = y) (h : ∀ h' t' k, Fr h₀ L h' m → News h₀ L h' news → Q (.str y t') ⟨h', gg9, dd9, k, oo9⟩)
    (hs : subscripted slice false (.str x t) (.ref hh9.objs.size) = operate [.ref hh9.objs.size, .str x t] (getItem (.str x t) (.ref hh9.objs.size)) := by with_unfolding_all rfl)
    (ht : ∀ r, letTemporaryGo value (.str x t) r = pure () := by intro _; with_unfolding_all rfl) (hsz : x.length ≤ 16777216) :
    wpAny (model prog w) A (subscriptTail value slice (.str x t) (.ref hh9.objs.size)) Q E ⟨hh9.push { cls := .type "slice", data := .fields #[.none, .int j uj, .none] }, gg9, dd9, tt9, oo9⟩ := uk9 (s := ⟨hh9, gg9, dd9, tt9, oo9⟩) hF hN he h hs ht hsz
end
theorem ln22 : True := by
  (k_with "m_slice" => first | (with_reducible refine' vz9 ?_ ?_ ?_ ?_ ?_ ?_ ?_; rotate_right 7; (· k_asm); (· k_asm); (· (first | with_reducible assumption | exact rfl)); rotate_left; (· (with_unfolding_all rfl)); (· (intro _; with_unfolding_all rfl)); (· (with_reducible assumption)); intro _ _ _ _ _) | (with_reducible refine' cJ9 ?_ ?_ ?_ ?_ ?_ ?_ ?_; rotate_right 7; (· k_asm); (· k_asm); (· (first | with_reducible assumption | exact rfl)); rotate_left; (· (with_unfolding_all rfl)); (· (intro _; with_unfolding_all rfl)); (· (with_reducible assumption)); intro _ _ _ _ _) | (with_reducible refine' cK9 ?_ ?_ ?_ ?_ ?_ ?_ ?_; rotate_right 7; (· k_asm); (· k_asm); (· (first | with_reducible assumption | exact rfl)); rotate_left; (· (with_unfolding_all rfl)); (· (intro _; with_unfolding_all rfl)); (· (with_reducible assumption)); intro _ _ _ _ _))
  (k_with "newList nil" => (k_here; k_dflt (refine newList_K (by k_asm) (by k_asm) ?_ (Nat.zero_le _)); intro _ _ _ _ l1; (try k_lt l1); (revert l1; intro _); (try k_sweep)))
  (k_with "subscriptTail Name Slice str ref" => (k_here; walk_at "m_slice"))
  (k_with "m_updF" => first | (with_reducible refine UpdF.head ?_; walk_at "m_allne") | (refine' UpdF.tail ?_ ?_; rotate_right 2; (· (walk_at "m_ne")); (· (walk_at "m_updF"))))
  (k_with "storeName" => (k_here; (refine storeX_C (by k_dflt k_asm) (by k_dflt k_asm) (by k_dflt rfl) (by k_dflt (walk_at "m_updF")) (by with_reducible assumption) ?_ (by k_dflt rfl) (by k_dflt rfl); intro h' o' F' N' d'; (try dsimp only at N'); (revert h' o' F' N' d'; intro _ _ _ _ _); (try k_sweep))))
  (k_with "subscriptTail Name Constant str int" => (k_here; (refine tc9 (by with_reducible assumption) (by first | decide | lia) (by lia) (by with_reducible assumption) ?_); intro _))
  (k_with "compareOp In str str" => (k_here; refine inTo (by with_reducible assumption) ?_))
  (k_with "call builtin:str.index" => (k_here; refine tg9 rfl (by with_reducible assumption) (by lia) ?_; intro _ _))
  (k_with "pyIter str" => (k_here; refine zK9 ?_))
  (k_with "pyIter ref" => (k_here; refine zK9 ?_))
  (k_with "compareOp Eq str str" => (k_here; refine eqS (by with_reducible assumption) ?_))
  (k_with "compareOp NotEq str str" => (k_here; refine neS (by with_reducible assumption) ?_))
  trivial
theorem lenTo {prog : Program} {w : World} {A : Around} {E : Value → Shared → Prop} {s : Shared} {x : Str} {t : Tok} {k : Nat} {Q : Value → Shared → Prop} (h : x.length = k) (hk : k ≤ 1000) (hq : ∀ t' tk', Q (.int (k : Int) t') { s with toks := tk' }) : wpAny (model prog w) A (call (.builtin "len") [.str x t]) Q E s :=
  PySem.P.len_str (by lia) (by rw [h]; exact hq _ _)
theorem bR9 {prog : Program} {w : World} {A : Around} {E : Value → Shared → Prop} {s : Shared} {h₀ : Heap} {L : Addr} {news : List (Addr × Obj)} {l : Addr} {vs : List Value} {e n : Nat} {Q : Value → Shared → Prop} (N : News h₀ L s.heap news) (hm : (l, W.listOf vs.toArray e) ∈ news) (h : vs.length = n) (hk : n ≤ 1000) (hq : ∀ t' tk', Q (.int (n : Int) t') { s with toks := tk' }) :
    wpAny (model prog w) A (call (.builtin "len") [.ref l]) Q E s := lenL N hm (by rw [List.size_toArray]; lia) (by rw [List.size_toArray, h]; exact hq)
theorem ln23 : True := by
  (k_with "call builtin:len" => (k_here; first | ((with_reducible show wpAny _ _ (call (Value.builtin "len") [Value.str _ _]) _ _ _); k_dflt (refine lenTo (by with_reducible assumption) (by lia) ?_); (intro _ _)) | ((with_reducible show wpAny _ _ (call (Value.builtin "len") [Value.ref _]) _ _ _); k_dflt (refine bR9 (by k_asm) (by k_mem) (by with_reducible assumption) (by lia) ?_); (intro _ _))))
  (k_with "call type:range" => (k_here; (with_reducible show wpAny _ _ (call (Value.type "range") [Value.int _ _]) _ _ _); k_dflt (refine' qL9 ?_ ?_ ?_; rotate_right 3; (· k_asm); (· k_asm)); intro _ _ _ _ _ _ _ l1; (try k_lt l1); (revert l1; intro _); (try k_sweep)))
  (k_with "m_memP" => repeat (first | with_reducible assumption | refine List.mem_cons_of_mem _ ?_))
  (k_with "call builtin:list.append" => (k_here; (with_reducible show wpAny _ _ (call (Value.builtin _) [Value.ref _, _]) _ _ _); k_dflt (refine' append_K ?_ ?_ ?_ ?_ ?_; rotate_right 5; (· k_asm); (· k_asm); (· (walk_at "m_upd")); rotate_left; (· (first | with_reducible assumption | exact Nat.le_of_ble_eq_true rfl))); intro _ _ _; (try k_sweep)))
  (k_with "compareOp NotIn str ref" => (k_here; (refine' notinN ?_ ?_ ?_ ?_; rotate_right 4; (· k_asm); (· (walk_at "m_memP")); (· (with_reducible assumption)))))
  (k_with "subscriptTail Name Name ref int" => (k_here; (with_reducible show wpAny _ _ (subscriptTail _ _ (Value.ref _) (Value.int _ _)) _ _ _); (k_dflt (refine qO9 (by k_asm) (by k_mem) _ rfl (by with_reducible assumption) (by with_reducible assumption) ?_))))
  (k_with "subscriptTail Name BinOp str int" => (k_here; (refine tc9 (by with_reducible assumption) (by lia) (by lia) (by with_reducible assumption) ?_); intro _))
  (k_with "compareOp Eq ref ref" => (k_here; (refine eqI (by k_asm) (by k_mem) (by k_mem) (by with_reducible assumption) (by show _ + 64 < cLine; lia) ?_)))
  (k_with "compareOp NotEq ref ref" => (k_here; (refine neI (by k_asm) (by k_mem) (by k_mem) (by with_reducible assumption) (by show _ + 64 < cLine; lia) ?_)))
  trivial
noncomputable def cX9 : Prop := True
theorem jN9 : cX9 := trivial
noncomputable def ViaP {α : Type} (g : Heap) (L : Addr) (m : Str → Option Value) (news : List (Addr × Obj)) (P : α → Prop) (s : Shared) (v : α) (s2 : Shared) : Prop :=
  ∃ h' tk', s2 = { s with heap := h', toks := tk' } ∧ Fr g L h' m ∧ News g L h' news ∧ P v
theorem via {α : Type} {M : Model} {A : Around} {t : Sem α} {Q : α → Shared → Prop} {E : Value → Shared → Prop} {s : Shared} {g : Heap} {L : Addr} {m : Str → Option Value} {news : List (Addr × Obj)} (P : α → Prop) (_F : Fr g L s.heap m) (_N : News g L s.heap news)
    (h1 : wpAny M A t (ViaP g L m news P s) E s) (h2 : ∀ v h' tk', Fr g L h' m → News g L h' news → P v → Q v { s with heap := h', toks := tk' }) : wpAny M A t Q E s :=
  wpAny_mono h1 (fun v s2 q => q.elim fun h' q => q.elim fun tk' q => q.1 ▸ h2 v h' tk' q.2.1 q.2.2.1 q.2.2.2) fun _ _ e => e
theorem ln24 : True := by
  (k_with "eval BoolOp" => (k_here; (have hstop_ : cX9 := by with_reducible assumption); clear hstop_; refine zK9 ?_))
  (k_with "isTrue BoolOp" => (k_here; (have hstop_ : cX9 := by with_reducible assumption); clear hstop_; refine zK9 ?_))
  (k_with "eval IfExp" => (k_here; (have hstop_ : cX9 := by with_reducible assumption); clear hstop_; refine zK9 ?_))
  (k_with "ite" => first | with_reducible refine ite_tt ?_ | with_reducible refine ite_ff ?_)
  (k_with "exec While" => (k_here; refine zK9 ?_))
  (k_with "exec While Compare cons nil" => (k_here; refine zK9 ?_))
  (k_with "eval ListComp" => (k_here; refine zK9 ?_))
  (k_with "exec Assign cons ListComp" => (k_here; refine zK9 ?_))
  (k_with "exec For" => (k_here; refine zK9 ?_))
  trivial
theorem rot6 {g h : Heap} {L : Addr} {d a b c e f : Addr × Obj} {r : List (Addr × Obj)} (N : News g L h (d :: a :: b :: c :: e :: f :: r)) : News g L h (a :: b :: c :: e :: f :: d :: r) := fun p hp => N p (by
  rcases List.mem_cons.mp hp with rfl | hp
  · exact .tail _ (.head _)
  rcases List.mem_cons.mp hp with rfl | hp
  · exact .tail _ (.tail _ (.head _))
  rcases List.mem_cons.mp hp with rfl | hp
  · exact .tail _ (.tail _ (.tail _ (.head _)))
  rcases List.mem_cons.mp hp with rfl | hp
  · exact .tail _ (.tail _ (.tail _ (.tail _ (.head _))))
  rcases List.mem_cons.mp hp with rfl | hp
  · exact .tail _ (.tail _ (.tail _ (.tail _ (.tail _ (.head _)))))
  rcases List.mem_cons.mp hp with rfl | hp
  · exact .head _
  · exact .tail _ (.tail _ (.tail _ (.tail _ (.tail _ (.tail _ hp))))))
noncomputable def ViaG {α : Type} (g : Heap) (L : Addr) (P : α → (Str → Option Value) → List (Addr × Obj) → Prop) (s : Shared) (v : α) (s2 : Shared) : Prop :=
  ∃ h' tk' m' nx, s2 = { s with heap := h', toks := tk' } ∧ Fr g L h' m' ∧ News g L h' nx ∧ P v m' nx
theorem viaG {α : Type} {M : Model} {A : Around} {t : Sem α} {Q : α → Shared → Prop} {E : Value → Shared → Prop} {s : Shared} {g : Heap} {L : Addr} {m : Str → Option Value} (P : α → (Str → Option Value) → List (Addr × Obj) → Prop) (_F : Fr g L s.heap m)
    (h1 : wpAny M A t (ViaG g L P s) E s) (h2 : ∀ v h' tk' m' nx, Fr g L h' m' → News g L h' nx → P v m' nx → Q v { s with heap := h', toks := tk' }) : wpAny M A t Q E s :=
  wpAny_mono h1 (fun v s2 q => q.elim fun h' q => q.elim fun tk' q => q.elim fun m' q => q.elim fun nx q => q.1 ▸ h2 v h' tk' m' nx q.2.1 q.2.2.1 q.2.2.2) fun _ _ e => e
theorem ln25 : True := by
  (k_with "exec If Compare cons nil" => (k_here; (have hstop_ : cX9 := by with_reducible assumption); clear hstop_; refine zK9 ?_))
  (k_with "eval Name" => (k_here; (with_reducible show wpAny _ _ (eval (Expr.Name _ _) (compEnvC _ _ _ _)) _ _ _); k_dflt (first | (refine' LCgL.ld_own ?_ ?_ ?_ ?_ ?_; rotate_right 5; (· k_asm); (· k_mem); (· (with_reducible assumption)); (· (with_reducible assumption))) | (refine lcf_cell (by k_asm) (by rfl) (by k_mem) (by with_reducible assumption) ?_ (by rfl) (by rfl)))))
  trivial
noncomputable def Pwfo (V : Wd) (row : List Tk) (t1 : Tok) (vs : List Value) (ws : List Str) (eR : Nat) (R : Addr) : Prop := ∀ (hrow : ∀ t ∈ row, t ≠ Tk.star) (hne : row ≠ []) (hlen : row.length ≤ 4) (hvs : StrsAre vs ws) (hws : ∀ x ∈ ws, x.length = 5) (hw8 : ws.length = 8) (sa sb : Bool), (sa || sb) = true →
   Spc V (.ref 144) [.str (joinedText sa sb row) t1, .ref R] 2 200 [(R, W.listOf vs.toArray eR)] (fun _ => True)
     (zn9 [(R, W.listOf vs.toArray eR)] fun v nx => ∃ D n, v = .ref D ∧ nx = [(D, W.listOf ((ws.map (xt9 sa sb row)).map Value.bool).toArray n)])
@[irreducible] noncomputable def wfo := W7 Pwfo
@[irreducible] noncomputable def cfo := dg9 (H := fun sa sb => (sa || sb) = true) (C := fun sa sb => Spc wfo.1 (.ref 144) [.str (joinedText sa sb wfo.2.1) wfo.2.2.1, .ref wfo.2.2.2.2.2.2] 2 200 [(wfo.2.2.2.2.2.2, W.listOf wfo.2.2.2.1.toArray wfo.2.2.2.2.2.1)] (fun _ => True)
     (zn9 [(wfo.2.2.2.2.2.2, W.listOf wfo.2.2.2.1.toArray wfo.2.2.2.2.2.1)] fun v nx => ∃ D n, v = .ref D ∧ nx = [(D, W.listOf ((wfo.2.2.2.2.1.map (xt9 sa sb wfo.2.1)).map Value.bool).toArray n)])) (fun sa sb hor h => by
    refine' uM9 (binds := [(Str.ofString "text", .str (joinedText sa sb wfo.2.1) wfo.2.2.1), (Str.ofString "stretches", .ref wfo.2.2.2.2.2.2)]) ?k6 ?k7 ?k9 ?kB ?c5 ?c2 ?c3 ?c4 h
    walk_at "m_enterC"
    )
theorem uJ9 : A7 Pwfo wfo := by
  intro hrow hne hlen hvs hws hw8
  refine HB14 (c := cfo) (by unfold cfo; exact rfl) ?_
  intro sa sb hor hd hu _ hsg F N hlt Y B X T ret
  (try dsimp only)
  k_extra "y"
  refine ex3 (PyProof.Rows.CellsAre.three Y) fun o1 o2 o3 hJ9 => ?_
  refine an3 hJ9 fun hE d1 d2 d3 => ?_
  clear hJ9
  clear Y
  rw [hE] at N
  clear hE
  k_extra "z"
  have hlt0 : @LT.lt Nat _ wfo.2.2.2.2.2.2 cfo.2.2.2.2.2.2.2.2.1 := hlt _ (.head _)
  have hbw := word_weight wfo.2.1 hlen
  have hjl : (joinedText sa sb wfo.2.1).length ≤ 16777216 := by simp [joinedText, Str.length]; induction sa <;> induction sb <;> simp [bodyText] <;> lia
  have hbl : (Str.mk (bodyText sa sb wfo.2.1).toArray).length ≤ 16777216 := by simp [Str.length]; induction sa <;> induction sb <;> simp [bodyText] <;> lia
  have f1 := ft1 sa sb wfo.2.1
  have f2 := ft2 sa sb wfo.2.1
  have f3 := ft3 sa sb wfo.2.1
  change o1.data = .cell none at d1
  change o2.data = .cell none at d2
  change o3.data = .cell none at d3
  change Fr cfo.2.2.2.2.2.2.2.1 cfo.2.2.2.2.2.2.2.2.1 cfo.2.2.2.2.2.2.2.2.2.1 (fun y => if y = Str.ofString "stretches" then some (.ref wfo.2.2.2.2.2.2) else if y = Str.ofString "text" then some (.str (joinedText sa sb wfo.2.1) wfo.2.2.1) else none) at F
  change News cfo.2.2.2.2.2.2.2.1 cfo.2.2.2.2.2.2.2.2.1 cfo.2.2.2.2.2.2.2.2.2.1 [(cfo.2.2.2.2.2.2.2.2.1 + 1 + 1 + 1, o1), (cfo.2.2.2.2.2.2.2.2.1 + 1 + 1, o2), (cfo.2.2.2.2.2.2.2.2.1 + 1, o3), (wfo.2.2.2.2.2.2, W.listOf wfo.2.2.2.1.toArray wfo.2.2.2.2.2.1)] at N
  have hstop : cX9 := jN9
  k_steps
  unfold zC9
  rename_i tb _ PL _ lPL _ _ _ _ _ _ _ oP F5 N50 dP _ _
  have N5 : News cfo.2.2.2.2.2.2.2.1 cfo.2.2.2.2.2.2.2.2.1 _ [(PL, W.listOf #[] 0), (cfo.2.2.2.2.2.2.2.2.1 + 1 + 1 + 1, o1), (cfo.2.2.2.2.2.2.2.2.1 + 1 + 1, o2), (cfo.2.2.2.2.2.2.2.2.1 + 1, oP), (wfo.2.2.2.2.2.2, W.listOf wfo.2.2.2.1.toArray wfo.2.2.2.2.2.1)] := fun p hp => N50 p (.tail _ hp)
  clear N50
  refine via (fun v => v = .bool (sa && sb)) F5 N5 ?v1 ?k1
  case v1 =>
    clear hstop ret
    induction sa
    · have f4 := ft4f sb wfo.2.1 hrow
      k_steps
      exact ix2 _ _ (⟨rfl, by assumption, by assumption, rfl⟩)
    · induction sb
      · have f4 := ft4b wfo.2.1
        k_steps
        exact ix2 _ _ (⟨rfl, by assumption, by assumption, rfl⟩)
      · have f4 := ft4t wfo.2.1
        have f5 := ft5t wfo.2.1
        k_steps
        exact ix2 _ _ (⟨rfl, by assumption, by assumption, rfl⟩)
  case k1 =>
    clear F5 N5
    rintro _ h5 tk5 F5 N5 rfl
    have f6 : (Txt.slice ⟨(bodyText sa sb wfo.2.1).toArray⟩ none (some 2) == Str.ofString ".*") = (sa && !sb) := by
      induction sa
      · exact ft6f sb wfo.2.1 hrow hne
      · induction sb
        · exact ft6b wfo.2.1
        · exact ft6t wfo.2.1
    k_steps
    unfold zC9
    rename Fr _ _ _ _ => F6
    rename News _ _ _ _ => N6
    refine via (fun v => v = false) F6 N6 ?v2 ?k2
    case v2 =>
      clear hstop ret
      induction sa
      · obtain rfl : sb = true := by simpa using hor
        have f7 := ft7f true wfo.2.1
        k_steps
        exact ix2 _ _ (⟨rfl, by assumption, by assumption, rfl⟩)
      · induction sb
        · k_steps
          exact ix2 _ _ (⟨rfl, by assumption, by assumption, rfl⟩)
        · k_steps
          exact ix2 _ _ (⟨rfl, by assumption, by assumption, rfl⟩)
    case k2 =>
      clear F6 N6
      rintro _ h6 tk6 F6 N6 rfl
      k_steps
      unfold zC9
      rename Fr _ _ _ _ => F7
      rename News _ _ _ _ => N7
      refine via (fun v => ∃ t, v = .str ⟨(rowText wfo.2.1).toArray⟩ t) F7 N7 ?v3 ?k3
      case v3 =>
        clear hstop ret
        induction sa
        · obtain rfl : sb = true := by simpa using hor
          have f8 := ft8f true wfo.2.1
          k_steps
          exact ix2 _ _ (⟨rfl, by assumption, by assumption, ix1 _ (rfl)⟩)
        · induction sb
          · have f8 := ft8b wfo.2.1
            k_steps
            exact ix2 _ _ (⟨rfl, by assumption, by assumption, ix1 _ (rfl)⟩)
          · have f8 := ft8t wfo.2.1
            k_steps
            exact ix2 _ _ (⟨rfl, by assumption, by assumption, ix1 _ (rfl)⟩)
      case k3 =>
        clear F7 N7
        rintro _ h7 tk7 F7 N7 ⟨t7, rfl⟩
        clear f1 f2 f3 f6 hjl hbl
        k_steps
        unfold zC9
        rename Fr _ _ _ _ => F8
        rename News _ _ _ _ => N80
        have N8 : News cfo.2.2.2.2.2.2.2.1 cfo.2.2.2.2.2.2.2.2.1 _ ((PL, W.listOf #[] 0) :: (cfo.2.2.2.2.2.2.2.2.1 + 1 + 1 + 1, o1) :: (cfo.2.2.2.2.2.2.2.2.1 + 1 + 1, o2) :: (cfo.2.2.2.2.2.2.2.2.1 + 1, oP) :: (wfo.2.2.2.2.2.2, W.listOf wfo.2.2.2.1.toArray wfo.2.2.2.2.2.1) :: []) := fun p hp => N80 p (by first | exact hp | exact .tail _ hp | exact .tail _ (.tail _ hp))
        clear N80
        have nPR : @Ne Nat PL wfo.2.2.2.2.2.2 := neN (by lia)
        have nP1 : @Ne Nat PL (cfo.2.2.2.2.2.2.2.2.1 + 1) := neN (by lia)
        have nP2 : @Ne Nat PL (cfo.2.2.2.2.2.2.2.2.1 + 1 + 1) := neN (by lia)
        have nP3 : @Ne Nat PL (cfo.2.2.2.2.2.2.2.2.1 + 1 + 1 + 1) := neN (by lia)
        have hlR : @LT.lt Nat _ wfo.2.2.2.2.2.2 PL := lPL.2.2.2
        have hl1 : @LT.lt Nat _ (cfo.2.2.2.2.2.2.2.2.1 + 1 + 1 + 1) PL := lPL.1
        clear lPL
        refine qZ9 (n₀ := wfo.2.1.length) (J := fun n m nx => ∃ (done rest : List Tk) (ps : List Value) (e' : Nat) (pcs : List (Addr × Obj)) (oI : Obj) (iv : Option Value) (t7 : Tok) (m' : Str → Option Value), wfo.2.1 = done ++ rest ∧ n = rest.length ∧
          m = (fun y => if y = Str.ofString "row" then some (.str ⟨(rowText rest).toArray⟩ t7) else if y = Str.ofString "amid" then some (.bool (sa && sb)) else if y = Str.ofString "behind" then some (.bool (sa && !sb)) else if y = Str.ofString "stretches" then some (.ref wfo.2.2.2.2.2.2) else m' y) ∧
          nx = (PL, W.listOf ps.toArray e') :: (cfo.2.2.2.2.2.2.2.2.1 + 1 + 1 + 1, o1) :: (cfo.2.2.2.2.2.2.2.2.1 + 1 + 1, oI) :: (cfo.2.2.2.2.2.2.2.2.1 + 1, oP) :: (wfo.2.2.2.2.2.2, W.listOf wfo.2.2.2.1.toArray wfo.2.2.2.2.2.1) :: pcs ∧ oI.data = .cell iv ∧ PcsAre ps done pcs ∧ AllNe PL pcs ∧ AllNe (cfo.2.2.2.2.2.2.2.2.1 + 1) pcs ∧ AllNe (cfo.2.2.2.2.2.2.2.2.1 + 1 + 1) pcs ∧ AllNe (cfo.2.2.2.2.2.2.2.2.1 + 1 + 1 + 1) pcs ∧ AllNe wfo.2.2.2.2.2.2 pcs) PassesOwn.never F8 N8
          ⟨[], wfo.2.1, [], 0, [], o2, none, t7, _, rfl, rfl, zq9 rfl rfl rfl rfl, rfl, d2, PcsAre.nil [], trivial, trivial, trivial, trivial, trivial⟩ ?_
        clear F8 N8
        rintro n _ _ h tk8 hJ9 F8 N8
        k_extra "y"
        refine ex9 hJ9 fun done rest ps e' pcs oI iv t8 m' hJ9 => ?_
        refine an10 hJ9 fun hdr e9_0 e9_1 e9_2 hoI hpc q0 q1 q2 q3 qR => ?_
        iterate 2 clear hJ9
        subst e9_0
        subst e9_1
        subst e9_2
        k_extra "z"
        cases rest with
        | nil =>
          have f9 : ((⟨(rowText []).toArray⟩ : Str) == Str.ofString "") = true := by decide +kernel
          k_steps
          unfold zC9
          rename Fr _ _ _ _ => F10
          rename News _ _ _ _ => N10
          rename_i FL _ lFL _ _ _ _
          have hdn : wfo.2.1 = done := by rw [hdr]; simp
          have hpl : ps.length = wfo.2.1.length := by rw [hdn]; exact hpc.1
          rw [← hdn] at hpc
          clear hdr hdn
          have nF0 : @Ne Nat FL PL := neN (by lia)
          have nF1 : @Ne Nat FL (cfo.2.2.2.2.2.2.2.2.1 + 1) := neN (by lia)
          have nF2 : @Ne Nat FL (cfo.2.2.2.2.2.2.2.2.1 + 1 + 1) := neN (by lia)
          have nF3 : @Ne Nat FL (cfo.2.2.2.2.2.2.2.2.1 + 1 + 1 + 1) := neN (by lia)
          have nFR : @Ne Nat FL wfo.2.2.2.2.2.2 := neN (by lia)
          have qF : AllNe FL pcs := AllNe.of (allLt_ne lFL.2.2.2.2.2)
          refine bm9 (h₀ := cfo.2.2.2.2.2.2.2.1) (L := cfo.2.2.2.2.2.2.2.2.1) (c := cfo.2.2.2.2.2.2.2.2.1 + 1 + 1 + 1) rfl rfl rfl ?_
          k_steps
          rename Fr _ _ _ _ => F11
          rename News _ _ _ _ => N11
          refine ⟨wfo.2.2.2.2.2.2, wfo.2.2.2.1, wfo.2.2.2.2.2.1, _, fun o => (FL, W.listOf #[] 0) :: (PL, W.listOf ps.toArray e') :: (cfo.2.2.2.2.2.2.2.2.1 + 1 + 1 + 1, o) :: (cfo.2.2.2.2.2.2.2.2.1 + 1 + 1, oI) :: (cfo.2.2.2.2.2.2.2.2.1 + 1, oP) :: (wfo.2.2.2.2.2.2, W.listOf wfo.2.2.2.1.toArray wfo.2.2.2.2.2.1) :: pcs, o1, none, fun i m gf => ∃ (fs : List Value) (ef : Nat) (m' : Str → Option Value), m = (fun y => if y = Str.ofString "found" then some (.ref FL) else if y = Str.ofString "amid" then some (.bool (sa && sb)) else if y = Str.ofString "behind" then some (.bool (sa && !sb)) else m' y) ∧
            gf = (fun o => (FL, W.listOf fs.toArray ef) :: (PL, W.listOf ps.toArray e') :: (cfo.2.2.2.2.2.2.2.2.1 + 1 + 1 + 1, o) :: (cfo.2.2.2.2.2.2.2.2.1 + 1 + 1, oI) :: (cfo.2.2.2.2.2.2.2.2.1 + 1, oP) :: (wfo.2.2.2.2.2.2, W.listOf wfo.2.2.2.1.toArray wfo.2.2.2.2.2.1) :: pcs) ∧ fs = ((wfo.2.2.2.2.1.take i).map (xt9 sa sb wfo.2.1)).map Value.bool, rfl, rfl, F11, N11, d1, ⟨[], 0, _, zz9 rfl rfl rfl, rfl, rfl⟩, ?ju, ?turn, ?fin⟩
          case ju =>
            rintro i m gf hJ9
            k_extra "y"
            refine ex3 hJ9 fun fs ef m' hJ9 => ?_
            refine an2 hJ9 fun e9_0 e9_1 hfs => ?_
            iterate 2 clear hJ9
            subst e9_0
            subst e9_1
            k_extra "z"
            exact ⟨fun o => .tail nF3 (.tail nP3 (.head (List.forall_mem_cons.mpr ⟨neN (by lia), List.forall_mem_cons.mpr ⟨neN (by lia), List.forall_mem_cons.mpr ⟨neN (by lia), AllNe.at _ q3⟩⟩⟩))), fun o => (.tail _ (.tail _ (.tail _ (.tail _ (.tail _ (.head _))))))⟩
          case turn =>
            rintro i v _ _ o I oJ h tk hvi hJ9 ho F12 N12 hoff
            k_extra "y"
            refine ex3 hJ9 fun fs ef m' hJ9 => ?_
            refine an2 hJ9 fun e9_0 e9_1 hfs => ?_
            iterate 2 clear hJ9
            subst e9_0
            subst e9_1
            k_extra "z"
            k_extra "y"
            refine ex2 (xW9 hvs hvi) fun stw st hJ9 => ?_
            refine an1 hJ9 fun e9_0 hsw => ?_
            clear hJ9
            subst e9_0
            k_extra "z"
            have hln : stw.length = 5 := hws stw (List.mem_of_getElem? hsw)
            dsimp only at N12 hoff
            k_steps
            unfold zC9
            rename Fr _ _ _ _ => F13
            rename News _ _ _ _ => N13
            refine viaG (fun v m nx => ∃ (l : Addr) (oL : Obj) (tl : Tok) (m' : Str → Option Value), v = .ref l ∧ m = (fun y => if y = Str.ofString "last" then some (.int (5 - (wfo.2.1.length : Int)) tl) else if y = Str.ofString "found" then some (.ref FL) else if y = Str.ofString "amid" then some (.bool (sa && sb)) else if y = Str.ofString "behind" then some (.bool (sa && !sb)) else m' y) ∧
              nx = (l, oL) :: (I, oJ) :: (FL, W.listOf fs.toArray ef) :: (PL, W.listOf ps.toArray e') :: (cfo.2.2.2.2.2.2.2.2.1 + 1 + 1 + 1, o) :: (cfo.2.2.2.2.2.2.2.2.1 + 1 + 1, oI) :: (cfo.2.2.2.2.2.2.2.2.1 + 1, oP) :: (wfo.2.2.2.2.2.2, W.listOf wfo.2.2.2.1.toArray wfo.2.2.2.2.2.1) :: pcs ∧ qX9 oL (zb9 sa sb wfo.2.1.length) ∧ @LT.lt Nat _ FL l) F13 ?v6 ?k6
            case v6 =>
              clear hstop ret
              induction sa
              · induction sb
                · exact absurd hor (by decide)
                · k_steps
                  rename Fr _ _ _ _ => F14
                  rename News _ _ _ _ => N14
                  rename_i l1
                  exact ix4 _ _ _ _ (⟨rfl, F14, N14, ix4 _ _ _ _ (⟨rfl, zq9 rfl rfl rfl rfl, rfl, .inr ⟨_, _, _, rfl, rfl⟩, l1.2.1⟩)⟩)
              · induction sb
                · k_steps
                  rename Fr _ _ _ _ => F14
                  rename News _ _ _ _ => N14
                  rename_i l1
                  exact ix4 _ _ _ _ (⟨rfl, F14, N14, ix4 _ _ _ _ (⟨rfl, zq9 rfl rfl rfl rfl, rfl, .inr ⟨_, _, _, rfl, rfl⟩, l1.2.1⟩)⟩)
                · k_steps
                  rename Fr _ _ _ _ => F14
                  rename News _ _ _ _ => N14
                  rename_i l1
                  exact ix4 _ _ _ _ (⟨rfl, F14, N14, ix4 _ _ _ _ (⟨rfl, zq9 rfl rfl rfl rfl, rfl, .inl ⟨_, _, _, _, rfl, by simp [zb9]; lia, by simp [zb9]⟩, l1.2.1⟩)⟩)
            case k6 =>
              clear F13 N13
              rintro _ h14 tk14 _ _ F14 N14 hJ9
              k_extra "y"
              refine ex4 hJ9 fun lP oL tl m14 hJ9 => ?_
              refine an4 hJ9 fun e9_0 e9_1 e9_2 hPO hIl => ?_
              iterate 2 clear hJ9
              subst e9_0
              subst e9_1
              subst e9_2
              k_extra "z"
              have nIF : @Ne Nat I FL := Ne.symm (hoff (FL, W.listOf fs.toArray ef) (.head _))
              have nlF : @Ne Nat lP FL := neN (by lia)
              k_steps
              unfold zC9
              rename Fr _ _ _ _ => F15
              rename News _ _ _ _ => N15
              have hpm := @xp9 sa sb wfo.2.1.length hlen
              have hp6 := qn9 sa sb wfo.2.1.length
              refine yR9 F15 rfl rfl ⟨fun _ _ => rfl, fun _ => rfl⟩ rfl (by decide) (by decide) ?_
              k_steps
              unfold zC9
              refine wM9 (J := fun i ys => IntsAre ys (((zb9 sa sb wfo.2.1.length).take i).filter (qU9 wfo.2.1 stw))) rfl F15 N15 (.head _) hPO (by lia) .nil ?hlen2 ?turn2 ?fin2
              case hlen2 => intro i ys h; rw [zN9 h]; exact Nat.le_trans (List.length_filter_le _ _) (by rw [List.length_take]; exact Nat.min_le_left _ _)
              case turn2 =>
                intro g1 I2 hI2 i2 v ys C D ow oI2 h tk E' hi hP hJ hO F16 N160 hID hDC
                k_extra "y"
                refine ex2 (hO) fun oC oX hJ9 => ?_
                refine an2 hJ9 fun e9_0 hns hx => ?_
                clear hJ9
                try clear hO
                subst e9_0
                k_extra "z"
                k_extra "y"
                refine ex2 (hP) fun kz tz hJ9 => ?_
                refine an1 hJ9 fun hkz e9_0 => ?_
                clear hJ9
                try clear hP
                subst e9_0
                k_extra "z"
                have N16 : News cfo.2.2.2.2.2.2.2.1 cfo.2.2.2.2.2.2.2.2.1 h ((I2, oI2) :: (C + 1, oX) :: (C, oC) :: (D, W.listOf ys.toArray ys.length) :: (lP, oL) :: (I, oJ) :: (FL, W.listOf fs.toArray ef) :: (PL, W.listOf ps.toArray e') :: (cfo.2.2.2.2.2.2.2.2.1 + 1 + 1 + 1, o) :: (cfo.2.2.2.2.2.2.2.2.1 + 1 + 1, oI) :: (cfo.2.2.2.2.2.2.2.2.1 + 1, oP) :: (wfo.2.2.2.2.2.2, W.listOf wfo.2.2.2.1.toArray wfo.2.2.2.2.2.1) :: pcs) := N160
                obtain ⟨hk0, hk5⟩ := hpm hkz
                clear F15 N15 N160 hpm
                simp only [LTest, List.foldr_cons, List.foldr_nil]
                k_steps
                unfold zC9
                rename Fr _ _ _ _ => F17
                refine xj9 F17 rfl rfl (by decide) rfl (by decide) (by decide) ?_
                k_steps
                unfold zC9
                rename Fr _ _ _ _ => F18
                rename News _ _ _ _ => N18
                refine xR9 (a := 0) (b := ((wfo.2.1.length : Nat) : Int)) (n := wfo.2.1.length) (J := fun j ys => IntsAre ys (((List.range j).filter (vr9 wfo.2.1 stw kz)).map fun j : Nat => (j : Int))) rfl (N18 _ (.head _)).1 (small_one (by lia) (by lia) (by lia) (by lia)) (by simpa using rangeSize_nat 0 wfo.2.1.length) (by rw [sizeLine_eq]; lia) F18 N18 .nil ?hlen3 ?turn3 ?fin3
                case hlen3 => intro i ys h; rw [zN9 h, List.length_map]; exact Nat.le_trans (List.length_filter_le _ _) (by rw [List.length_range]; exact Nat.le_refl _)
                case turn3 =>
                  intro g3 I3 hI3 j v zs C3 D3 ow3 oI3 h3 tk3 E3 hj hP3 hJ3 hO3 F19 N190 hID3 hDC3
                  k_extra "y"
                  refine ex2 (hO3) fun oC3 mC3 hJ9 => ?_
                  refine an2 hJ9 fun e9_0 hns3 hx3 => ?_
                  clear hJ9
                  try clear hO3
                  subst e9_0
                  k_extra "z"
                  obtain ⟨t3, hv3⟩ := hP3
                  rw [Int.zero_add] at hv3
                  subst hv3
                  k_extra "y"
                  refine ex3 (hpc.2 j wfo.2.1[j] (List.getElem?_eq_getElem hj)) fun pl pk pws hJ9 => ?_
                  refine an2 hJ9 fun hpj hpi hpw => ?_
                  clear hJ9
                  k_extra "z"
                  obtain ⟨it, hit⟩ : ∃ it, Txt.item stw (kz + (j : Int)) = it := ⟨_, rfl⟩
                  have hst1 : stw.length ≤ 1000 := by lia
                  have hps1 : ps.length ≤ 1000000 := by lia
                  have hbe := dH9 hj hit
                  have F20 := F19
                  have N20 := N190
                  dsimp only [led, List.cons_append, List.nil_append] at N20
                  clear F19 N190 F18 N18
                  simp only [LTest, List.foldr_cons, List.foldr_nil]
                  k_steps
                  · rename Fr _ _ _ _ => F21
                    rename News _ _ _ _ => N21
                    have hb : vr9 wfo.2.1 stw kz j = false := by rw [hbe]; first | assumption | exact congrArg not (by assumption)
                    refine ix2 _ _ (⟨rfl, F21, N21, ?_⟩)
                    rw [xJ9, if_neg (by rw [hb]; decide), List.append_nil]
                    exact hJ3
                  · rename Fr _ _ _ _ => F21
                    rename News _ _ _ _ => N21
                    have hb : vr9 wfo.2.1 stw kz j = true := by rw [hbe]; first | assumption | exact congrArg not (by assumption)
                    refine ix2 _ _ (⟨rfl, F21, N21, ?_⟩)
                    rw [xJ9, if_pos hb, List.map_append]
                    exact zs9 hJ3 _ _
                case fin3 =>
                  intro g3 zs hJ3 D3 h3 tk3 F20 N20 hlD3
                  have hJ4 : IntsAre zs (((List.range wfo.2.1.length).filter (vr9 wfo.2.1 stw kz)).map fun j : Nat => (j : Int)) := hJ3
                  have hge : qU9 wfo.2.1 stw kz = decide (((List.range wfo.2.1.length).filter (vr9 wfo.2.1 stw kz)).map (fun j : Nat => (j : Int)) = []) := rfl
                  clear F18 N18 hJ3
                  k_lt hlD3
                  k_steps
                  · rename Fr _ _ _ _ => F21
                    rename News _ _ _ _ => N21
                    have hb : qU9 wfo.2.1 stw kz = true := by rw [hge]; assumption
                    refine ix2 _ _ (⟨rfl, F21, (fun p hp => N21 p (.tail _ (.tail _ (.tail _ hp)))), ?_⟩)
                    rw [zv9 _ _ hkz, if_pos hb]
                    exact zs9 hJ _ _
                  · rename Fr _ _ _ _ => F21
                    rename News _ _ _ _ => N21
                    have hb : qU9 wfo.2.1 stw kz = false := by rw [hge]; assumption
                    refine ix2 _ _ (⟨rfl, F21, (fun p hp => N21 p (.tail _ (.tail _ (.tail _ hp)))), ?_⟩)
                    rw [zv9 _ _ hkz, if_neg (by rw [hb]; decide), List.append_nil]
                    exact hJ
              case fin2 =>
                intro g1 ys hJ D h tk F17 N17 hlD
                have hJ4 : IntsAre ys ((zb9 sa sb wfo.2.1.length).filter (qU9 wfo.2.1 stw)) := by
                  have := hJ
                  rw [List.take_length] at this
                  exact this
                have hfe : xt9 sa sb wfo.2.1 stw = !decide ((zb9 sa sb wfo.2.1.length).filter (qU9 wfo.2.1 stw) = []) := rfl
                have hfz : fs.toArray.size ≤ sizeLine := by
                  rw [hfs, sizeLine_eq, List.size_toArray, List.length_map, List.length_map, List.length_take]; lia
                clear F15 N15 hJ
                k_lt hlD
                k_steps
                rename Fr _ _ _ _ => F18
                rename News _ _ _ _ => N18
                show wJ9 _ _ _ _ _ _ _
                simp only [List.push_toArray] at N18
                refine ix6 _ _ _ (fun o => (FL, W.listOf (fs ++ [Value.bool (xt9 sa sb wfo.2.1 stw)]).toArray (ef + 1)) :: (PL, W.listOf ps.toArray e') :: (cfo.2.2.2.2.2.2.2.2.1 + 1 + 1 + 1, o) :: (cfo.2.2.2.2.2.2.2.2.1 + 1 + 1, oI) :: (cfo.2.2.2.2.2.2.2.2.1 + 1, oP) :: (wfo.2.2.2.2.2.2, W.listOf wfo.2.2.2.1.toArray wfo.2.2.2.2.2.1) :: pcs) o _ (⟨rfl, F18, (fun p hp => N18 p (.tail _ (.tail _ (.tail _ hp)))), ho, ?_, ⟨_, _, _, zz9 rfl rfl rfl, rfl, ?_⟩⟩)
                · intro p hp
                  rcases List.mem_cons.mp hp with rfl | hp
                  · exact hoff (FL, W.listOf fs.toArray ef) (.head _)
                  · exact hoff p (.tail _ hp)
                · rw [hfs, List.take_add_one, hsw]; simp
          case fin =>
            rintro _ _ o v h tk hJ9 ho F12 N12
            k_extra "y"
            refine ex3 hJ9 fun fs ef m' hJ9 => ?_
            refine an2 hJ9 fun e9_0 e9_1 hfs => ?_
            iterate 2 clear hJ9
            subst e9_0
            subst e9_1
            k_extra "z"
            dsimp only at N12
            k_steps
            rename Fr _ _ _ _ => F13
            rename News _ _ _ _ => N13
            refine ret _ _ _ _ [(FL, W.listOf fs.toArray ef)] F13 (fun p hp => N13 p (List.mem_singleton.mp hp ▸ .head _)) ⟨FL, ef, rfl, ?_⟩
            rw [hfs, zr9 hvs, List.take_length]
        | cons tkn rest =>
          have htk : tkn ≠ .star := hrow tkn (by rw [hdr]; simp)
          have f9 : ((⟨(rowText (tkn :: rest)).toArray⟩ : Str) == Str.ofString "") = false := by
            k_extra "y"
            refine ex2 (qT9 tkn htk) fun c r hc => ?_
            k_extra "z"
            have hpt := vP9 tkn htk
            have : ∃ c r, rowText (tkn :: rest) = c :: r := by
              cases hb : tkn.isBr
              · rw [hb] at hpt; exact ⟨c, r ++ rowText rest, by simp [rowText, hpt, hc]⟩
              · rw [hb] at hpt; exact ⟨91, tkn.inner ++ [93] ++ rowText rest, by simp [rowText, hpt]⟩
            k_extra "y"
            refine ex2 (this) fun c r e => ?_
            try clear this
            k_extra "z"
            rw [e, show Str.ofString "" = (⟨([] : List Nat).toArray⟩ : Str) from by decide +kernel, qc9]
            simp
          have hrl : (tkn :: rest).length ≤ 4 := by
            have e : wfo.2.1.length = done.length + (tkn :: rest).length := by rw [hdr, List.length_append]
            lia
          have hwt : (rowText (tkn :: rest)).length ≤ 20 := word_weight (tkn :: rest) hrl
          have hxl : (⟨(rowText (tkn :: rest)).toArray⟩ : Str).length = (rowText (tkn :: rest)).length := by simp [Str.length]
          have hx1 : (⟨(rowText (tkn :: rest)).toArray⟩ : Str).length ≤ 1000 := by rw [hxl]; lia
          have hx2 : (⟨(rowText (tkn :: rest)).toArray⟩ : Str).length ≤ 16777216 := by rw [hxl]; lia
          k_extra "y"
          refine ex2 (qT9 tkn htk) fun ci ri hci => ?_
          k_extra "z"
          obtain ⟨h93, hil⟩ := bc9 tkn
          have hpt := vP9 tkn htk
          have hp0 : 0 < (⟨(rowText (tkn :: rest)).toArray⟩ : Str).length := by
            rw [hxl, xd9]; cases hb : tkn.isBr <;> simp [hpt, hb, hci]
          have hE : ∃ g1s : Str, Txt.item ⟨(rowText (tkn :: rest)).toArray⟩ 0 = g1s ∧ (g1s == Str.ofString "[") = tkn.isBr ∧ (tkn.isBr = false → g1s = ⟨tkn.inner.toArray⟩ ∧ Txt.slice ⟨(rowText (tkn :: rest)).toArray⟩ (some 1) none = ⟨(rowText rest).toArray⟩) ∧
              (tkn.isBr = true → Txt.find ⟨(rowText (tkn :: rest)).toArray⟩ (Str.ofString "]") = ((tkn.inner.length + 1 : Nat) : Int) ∧ Txt.slice ⟨(rowText (tkn :: rest)).toArray⟩ (some 1) (some (((tkn.inner.length + 1 : Nat) : Int) + 1 - 1)) = ⟨tkn.inner.toArray⟩ ∧
                Txt.slice ⟨(rowText (tkn :: rest)).toArray⟩ (some (((tkn.inner.length + 1 : Nat) : Int) + 1)) none = ⟨(rowText rest).toArray⟩) := by
            cases hb : tkn.isBr
            · rw [hb] at hpt
              have hpt' : tkn.part = tkn.inner := hpt
              k_extra "y"
              refine ex1 (uI9 tkn htk hb) fun c hJ9 => ?_
              refine an2 hJ9 fun hc hc91 _ => ?_
              clear hJ9
              k_extra "z"
              have g1 : Txt.item ⟨(rowText (tkn :: rest)).toArray⟩ 0 = ⟨tkn.inner.toArray⟩ := by rw [xd9, hpt', hc]; exact vU9 _ _
              have g2 : ((⟨tkn.inner.toArray⟩ : Str) == Str.ofString "[") = false := by
                rw [show Str.ofString "[" = (⟨[91].toArray⟩ : Str) from by decide +kernel, qc9, hc]
                exact decide_eq_false fun e => hc91 (List.cons.inj e).1
              have g3 : Txt.slice ⟨(rowText (tkn :: rest)).toArray⟩ (some 1) none = ⟨(rowText rest).toArray⟩ := by
                have e : rowText (tkn :: rest) = [c] ++ rowText rest ++ [] := by rw [xd9, hpt', hc]; simp
                rw [e]
                exact zl9 _ _ [] _ _ (lo_a 1 rfl) hi_n
              exact ix1 _ (⟨g1, g2, (fun _ => ⟨rfl, g3⟩), (fun h => by cases h)⟩)
            · rw [hb] at hpt
              have hpt' : tkn.part = 91 :: tkn.inner ++ [93] := hpt
              have g1 : Txt.item ⟨(rowText (tkn :: rest)).toArray⟩ 0 = ⟨#[91]⟩ := by rw [xd9, hpt']; exact vU9 _ _
              have g2 : ((⟨#[91]⟩ : Str) == Str.ofString "[") = true := by decide +kernel
              have g4 : Txt.find ⟨(rowText (tkn :: rest)).toArray⟩ (Str.ofString "]") = ((tkn.inner.length + 1 : Nat) : Int) := by rw [xd9, hpt']; exact gl9 _ _ h93
              have g5 : Txt.slice ⟨(rowText (tkn :: rest)).toArray⟩ (some 1) (some (((tkn.inner.length + 1 : Nat) : Int) + 1 - 1)) = ⟨tkn.inner.toArray⟩ := by
                have e : rowText (tkn :: rest) = [91] ++ tkn.inner ++ ([93] ++ rowText rest) := by rw [xd9, hpt']; simp
                rw [e]
                exact zl9 _ _ _ _ _ (lo_a 1 rfl) (by rw [Int.add_sub_cancel]; exact hi_b (tkn.inner.length + 1) (Nat.add_comm 1 _))
              have g6 : Txt.slice ⟨(rowText (tkn :: rest)).toArray⟩ (some (((tkn.inner.length + 1 : Nat) : Int) + 1)) none = ⟨(rowText rest).toArray⟩ := by
                have e : rowText (tkn :: rest) = (91 :: tkn.inner ++ [93]) ++ rowText rest ++ [] := by rw [xd9, hpt']; simp
                rw [e]
                exact zl9 _ _ [] _ _ (lo_a (tkn.inner.length + 2) List.length_append) hi_n
              exact ix1 _ (⟨g1, g2, (fun h => by cases h), (fun _ => ⟨g4, g5, g6⟩)⟩)
          k_extra "y"
          refine ex1 (hE) fun g1s hJ9 => ?_
          refine an3 hJ9 fun g1 g2 gS gB => ?_
          clear hJ9
          try clear hE
          k_extra "z"
          clear hpt hci h93
          k_steps
          unfold zC9
          rename Fr _ _ _ _ => F10
          rename News _ _ _ _ => N10
          refine viaG (fun v m nx => v = .next ∧ ∃ (oI' : Obj) (E : Int) (te tin : Tok) (t8 : Tok) (m' : Str → Option Value), m = (fun y => if y = Str.ofString "end" then some (.int E te) else if y = Str.ofString "row" then some (.str ⟨(rowText (tkn :: rest)).toArray⟩ t8) else if y = Str.ofString "amid" then some (.bool (sa && sb)) else if y = Str.ofString "behind" then some (.bool (sa && !sb)) else if y = Str.ofString "stretches" then some (.ref wfo.2.2.2.2.2.2) else m' y) ∧
            nx = (PL, W.listOf ps.toArray e') :: (cfo.2.2.2.2.2.2.2.2.1 + 1 + 1 + 1, o1) :: (cfo.2.2.2.2.2.2.2.2.1 + 1 + 1, oI') :: (cfo.2.2.2.2.2.2.2.2.1 + 1, oP) :: (wfo.2.2.2.2.2.2, W.listOf wfo.2.2.2.1.toArray wfo.2.2.2.2.2.1) :: pcs ∧ oI'.data = .cell (some (.str ⟨tkn.inner.toArray⟩ tin)) ∧ Txt.slice ⟨(rowText (tkn :: rest)).toArray⟩ (some E) none = ⟨(rowText rest).toArray⟩) F10 ?v5 ?k5
          case v5 =>
            clear hstop ret
            cases hb : tkn.isBr
            · rw [hb] at g2
              obtain ⟨rfl, g3⟩ := gS hb
              k_steps
              rename Fr _ _ _ _ => F11
              rename News _ _ _ _ => N11
              exact ix4 _ _ _ _ (⟨rfl, F11, (fun p hp => N11 p (.tail _ hp)), rfl, ix6 _ _ _ _ _ _ (⟨nN9 rfl rfl rfl rfl rfl, rfl, by assumption, g3⟩)⟩)
            · rw [hb] at g2
              k_extra "y"
              refine an2 (gB hb) fun g4 g5 g6 => ?_
              k_extra "z"
              k_steps
              rename Fr _ _ _ _ => F11
              rename News _ _ _ _ => N11
              exact ix4 _ _ _ _ (⟨rfl, F11, (fun p hp => N11 p (.tail _ hp)), rfl, ix6 _ _ _ _ _ _ (⟨nN9 rfl rfl rfl rfl rfl, rfl, by assumption, g6⟩)⟩)
          case k5 =>
            clear F10 N10 g1 g2 gS gB
            rintro _ h10 tk10 _ _ F10 N10 hJ9
            k_extra "y"
            refine an1 hJ9 fun e9_0 hJ9 => ?_
            refine ex6 hJ9 fun oI' E te tin t11 m11 hJ9 => ?_
            refine an3 hJ9 fun e9_1 e9_2 dI gE => ?_
            iterate 3 clear hJ9
            subst e9_0
            subst e9_1
            subst e9_2
            k_extra "z"
            k_steps
            unfold zC9
            rename Fr _ _ _ _ => F11
            rename News _ _ _ _ => N11
            have hin : ∀ c, (!(Builtin.Str.occurrences ⟨tkn.inner.toArray⟩ ⟨#[c]⟩ 0 (⟨tkn.inner.toArray⟩ : Str).length 1).isEmpty) = tkn.inner.contains c := dT9 tkn.inner
            have hhd : Txt.item ⟨tkn.inner.toArray⟩ 0 = ⟨#[tkn.inner.headD 0]⟩ := by obtain ⟨c, r, e⟩ := qT9 tkn htk; rw [e]; exact vU9 c r
            have hsp : (!(Builtin.Str.occurrences (Str.ofString "^.") ⟨#[tkn.inner.headD 0]⟩ 0 (Str.ofString "^.").length 1).isEmpty) = ((tkn.inner.headD 0 == 94) || (tkn.inner.headD 0 == 46)) := by
              rw [show Str.ofString "^." = (⟨[94, 46].toArray⟩ : Str) from by decide +kernel, dT9]
              simp
              rfl
            have hi1 : (⟨tkn.inner.toArray⟩ : Str).length ≤ 1000 := by simp [Str.length]; lia
            have hi0 : 0 < (⟨tkn.inner.toArray⟩ : Str).length := by obtain ⟨c, r, e⟩ := qT9 tkn htk; rw [e]; simp [Str.length]
            refine xj9 F11 rfl rfl (by decide) rfl (by decide) (by decide) ?_
            k_steps
            unfold zC9
            refine gF9 (J := fun i ys => StrsAre ys ((([97, 98].take i).filter (vM9 tkn)).map fun c => (⟨#[c]⟩ : Str))) rfl F11 N11 (by decide) (by decide +kernel) .nil ?hlen ?turn ?fin
            case hlen => intro i ys h; rw [zr9 h, List.length_map]; exact Nat.le_trans (List.length_filter_le _ _) (by rw [List.length_take]; exact Nat.min_le_left _ _)
            case turn =>
              intro g1 I hI i v ys C D ow oJ h tk E' hi hP hJ hO F12 N12 hID hDC
              k_extra "y"
              refine ex2 (hO) fun oC mC hJ9 => ?_
              refine an2 hJ9 fun e9_0 hns hx => ?_
              clear hJ9
              try clear hO
              subst e9_0
              k_extra "z"
              have F13 := F12
              have N13 : News cfo.2.2.2.2.2.2.2.1 cfo.2.2.2.2.2.2.2.2.1 h ((I, oJ) :: (C, oC) :: (D, W.listOf ys.toArray ys.length) :: (PL, W.listOf ps.toArray e') :: (cfo.2.2.2.2.2.2.2.2.1 + 1 + 1 + 1, o1) :: (cfo.2.2.2.2.2.2.2.2.1 + 1 + 1, oI') :: (cfo.2.2.2.2.2.2.2.2.1 + 1, oP) :: (wfo.2.2.2.2.2.2, W.listOf wfo.2.2.2.1.toArray wfo.2.2.2.2.2.1) :: pcs) := N12
              k_extra "y"
              refine ex2 (hP) fun c u hJ9 => ?_
              refine an1 hJ9 fun hc e9_0 => ?_
              clear hJ9
              try clear hP
              subst e9_0
              k_extra "z"
              have hin1 := hin c
              have hstep : (([97, 98] : List Nat).take (i + 1)).filter (vM9 tkn) = (([97, 98] : List Nat).take i).filter (vM9 tkn) ++ (if vM9 tkn c then [c] else []) := by
                have hci2 : ([97, 98] : List Nat)[i]? = some c := by
                  rw [show (Str.ofString "ab") = (⟨[97, 98].toArray⟩ : Str) from by decide +kernel] at hc
                  simpa using hc
                rw [List.take_add_one, hci2, List.filter_append]
                cases htc : vM9 tkn c <;> simp [htc]
              clear F12 N12 F11 N11 hin
              simp only [LTest, List.foldr_cons, List.foldr_nil]
              k_steps
              · rename Fr _ _ _ _ => F14
                rename News _ _ _ _ => N14
                have ht : vM9 tkn c = true := by unfold vM9; assumption
                refine ix2 _ _ (⟨rfl, F14, N14, ?_⟩)
                rw [hstep, if_pos ht, List.map_append]
                exact zd9 hJ (.cons _ _ .nil)
              · rename Fr _ _ _ _ => F14
                rename News _ _ _ _ => N14
                have htf : vM9 tkn c = false := by unfold vM9; assumption
                have ht : ¬ vM9 tkn c = true := by rw [htf]; decide
                refine ix2 _ _ (⟨rfl, F14, N14, ?_⟩)
                rw [hstep, if_neg ht, List.append_nil]
                exact hJ
            case fin =>
              intro g1 ys hJ D h tk F12 N12 hlD
              have hzp : ps.toArray.size ≤ sizeLine := by
                rw [sizeLine_eq, List.size_toArray, hpc.1]
                have e : wfo.2.1.length = done.length + (tkn :: rest).length := by rw [hdr, List.length_append]
                lia
              k_lt hlD
              clear F11 N11 hin hhd hsp hi1 hi0
              k_steps
              rename Fr _ _ _ _ => F13
              rename News _ _ _ _ => N13
              simp only [List.push_toArray] at N13
              have hJ' : StrsAre ys ((qf9 tkn).map fun c => (⟨#[c]⟩ : Str)) := by
                rw [show (Str.ofString "ab").cps.size = 2 from by decide +kernel] at hJ
                exact hJ
              exact ix5 rest.length _ _ _ _ (⟨rfl, Nat.lt_succ_self _, F13, rot6 N13, ix9 (done ++ [tkn]) rest (ps ++ [.ref D]) _ ((D, W.listOf ys.toArray ys.length) :: pcs) oI' _ _ _ (⟨by rw [hdr]; simp, rfl, zq9 rfl rfl rfl rfl, rfl, dI, hpc.snoc hJ', ⟨neN (by lia), q0⟩, ⟨neN (by lia), q1⟩, ⟨neN (by lia), q2⟩, ⟨neN (by lia), q3⟩, ⟨neN (by lia), qR⟩⟩)⟩)
theorem cS9 (V : Wd) (row : List Tk) (sa sb : Bool) (hor : (sa || sb) = true) (hrow : ∀ t ∈ row, t ≠ Tk.star) (hne : row ≠ []) (hlen : row.length ≤ 4) (t1 : Tok) (vs : List Value) (ws : List Str) (eR : Nat) (R : Addr) (hvs : StrsAre vs ws) (hws : ∀ x ∈ ws, x.length = 5) (hw8 : ws.length = 8) :
   Spc V (.ref 144) [.str (joinedText sa sb row) t1, .ref R] 2 200 [(R, W.listOf vs.toArray eR)] (fun _ => True)
     (zn9 [(R, W.listOf vs.toArray eR)] fun v nx => ∃ D n, v = .ref D ∧ nx = [(D, W.listOf ((ws.map (xt9 sa sb row)).map Value.bool).toArray n)]) := H7 (by unfold wfo; rfl) @uJ9 V row t1 vs ws eR R hrow hne hlen hvs hws hw8 sa sb hor
end
section
theorem xL9 {cm : Str → Option Value} {n : Str} {c : Addr} {ns : List (Str × Addr)} {cells : List (Addr × Obj)} (x : CellsAre cm ((n, c) :: ns) cells) : ∃ o r, cells = (c, o) :: r ∧ o.data = .cell (cm n) ∧ CellsAre cm ns r := by
  cases x with | cons h x => exact ⟨_, _, rfl, h, x⟩
theorem hr9 {cm : Str → Option Value} {cells : List (Addr × Obj)} (x : CellsAre cm [] cells) : cells = [] := by cases x; rfl
theorem qz9 {l r s : List (Addr × Obj)} {a : Addr × Obj} (h : l = a :: r) (k : r = s) : l = a :: s := h.trans (congrArg (List.cons a) k)
theorem kc_twelve {cm : Str → Option Value} {n₁ n₂ n₃ n₄ n₅ n₆ n₇ n₈ n₉ na nb nc : Str} {c₁ c₂ c₃ c₄ c₅ c₆ c₇ c₈ c₉ ca cb cc : Addr} {cells : List (Addr × Obj)}
    (x : CellsAre cm [(n₁, c₁), (n₂, c₂), (n₃, c₃), (n₄, c₄), (n₅, c₅), (n₆, c₆), (n₇, c₇), (n₈, c₈), (n₉, c₉), (na, ca), (nb, cb), (nc, cc)] cells) :
    ∃ o₁ o₂ o₃ o₄ o₅ o₆ o₇ o₈ o₉ oa ob oc, cells = [(c₁, o₁), (c₂, o₂), (c₃, o₃), (c₄, o₄), (c₅, o₅), (c₆, o₆), (c₇, o₇), (c₈, o₈), (c₉, o₉), (ca, oa), (cb, ob), (cc, oc)] ∧ o₁.data = .cell (cm n₁) ∧ o₂.data = .cell (cm n₂) ∧ o₃.data = .cell (cm n₃) ∧ o₄.data = .cell (cm n₄) ∧
      o₅.data = .cell (cm n₅) ∧ o₆.data = .cell (cm n₆) ∧ o₇.data = .cell (cm n₇) ∧ o₈.data = .cell (cm n₈) ∧ o₉.data = .cell (cm n₉) ∧ oa.data = .cell (cm na) ∧ ob.data = .cell (cm nb) ∧ oc.data = .cell (cm nc) := by
  refine zh9 fun G hG => ?_
  refine ex2 (xL9 x) fun p1 r1 h1 => ?_
  refine ex2 (xL9 h1.2.2) fun p2 r2 h2 => ?_
  refine ex2 (xL9 h2.2.2) fun p3 r3 h3 => ?_
  refine ex2 (xL9 h3.2.2) fun p4 r4 h4 => ?_
  refine ex2 (xL9 h4.2.2) fun p5 r5 h5 => ?_
  refine ex2 (xL9 h5.2.2) fun p6 r6 h6 => ?_
  refine ex2 (xL9 h6.2.2) fun p7 r7 h7 => ?_
  refine ex2 (xL9 h7.2.2) fun p8 r8 h8 => ?_
  refine ex2 (xL9 h8.2.2) fun p9 r9 h9 => ?_
  refine ex2 (xL9 h9.2.2) fun p10 r10 h10 => ?_
  refine ex2 (xL9 h10.2.2) fun p11 r11 h11 => ?_
  refine ex2 (xL9 h11.2.2) fun p12 r12 h12 => ?_
  exact hG (ix12 p1 p2 p3 p4 p5 p6 p7 p8 p9 p10 p11 p12 ⟨qz9 h1.1 (qz9 h2.1 (qz9 h3.1 (qz9 h4.1 (qz9 h5.1 (qz9 h6.1 (qz9 h7.1 (qz9 h8.1 (qz9 h9.1 (qz9 h10.1 (qz9 h11.1 (qz9 h12.1 (hr9 h12.2.2)))))))))))), h1.2.1, h2.2.1, h3.2.1, h4.2.1, h5.2.1, h6.2.1, h7.2.1, h8.2.1, h9.2.1, h10.2.1, h11.2.1, h12.2.1⟩)
structure GoodT (tabs : List (Addr × Addr)) (s₁ : Shared) (r : Result) (s' : Shared) : Prop where
  val : r = .ok (.ret (.bool true))
  keep : ∀ b o, (ghostOf s₁.heap tabs).get? b = some o → s'.heap.get? b = some o
  os : s'.os = s₁.os
  bare : AllBare s'.gens
  grown : GrownAll tabs s'.heap
theorem kn_postG {M : Model} {A : Around} {cd : Code} {s s₁ : Shared} {cw : ClaimW} {cl : Str → Option Addr} {mean : ExcName → Option Value} {args : List WData} {tabs : List (Addr × Addr)} (hT : TabsAt tabs s₁.heap) (hr : ∀ a x, cw.raises a x = false)
    (hp : cw.post args (.bool true) args = true) (h : codeAny M A cd (GoodT tabs s₁) s) : codeAny M A cd (GoodWG cw cl mean args s₁) s :=
  codeAny_mono h fun r s' ⟨hv, hk, hos, hg, hgr⟩ => by
    have grown : ∀ b o, b ∈ tabs.map (·.2) → s₁.heap.get? b = some o → isCodeTable s₁.heap b ∧ o = tabObj #[] ∧ ∃ ps, s'.heap.get? b = some (tabObj ps) := fun b o hb e => by
      obtain ⟨q, hq, rfl⟩ := List.mem_map.mp hb
      have e2 := (hT q hq).2
      rw [e] at e2
      exact ⟨((hT q hq).1.tab (hT q hq).2).isCodeTable, Option.some.inj e2, hgr.get q hq⟩
    refine ⟨.inl ⟨.bool true, .bool true, [], hv, fun _ => hr _ _, .bool true, hp, fun _ => ⟨.nil, fun a ha => nomatch ha⟩⟩, ⟨fun b o e => ?_, fun b o e => ?_⟩, hos, hg⟩
    · by_cases hb : b ∈ tabs.map (·.2)
      · obtain ⟨ht, rfl, ps, hP⟩ := grown b o hb e
        exact .inr (.inl ⟨ht, rfl, #[], ps, rfl, by rw [Array.empty_append]; exact hP⟩)
      · exact .inl (hk b o (ghost_ne e hb))
    · by_cases hb : b ∈ tabs.map (·.2)
      · obtain ⟨_, _, ps, hP⟩ := grown b o hb e
        exact ⟨_, hP⟩
      · exact ⟨o, hk b o (ghost_ne e hb)⟩
end
section
theorem idm (V : Wd) (a b : Int) (t1 t2 : Tok) (tb : List (Addr × Obj)) (htb : Tab0 tb) (hb : 0 < b) (hn7 : Builtin.Int.intBits b ≤ 7900) (hk16 : Builtin.Int.intBits a ≤ 14 * Builtin.Int.intBits b) :
   Spc V (.ref 73) [.int a t1, .int b t2] 28 340 tb (fun _ => True) (zn9 tb (yJ9 a b)) :=
  bg9 V (gd9 V (vc9 V (tv9 V (uO9 V) (ts9 V (uO9 V))))) a b t1 t2 tb htb hb hn7 hk16
end
section
theorem modB (x : Int) {m : Int} (h : 0 < m) : 0 ≤ x % m ∧ x % m < m := ⟨Int.emod_nonneg _ (Int.ne_of_gt h), Int.emod_lt_of_pos _ h⟩
theorem ux9 (x : Int) {m : Int} (h : 0 < m) : 0 ≤ x.fmod m ∧ x.fmod m < m := by rw [Int.fmod_eq_emod_of_nonneg _ (Int.le_of_lt h)]; exact modB x h
theorem pos2 {D : Int} (h : 2 ≤ D) : 0 < D := Int.lt_of_lt_of_le (by decide) h
theorem nn2 {D : Int} (h : 2 ≤ D) : 0 ≤ D := Int.le_of_lt (pos2 h)
theorem dQ9 {D c d : Int} (hD : 0 < D) (hc : 0 ≤ c) (hcd : c < d) : 0 ≤ D * c / d ∧ D * c / d < D :=
  ⟨Int.ediv_nonneg (Int.mul_nonneg (Int.le_of_lt hD) hc) (Int.le_trans hc (Int.le_of_lt hcd)), Int.ediv_lt_of_lt_mul (Int.lt_of_le_of_lt hc hcd) (Int.mul_lt_mul_of_pos_left hcd hD)⟩
theorem divB {D : Int} (h : 2 ≤ D) : 0 ≤ D / 1000 ∧ D / 1000 + 1 ≤ D := ⟨Int.ediv_nonneg (nn2 h) (by decide), by have := nn2 h; lia⟩
theorem divS {c m : Int} {K : Int} (hm : 0 ≤ m) (h0 : 0 ≤ c) (h1 : c < K) : 0 ≤ c / m ∧ c / m < K := ⟨Int.ediv_nonneg h0 hm, Int.lt_of_le_of_lt (Int.ediv_le_self _ h0) h1⟩
theorem oct {z : Int} (h0 : 0 ≤ z) (h8 : z < 8) : z = 0 ∨ z = 1 ∨ z = 2 ∨ z = 3 ∨ z = 4 ∨ z = 5 ∨ z = 6 ∨ z = 7 := by
  obtain ⟨n, rfl⟩ := Int.eq_ofNat_of_zero_le h0
  have h : ∀ n : Nat, n < 8 → ((n : Int) = 0 ∨ (n : Int) = 1 ∨ (n : Int) = 2 ∨ (n : Int) = 3 ∨ (n : Int) = 4 ∨ (n : Int) = 5 ∨ (n : Int) = 6 ∨ (n : Int) = 7) := by decide
  exact h n (Int.ofNat_lt.mp h8)
theorem tri {z : Int} (h0 : 0 ≤ z) (h8 : z < 3) : z = 0 ∨ z = 1 ∨ z = 2 := by
  obtain ⟨n, rfl⟩ := Int.eq_ofNat_of_zero_le h0
  have h : ∀ n : Nat, n < 3 → ((n : Int) = 0 ∨ (n : Int) = 1 ∨ (n : Int) = 2) := by decide
  exact h n (Int.ofNat_lt.mp h8)
theorem jl9 {i k : Nat} {x : Int} (e : x = (i : Int)) (h : x < (k : Int)) : i < k := Int.ofNat_lt.mp (e ▸ h)
noncomputable def lawFn : Option (Arguments × List Stmt × Scope) := PySem.Challenge.rw_in0280_01.row.prog.theDef PySem.Challenge.rw_in0280_01.row.name
noncomputable def vS9 : List Stmt := lawFn.elim [] fun d => d.2.1
noncomputable def zM9 : Scope := lawFn.elim default fun d => d.2.2
noncomputable def zS9 (k : Nat) : Stmt := (vS9[k]?).getD default
noncomputable abbrev tW9 : Str := Str.ofString "law"
noncomputable abbrev wZ9 (sc : Scope) (L : Addr) : List (Str × Addr) := cellsFrom (L + 1) sc.names []
noncomputable abbrev zQ9 (sc : Scope) (L fa : Addr) (cd : Value) : Env := envX tW9 sc L fa cd (wZ9 sc L)
noncomputable abbrev lawA (sc : Scope) (L fa : Addr) (cd : Value) (dp un : Nat) (gd : Option (List Code)) : Around := ktrTop dp un gd tW9 sc L fa cd (wZ9 sc L) []
theorem qv9 {g h : Heap} {L : Addr} {a b : Addr × Obj} {r : List (Addr × Obj)} (N : News g L h (a :: b :: r)) : News g L h (a :: r) := fun p hp => N p (by
  rcases List.mem_cons.mp hp with rfl | hp
  · exact .head _
  · exact .tail _ (.tail _ hp))
theorem qW9 {l : Addr} : ∀ {r : List (Addr × Obj)}, AllLt l r → ∀ p ∈ r, p.1 < l
  | [], _, _, h => nomatch h
  | q :: r, x, p, h => by
    rcases List.mem_cons.mp h with rfl | h
    · exact x.1
    · exact qW9 x.2 p h
theorem zx9 {g h : Heap} {L : Addr} {a : Addr × Obj} {r : List (Addr × Obj)} (N : News g L h (a :: r)) : News g L h r := fun p hp => N p (.tail _ hp)
section
variable {g h : Heap} {L : Addr} {m : Str → Option Value} {x1 x2 x3 x4 x5 : Str} {v1 v2 v3 v4 v5 : Value}
theorem qh9 (F : Fr g L h m) (h1 : m x1 = some v1) : Fr g L h (fun y => if y = x1 then some v1 else m y) := by
  rw [← hB9 h1]; exact F
theorem yU9 (F : Fr g L h m) (h1 : m x1 = some v1) (h2 : m x2 = some v2) : Fr g L h (fun y => if y = x1 then some v1 else if y = x2 then some v2 else m y) := by
  rw [← wG9 h1 h2]; exact F
theorem tn9 (F : Fr g L h m) (h1 : m x1 = some v1) (h2 : m x2 = some v2) (h3 : m x3 = some v3) : Fr g L h (fun y => if y = x1 then some v1 else if y = x2 then some v2 else if y = x3 then some v3 else m y) := by
  rw [← zz9 h1 h2 h3]; exact F
theorem gj9 (F : Fr g L h m) (h1 : m x1 = some v1) (h2 : m x2 = some v2) (h3 : m x3 = some v3) (h4 : m x4 = some v4) : Fr g L h (fun y => if y = x1 then some v1 else if y = x2 then some v2 else if y = x3 then some v3 else if y = x4 then some v4 else m y) := by
  rw [← zq9 h1 h2 h3 h4]; exact F
end
noncomputable def rotN (r T D : Int) : Nat → Int
  | 0 => r
  | j + 1 => if D ≤ rotN r T D j + T then rotN r T D j + T - D else rotN r T D j + T
noncomputable def ltN (r T D : Int) (j : Nat) : Nat := if D ≤ rotN r T D j + T then 98 else 97
noncomputable def ltW (r T D : Int) (i : Nat) : Str := ⟨((List.range i).map (ltN r T D)).toArray⟩
theorem gM9 {r T D : Int} (h0 : 0 ≤ r) (h1 : r < D) (hT0 : 0 ≤ T) (hT1 : T < D) (j : Nat) : 0 ≤ rotN r T D j ∧ rotN r T D j < D := by
  induction j with
  | zero => exact ⟨h0, h1⟩
  | succ j ih => exact hL9 hT0 hT1 ih
theorem vW9 {prog : Program} {w : World} {A : Around} {E : Value → Shared → Prop} {s : Shared} {h₀ : Heap} {L : Addr} {news : List (Addr × Obj)} {value slice : PySem.Expr} {D : Addr} {ws : List Value} {v : Value} {n : Nat} {z : Int} {u : Tok} {Q : Value → Shared → Prop} (N : News h₀ L s.heap news) (hm : (D, W.listOf ws.toArray n) ∈ news) (hz : z = ((z.toNat : Nat) : Int)) (hv : ws[z.toNat]? = some v) (hi : z.toNat < 1000000) (h : Q v s)
    (hs : subscripted slice false (.ref D) (.int z u) = operate [.ref D, .int z u] (getItem (.ref D) (.int z u)) := by with_unfolding_all rfl) (hg : ∀ r, letTemporaryGo value (.ref D) r = pure () := by intro _; with_unfolding_all rfl) :
    wpAny (model prog w) A (subscriptTail value slice (.ref D) (.int z u)) Q E s := by
  have hl : s.heap.IsList D ws.toArray := ⟨_, (N _ hm).1, rfl, _, rfl⟩
  refine subscriptTail_builtin hl.typeIs slot_list_getitem.lookup (wpAny_getItem_list hl (by lia) (by lia) (x := v) ?_ h) hs hg
  simpa using hv
noncomputable def xc9 (b : Bool) : Str := if b then Str.ofString "*" else Str.ofString ""
end
section
open PySem PySem.W PySem.Spec PySem.Calls PyProof.Rows PyProof.Rows.LCg
structure ZSt (h : Heap) (a l : Nat) (x : Str) (t : Tok) (ys : Array Value) (k : Nat) (f0 : Value) : Prop where
  z : IsZip h (a + 4) (a + 2) (a + 3) f0
  ti : IsPair h (a + 2) (.ref a) (.ref (a + 1))
  to : ∃ u v, IsPair h (a + 3) u v
  it1 : h.IsStrIter a "str_ascii_iterator" x t k
  it2 : h.IsListIter (a + 1) l k
  ls : h.IsList l ys
theorem ZSt.at' {h h' : Heap} {a l : Nat} {x : Str} {t : Tok} {ys : Array Value} {k : Nat} {f0 : Value} (Z : ZSt h a l x t ys k f0)
    (e : ∀ b : Nat, b = l ∨ (a ≤ b ∧ b ≤ a + 4) → ∀ o, h.get? b = some o → h'.get? b = some o) : ZSt h' a l x t ys k f0 where
  z := e _ (.inr (by lia)) _ Z.z
  ti := e _ (.inr (by lia)) _ Z.ti
  to := let ⟨u, v, p⟩ := Z.to; ⟨u, v, e _ (.inr (by lia)) _ p⟩
  it1 := let ⟨o, ho, r⟩ := Z.it1; ⟨o, e _ (.inr (by lia)) o ho, r⟩
  it2 := Z.it2.at fun o p => e _ (.inr (by lia)) o p
  ls := Z.ls.at fun o p => e _ (.inl rfl) o p
theorem nn {a b : Nat} (h : a ≠ b) : @Ne Addr a b := h
section
variable {prog : Program} {w : World} {A : Around} {E : Value → Shared → Prop} {s : Shared} {a l : Nat} {x : Str} {t : Tok} {ys : Array Value} {k : Nat}
noncomputable def yg9 (prog : Program) (a l : Nat) (x : Str) (t : Tok) (ys : Array Value) (k c : Nat) (y : Value) (Q : Value → Shared → Prop) : Prop := ∀ {w : World} {A : Around} {E : Value → Shared → Prop} {s : Shared} (hla : l < a) (Z : ZSt s.heap a l x t ys k .none) (hx : x.cps[k]? = some c) (hy : ys[k]? = some y) (hQ : ∀ h' u tk, ZSt h' a l x t ys (k + 1) (rawInt s.heap.objs.size) → IsPair h' s.heap.objs.size (.str ⟨#[c]⟩ u) y → h'.objs.size = s.heap.objs.size + 1 →
      (∀ b o, @LT.lt Nat _ b a → s.heap.get? b = some o → h'.get? b = some o) → (∀ b o, @LT.lt Nat _ (a + 4) b → s.heap.get? b = some o → h'.get? b = some o) → Q (.ref s.heap.objs.size) { s with heap := h', toks := tk }), wpAny (model prog w) A (Builtin.«zip.__next__» ⟨[.ref (a + 4)], []⟩) (fun fin s' => ∃ v, fin = .done (.ret v) ∧ Q v s') E s
@[irreducible] noncomputable def zG9 := W10 yg9
theorem cY9 : A10 yg9 zG9 := by
  intro w A E s hla Z hx hy hQ
  obtain ⟨hp, g, d, tk₀, os⟩ := s
  obtain ⟨hz, hTI, ⟨u0, v0, hTO⟩, h1, h2, hl⟩ := Z
  show wpAny _ _ (field (.ref _) 2 >>= _) _ _ _
  refine wpAny_bind (wpAny_field hz rfl (x := .bool false) rfl ?_)
  show wpAny _ _ (field (.ref _) 3 >>= _) _ _ _
  refine wpAny_bind (wpAny_field hz rfl (x := .ref _) rfl ?_)
  refine wpAny_bind (wpAny_seqItems hTI rfl ?_)
  show wpAny _ _ (Builtin.SmallTypes.ownedTupleIsFree (.ref _) >>= _) _ _ _
  refine wpAny_bind ?_
  unfold Builtin.SmallTypes.ownedTupleIsFree
  refine wpAny_bind (wpAny_field hz rfl (x := .none) rfl (wpAny_pure ?_))
  rw [if_pos rfl]
  dsimp only
  refine wpAny_bind (wpAny_rule ?_)
  refine wpAny_bind (wpAny_field hz rfl (x := .ref _) rfl ?_)
  refine wpAny_bind (wpAny_setField_rec hz (by simp) fun ha hza hsa => ?_)
  replace hza : IsZip ha (zG9.2.1 + 4) (zG9.2.1 + 2) (zG9.2.1 + 3) .ellipsis := hza
  refine wpAny_bind ?_
  rw [List.zipIdx_cons, List.zipIdx_cons, List.zipIdx_nil, List.forIn_cons]
  dsimp only
  refine wpAny_bind (wpAny_bind (wpAny_onRaise ?_))
  show wpAny _ _ (Builtin.SmallTypes.nextOf (.ref _) >>= _) _ _ _
  have h1a : ha.IsStrIter zG9.2.1 "str_ascii_iterator" zG9.2.2.2.1 zG9.2.2.2.2.1 zG9.2.2.2.2.2.2.1 := by
    k_extra "y"
    refine ex1 (h1) fun o hJ9 => ?_
    refine an1 hJ9 fun ho r => ?_
    clear hJ9
    try clear h1
    k_extra "z"
    exact ⟨o, hsa.extBut _ _ (nn (by lia)) ho, r⟩
  refine wpAny_bind (wpAny_nextOf_ascii_item h1a hx fun hb h1b hsb => wpAny_pure ?_)
  have kb : ∀ b : Nat, b ≠ zG9.2.1 + 4 → b ≠ zG9.2.1 → ∀ o, hp.get? b = some o → hb.get? b = some o := fun b q1 q2 o e => hsb.extBut _ _ (nn q2) (hsa.extBut _ _ (nn q1) e)
  have hTOb : IsPair hb (zG9.2.1 + 3) u0 v0 := kb _ (by lia) (by lia) _ hTO
  refine wpAny_bind (wpAny_seqItems hTOb rfl ?_)
  refine wpAny_bind (wpAny_updateSeq_pair hTOb fun hc hTOc hsc => ?_)
  replace hTOc : IsPair hc (zG9.2.1 + 3) (.str ⟨#[zG9.2.2.2.2.2.2.2.1]⟩ tk₀) v0 := hTOc
  refine wpAny_bind (wpAny_letGo (wpAny_pure ?_))
  refine wpAny_bind (wpAny_bind (wpAny_onRaise ?_))
  show wpAny _ _ (Builtin.SmallTypes.nextOf (.ref _) >>= _) _ _ _
  have kc : ∀ b : Nat, b ≠ zG9.2.1 + 4 → b ≠ zG9.2.1 → b ≠ zG9.2.1 + 3 → ∀ o, hp.get? b = some o → hc.get? b = some o := fun b q1 q2 q3 o e => hsc.extBut _ _ (nn q3) (kb b q1 q2 o e)
  refine wpAny_bind (wpAny_nextOf_list_item (h2.at fun o e => kc _ (by lia) (by lia) (by lia) o e) (hl.at fun o e => kc _ (by lia) (by lia) (by lia) o e) hy fun hd h2d hsd => wpAny_pure ?_)
  have hTOd : IsPair hd (zG9.2.1 + 3) (.str ⟨#[zG9.2.2.2.2.2.2.2.1]⟩ tk₀) v0 := hsd.extBut _ _ (nn (by lia)) hTOc
  refine wpAny_bind (wpAny_seqItems hTOd rfl ?_)
  refine wpAny_bind (wpAny_updateSeq_pair hTOd fun he hTOe hse => ?_)
  replace hTOe : IsPair he (zG9.2.1 + 3) (.str ⟨#[zG9.2.2.2.2.2.2.2.1]⟩ tk₀) zG9.2.2.2.2.2.2.2.2.1 := hTOe
  refine wpAny_bind (wpAny_letGo (wpAny_pure (wpAny_pure ?_)))
  refine wpAny_bind (wpAny_seqItems hTOe rfl ?_)
  refine wpAny_bind (wpAny_newTuple ?_)
  have hsz : he.objs.size = hp.objs.size := by rw [hse.1, hsd.1, hsc.1, hsb.1, hsa.1]
  have ke : ∀ b : Nat, b ≠ zG9.2.1 + 4 → b ≠ zG9.2.1 → b ≠ zG9.2.1 + 3 → b ≠ zG9.2.1 + 1 → ∀ o, hp.get? b = some o → he.get? b = some o := fun b q1 q2 q3 q4 o e =>
    hse.extBut _ _ (nn q3) (hsd.extBut _ _ (nn q4) (kc b q1 q2 q3 o e))
  have hze : IsZip he (zG9.2.1 + 4) (zG9.2.1 + 2) (zG9.2.1 + 3) .ellipsis := hse.extBut _ _ (nn (by lia)) (hsd.extBut _ _ (nn (by lia)) (hsc.extBut _ _ (nn (by lia)) (hsb.extBut _ _ (nn (by lia)) hza)))
  have h1e : he.IsStrIter zG9.2.1 "str_ascii_iterator" zG9.2.2.2.1 zG9.2.2.2.2.1 (zG9.2.2.2.2.2.2.1 + 1) := by
    k_extra "y"
    refine ex1 (h1b) fun o hJ9 => ?_
    refine an1 hJ9 fun ho r => ?_
    clear hJ9
    try clear h1b
    k_extra "z"
    exact ⟨o, hse.extBut _ _ (nn (by lia)) (hsd.extBut _ _ (nn (by lia)) (hsc.extBut _ _ (nn (by lia)) ho)), r⟩
  have h2e : he.IsListIter (zG9.2.1 + 1) zG9.2.2.1 (zG9.2.2.2.2.2.2.1 + 1) := h2d.extBut hse.extBut (nn (by lia))
  have hzlt : @LT.lt Nat _ (zG9.2.1 + 4) he.objs.size := Heap.lt_size hze
  show wpAny _ _ (Builtin.SmallTypes.ownedTupleHandOut (.ref _) (.ref he.objs.size) >>= _) _ _ _
  refine wpAny_bind ?_
  unfold Builtin.SmallTypes.ownedTupleHandOut
  have hzf : IsZip (he.push { cls := .type "tuple", data := .seq #[.str ⟨#[zG9.2.2.2.2.2.2.2.1]⟩ tk₀, zG9.2.2.2.2.2.2.2.2.1] }) (zG9.2.1 + 4) (zG9.2.1 + 2) (zG9.2.1 + 3) .ellipsis := Heap.get?_push_of_some _ hze
  refine wpAny_bind (wpAny_setField_rec hzf (by simp) fun hg hzg hsg => ?_)
  replace hzg : IsZip hg (zG9.2.1 + 4) (zG9.2.1 + 2) (zG9.2.1 + 3) (rawInt he.objs.size) := hzg
  refine wpAny_setField_rec hzg (by simp) fun hi hzi hsi => ?_
  replace hzi : IsZip hi (zG9.2.1 + 4) (zG9.2.1 + 2) (zG9.2.1 + 3) (rawInt he.objs.size) := hzi
  have up : ∀ b : Nat, b ≠ zG9.2.1 + 4 → ∀ o, he.get? b = some o → hi.get? b = some o := fun b q o e => hsi.extBut _ _ (nn q) (hsg.extBut _ _ (nn q) (Heap.get?_push_of_some _ e))
  have hTi : IsPair hi he.objs.size (.str ⟨#[zG9.2.2.2.2.2.2.2.1]⟩ tk₀) zG9.2.2.2.2.2.2.2.2.1 := hsi.extBut _ _ (nn (Nat.ne_of_gt hzlt)) (hsg.extBut _ _ (nn (Nat.ne_of_gt hzlt)) (Heap.get?_push_size _ rfl))
  have hzs : hi.objs.size = he.objs.size + 1 := by rw [hsi.1, hsg.1, Heap.size_push]
  rw [hsz] at hzi hTi hzs
  refine wpAny_pure ⟨_, rfl, ?_⟩
  show zG9.2.2.2.2.2.2.2.2.2 (.ref he.objs.size) _
  rw [hsz]
  refine hQ hi tk₀ _ ⟨hzi, up _ (by lia) _ (ke _ (by lia) (by lia) (by lia) (by lia) _ hTI), ⟨_, _, up _ (by lia) _ hTOe⟩, ?_, h2e.at fun o e => up _ (by lia) o e, hl.at fun o e => up _ (by lia) o (ke _ (by lia) (by lia) (by lia) (by lia) o e)⟩ hTi hzs
    (fun b o hb e => up b (by lia) o (ke b (by lia) (by lia) (by lia) (by lia) o e)) (fun b o hb e => up b (by lia) o (ke b (by lia) (by lia) (by lia) (by lia) o e))
  k_extra "y"
  refine ex1 (h1e) fun o hJ9 => ?_
  refine an1 hJ9 fun ho r => ?_
  clear hJ9
  try clear h1e
  k_extra "z"
  exact ⟨o, up _ (by lia) o ho, r⟩
theorem dl9 {prog a l x t ys k c y Q : _} : yg9 prog a l x t ys k c y Q := H10 (by unfold zG9; rfl) @cY9 prog a l x t ys k c y Q
noncomputable def wI9 (prog : Program) (w : World) (A : Around) (E : Value → Shared → Prop) (a l : Nat) (x : Str) (t : Tok) (ys : Array Value) (k : Nat) : Prop := ∀ {s : Shared} {Q : Fin → Shared → Prop} (hh : A.handled = none) (Z : ZSt s.heap a l x t ys k .none) (hx : x.cps[k]? = none) (hE : ∀ h' e, (∀ b o, @LT.lt Nat _ b a → s.heap.get? b = some o → h'.get? b = some o) → (∀ b o, @LT.lt Nat _ (a + 4) b → s.heap.get? b = some o → h'.get? b = some o) → (∃ o, h'.get? e = some o ∧ o.cls = .type "StopIteration") → E (.ref e) { s with heap := h' }), wpAny (model prog w) A (Builtin.«zip.__next__» ⟨[.ref (a + 4)], []⟩) Q E s
@[irreducible] noncomputable def xB9 := W10 wI9
theorem nf9 : A10 wI9 xB9 := by
  intro s Q hh Z hx hE
  obtain ⟨hz, hTI, ⟨u0, v0, hTO⟩, h1, h2, hl⟩ := Z
  show wpAny _ _ (field (.ref _) 2 >>= _) _ _ _
  refine wpAny_bind (wpAny_field hz rfl (x := .bool false) rfl ?_)
  show wpAny _ _ (field (.ref _) 3 >>= _) _ _ _
  refine wpAny_bind (wpAny_field hz rfl (x := .ref _) rfl ?_)
  refine wpAny_bind (wpAny_seqItems hTI rfl ?_)
  show wpAny _ _ (Builtin.SmallTypes.ownedTupleIsFree (.ref _) >>= _) _ _ _
  refine wpAny_bind ?_
  unfold Builtin.SmallTypes.ownedTupleIsFree
  refine wpAny_bind (wpAny_field hz rfl (x := .none) rfl (wpAny_pure ?_))
  rw [if_pos rfl]
  dsimp only
  refine wpAny_bind (wpAny_rule ?_)
  refine wpAny_bind (wpAny_field hz rfl (x := .ref _) rfl ?_)
  refine wpAny_bind (wpAny_setField_rec hz (by simp) fun ha hza hsa => ?_)
  replace hza : IsZip ha (xB9.2.2.2.2.1 + 4) (xB9.2.2.2.2.1 + 2) (xB9.2.2.2.2.1 + 3) .ellipsis := hza
  refine wpAny_bind ?_
  rw [List.zipIdx_cons, List.zipIdx_cons, List.zipIdx_nil, List.forIn_cons]
  dsimp only
  refine wpAny_bind (wpAny_bind (wpAny_onRaise ?_))
  show wpAny _ _ (Builtin.SmallTypes.nextOf (.ref _) >>= _) _ _ _
  have h1a : ha.IsStrIter xB9.2.2.2.2.1 "str_ascii_iterator" xB9.2.2.2.2.2.2.1 xB9.2.2.2.2.2.2.2.1 xB9.2.2.2.2.2.2.2.2.2 := by
    k_extra "y"
    refine ex1 (h1) fun o hJ9 => ?_
    refine an1 hJ9 fun ho r => ?_
    clear hJ9
    try clear h1
    k_extra "z"
    exact ⟨o, hsa.extBut _ _ (nn (by lia)) ho, r⟩
  refine wpAny_bind (wpAny_nextOf_ascii_end hh h1a hx fun hb e hsb he => ?_)
  k_extra "y"
  refine ex1 (he) fun oe hJ9 => ?_
  refine an1 hJ9 fun hoe hce => ?_
  clear hJ9
  try clear he
  k_extra "z"
  have hzb : IsZip hb (xB9.2.2.2.2.1 + 4) (xB9.2.2.2.2.1 + 2) (xB9.2.2.2.2.1 + 3) .ellipsis := hsb _ _ (nn (by lia)) hza
  have hez : e ≠ xB9.2.2.2.2.1 + 4 := fun q => by subst q; rw [hzb] at hoe; cases hoe; simp at hce
  refine wpAny_setField_rec hzb (by simp) fun hc _ hsc => hE hc e (fun b o hb e => ?_) (fun b o hb e => ?_) ⟨oe, hsc.extBut _ _ hez hoe, hce⟩
  · exact hsc.extBut _ _ (nn (by lia)) (hsb _ _ (nn (by lia)) (hsa.extBut _ _ (nn (by lia)) e))
  · exact hsc.extBut _ _ (nn (by lia)) (hsb _ _ (nn (by lia)) (hsa.extBut _ _ (nn (by lia)) e))
theorem hI9 {prog w A E a l x t ys k : _} : wI9 prog w A E a l x t ys k := H10 (by unfold xB9; rfl) @nf9 prog w A E a l x t ys k
theorem dk9 {c : Nat} {y : Value} {Q : Option Value → Shared → Prop} (hla : l < a) (Z : ZSt s.heap a l x t ys k .none) (hx : x.cps[k]? = some c) (hy : ys[k]? = some y)
    (hQ : ∀ h' u tk, ZSt h' a l x t ys (k + 1) (rawInt s.heap.objs.size) → IsPair h' s.heap.objs.size (.str ⟨#[c]⟩ u) y → h'.objs.size = s.heap.objs.size + 1 →
      (∀ b o, @LT.lt Nat _ b a → s.heap.get? b = some o → h'.get? b = some o) → (∀ b o, @LT.lt Nat _ (a + 4) b → s.heap.get? b = some o → h'.get? b = some o) → Q (some (.ref s.heap.objs.size)) { s with heap := h', toks := tk }) :
    wpAny (model prog w) A (pyNext (.ref (a + 4))) Q E s := by
  have hT : s.TypeIs (.ref (a + 4)) "zip" := ⟨_, Z.z, rfl⟩
  unfold pyNext
  exact wpAny_bind (wpAny_attempt (wpAny_callSpecial?_slot (name := Str.ofString "__next__") hT F.slot_zip_next
    (wpAny_call_entry F.slot_zip_next hT F.entry_zip_next
      (dl9 hla Z hx hy fun h' u tk a1 a2 a3 a4 a5 => wpAny_pure (hQ h' u tk a1 a2 a3 a4 a5)) (F.args_zip_next_1 _))))
theorem dj9 {Q : Option Value → Shared → Prop} (hh : A.handled = none) (Z : ZSt s.heap a l x t ys k .none) (hx : x.cps[k]? = none)
    (hQ : ∀ h', (∀ b o, @LT.lt Nat _ b a → s.heap.get? b = some o → h'.get? b = some o) → (∀ b o, @LT.lt Nat _ (a + 4) b → s.heap.get? b = some o → h'.get? b = some o) → Q none { s with heap := h' }) :
    wpAny (model prog w) A (pyNext (.ref (a + 4))) Q E s := by
  have hT : s.TypeIs (.ref (a + 4)) "zip" := ⟨_, Z.z, rfl⟩
  unfold pyNext
  refine wpAny_bind (wpAny_attempt (wpAny_callSpecial?_slot (name := Str.ofString "__next__") hT F.slot_zip_next
    (wpAny_call_entry F.slot_zip_next hT F.entry_zip_next (hI9 hh Z hx fun h' e hk hk2 he => ?_) (F.args_zip_next_1 _))))
  k_extra "y"
  refine ex1 (he) fun o hJ9 => ?_
  refine an1 hJ9 fun ho hc => ?_
  clear hJ9
  try clear he
  k_extra "z"
  refine wpAny_bind (wpAny_isInstance (T := "StopIteration") (b := true) ⟨o, ho, hc⟩ isSubtype_stop ?_)
  exact wpAny_pure (hQ _ hk hk2)
noncomputable abbrev zsH1 (h : Heap) (x : Str) (t : Tok) : Heap := h.push { cls := .type "str_ascii_iterator", data := .fields #[.str x t, .int 0 0] }
noncomputable abbrev zsH2 (h : Heap) (x : Str) (t : Tok) (l : Addr) : Heap := (zsH1 h x t).push { cls := .type "list_iterator", data := .fields #[.ref l, .int 0 0] }
noncomputable abbrev zsH3 (h : Heap) (x : Str) (t : Tok) (l : Addr) : Heap := (zsH2 h x t l).push { cls := .type "tuple", data := .seq #[.ref h.objs.size, .ref (zsH1 h x t).objs.size] }
noncomputable abbrev zsH4 (h : Heap) (x : Str) (t : Tok) (l : Addr) : Heap := (zsH3 h x t l).push { cls := .type "tuple", data := .seq #[.none, .none] }
noncomputable abbrev zsH5 (h : Heap) (x : Str) (t : Tok) (l : Addr) : Heap := (zsH4 h x t l).push { cls := .type "zip", data := .fields #[.none, .bool false, .bool false, .ref (zsH2 h x t l).objs.size, .ref (zsH3 h x t l).objs.size] }
set_option maxHeartbeats 2000000 in
theorem uC9 (x : Str) (t : Tok) (l2 : Addr) (ys : Array Value) (ha : x.cps.all (· < 128) = true) :
    Meets (Builtin.«zip.__new__» ⟨[.type "zip", .str x t, .ref l2], []⟩) (fun _ R s => s.heap.IsList l2 ys ∧
      R (.ok (.ret (.ref (zsH4 s.heap x t l2).objs.size))) { s with heap := zsH5 s.heap x t l2 }) :=
  .of_wp fun prog w A R s h => by
    obtain ⟨hp, g, d, tk, os⟩ := s; obtain ⟨hl2, h⟩ := h
    have hL2 : Heap.IsList (Shared.heap ⟨hp.push { cls := .type "str_ascii_iterator", data := .fields #[.str x t, .int 0 0] }, g, d, tk, os⟩) l2 ys := Heap.IsList.push hl2 _
    have e : Builtin.SmallTypes.newClass "zip" ⟨[.type "zip", .str x t, .ref l2], []⟩ = pure (.type "zip", [.str x t, .ref l2]) := by kernel_rfl
    unfold Builtin.«zip.__new__»
    refine wpAny_bind (wpAny_of_eq e ?_)
    dsimp only
    rw [if_neg (by decide)]
    refine wpAny_bind ?_
    unfold Builtin.SmallTypes.iterAll
    refine wpAny_bind ?_
    rw [List.forIn_cons]
    refine wpAny_bind (wpAny_bind (wpAny_holding (wpAny_pyIter_ascii ha (wpAny_pure ?_))))
    dsimp only
    rw [List.forIn_cons]
    refine wpAny_bind (wpAny_bind (wpAny_holding (wpAny_pyIter_list hL2 (wpAny_pure ?_))))
    dsimp only
    rw [List.forIn_nil]
    refine wpAny_pure (wpAny_pure ?_)
    refine wpAny_bind (wpAny_newTuple ?_ (Nat.le_of_ble_eq_true rfl))
    refine wpAny_bind (wpAny_newTuple ?_ (Nat.le_of_ble_eq_true rfl))
    refine wpAny_bind ?_
    unfold Builtin.SmallTypes.newRecord
    dsimp only
    wp_walk
    exact ⟨_, rfl, h⟩
theorem hH9 {Q : Value → Shared → Prop} (ha : x.cps.all (· < 128) = true) (hl2 : s.heap.IsList l ys)
    (h : ∀ h', ZSt h' s.heap.objs.size l x t ys 0 .none → h'.objs.size = s.heap.objs.size + 5 → (∀ c o, s.heap.get? c = some o → h'.get? c = some o) → Q (.ref (s.heap.objs.size + 4)) { s with heap := h' }) :
    wpAny (model prog w) A (call (.type "zip") [.str x t, .ref l]) Q E s := by
  refine callType_new F.called_zip (by decide) (F.typeCall_zip_2 _ _) (F.newCall_zip_2 _ _) (fun obj => F.args_object_init_3 obj _ _) F.entry_zip_new
    (uC9 x t l ys ha) ⟨hl2, ?_⟩
  have z1 : (zsH1 s.heap x t).objs.size = s.heap.objs.size + 1 := Heap.size_push ..
  have z2 : (zsH2 s.heap x t l).objs.size = s.heap.objs.size + 2 := by rw [Heap.size_push, z1]
  have z3 : (zsH3 s.heap x t l).objs.size = s.heap.objs.size + 3 := by rw [Heap.size_push, z2]
  have z4 : (zsH4 s.heap x t l).objs.size = s.heap.objs.size + 4 := by rw [Heap.size_push, z3]
  have z5 : (zsH5 s.heap x t l).objs.size = s.heap.objs.size + 5 := by rw [Heap.size_push, z4]
  have up : ∀ (h : Heap) (o o' : Obj) b, h.get? b = some o → (h.push o').get? b = some o := fun h o o' b e => Heap.get?_push_of_some _ e
  have g5 : (zsH5 s.heap x t l).get? (zsH4 s.heap x t l).objs.size = some _ := Heap.get?_push_size _ rfl
  have g4 : (zsH5 s.heap x t l).get? (zsH3 s.heap x t l).objs.size = some _ := up _ _ _ _ (Heap.get?_push_size _ rfl)
  have g3 : (zsH5 s.heap x t l).get? (zsH2 s.heap x t l).objs.size = some _ := up _ _ _ _ (up _ _ _ _ (Heap.get?_push_size _ rfl))
  have g2 : (zsH5 s.heap x t l).get? (zsH1 s.heap x t).objs.size = some _ := up _ _ _ _ (up _ _ _ _ (up _ _ _ _ (Heap.get?_push_size _ rfl)))
  have g1 : (zsH5 s.heap x t l).get? s.heap.objs.size = some _ := up _ _ _ _ (up _ _ _ _ (up _ _ _ _ (up _ _ _ _ (Heap.get?_push_size _ rfl))))
  have kp : ∀ c o, s.heap.get? c = some o → (zsH5 s.heap x t l).get? c = some o := fun c o e => up _ _ _ _ (up _ _ _ _ (up _ _ _ _ (up _ _ _ _ (up _ _ _ _ e))))
  show _ ∧ _
  generalize hH : zsH5 s.heap x t l = H at *
  rw [z2, z3, z4] at g5
  rw [z1, z2] at g3
  rw [z3] at g4
  rw [z1] at g2
  rw [z4]
  exact ⟨⟨_, g5, rfl⟩, h H ⟨g5, g3, ⟨_, _, g4⟩, ⟨_, g1, rfl, rfl⟩, ⟨_, g2, rfl, rfl⟩, hl2.at fun o e => kp _ o e⟩ z5 kp⟩
end
end
section
open PySem PySem.W PySem.Spec PySem.Calls PyProof.Rows PyProof.Rows.LCg
section
variable {prog : Program} {w : World} {A : Around} {E : Value → Shared → Prop} {h₀ : Heap} {L : Addr} {m : Str → Option Value} {env : Env} {s : Shared}
noncomputable abbrev zObs (a : Nat) (o1 o2 o3 o4 o5 : Obj) : List (Addr × Obj) := [(a, o1), (a + 1, o2), (a + 2, o3), (a + 3, o4), (a + 4, o5)]
theorem ZSt.obs {h : Heap} {a l : Nat} {x : Str} {t : Tok} {ys : Array Value} {k : Nat} {f0 : Value} (Z : ZSt h a l x t ys k f0) : ∃ o1 o2 o3 o4 o5, ∀ p ∈ zObs a o1 o2 o3 o4 o5, h.get? p.1 = some p.2 := by
  obtain ⟨z, ti, ⟨u, v, to⟩, ⟨o1, e1, _⟩, ⟨o2, e2, _⟩, _⟩ := Z
  obtain ⟨o3, e3⟩ : ∃ o, h.get? (a + 2) = some o := ⟨_, ti⟩
  obtain ⟨o4, e4⟩ : ∃ o, h.get? (a + 3) = some o := ⟨_, to⟩
  obtain ⟨o5, e5⟩ : ∃ o, h.get? (a + 4) = some o := ⟨_, z⟩
  refine ix5 o1 o2 o3 o4 o5 (fun p hp => ?_)
  simp only [zObs, List.mem_cons, List.not_mem_nil, or_false] at hp
  rcases hp with rfl | rfl | rfl | rfl | rfl
  · exact e1
  · exact e2
  · exact e3
  · exact e4
  · exact e5
theorem ZSt.of_obs {h h' : Heap} {a l : Nat} {x : Str} {t : Tok} {ys : Array Value} {k : Nat} {f0 : Value} (Z : ZSt h a l x t ys k f0) {o1 o2 o3 o4 o5 : Obj} (e : ∀ p ∈ zObs a o1 o2 o3 o4 o5, h.get? p.1 = some p.2) (e' : ∀ p ∈ zObs a o1 o2 o3 o4 o5, h'.get? p.1 = some p.2)
    (el : ∀ o, h.get? l = some o → h'.get? l = some o) : ZSt h' a l x t ys k f0 := by
  refine Z.at' fun b hb o ho => ?_
  rcases hb with rfl | hb
  · exact el o ho
  · have hp : ∃ p ∈ zObs a o1 o2 o3 o4 o5, p.1 = b := by
      have : b = a ∨ b = a + 1 ∨ b = a + 2 ∨ b = a + 3 ∨ b = a + 4 := by lia
      rcases this with rfl | rfl | rfl | rfl | rfl
      · exact ⟨_, .head _, rfl⟩
      · exact ⟨_, .tail _ (.head _), rfl⟩
      · exact ⟨_, .tail _ (.tail _ (.head _)), rfl⟩
      · exact ⟨_, .tail _ (.tail _ (.tail _ (.head _))), rfl⟩
      · exact ⟨_, .tail _ (.tail _ (.tail _ (.tail _ (.head _)))), rfl⟩
    obtain ⟨p, hp, rfl⟩ := hp
    rw [e p hp] at ho
    cases ho
    exact e' p hp
noncomputable def hC9 (prog : Program) (w : World) (A : Around) (h₀ : Heap) (L : Addr) (m : Str → Option Value) (ce : Addr → Env) (elt : PySem.Expr) (x1 x2 : Str) (tx : Str) (vs : List Value) (news : List (Addr × Obj)) (J : Nat → List Value → Prop) (s₂ : Shared) : Prop :=
  ∀ i c u v ys C D oC mC (a : Nat) o1 o2 o3 o4 o5 h tk (E' : Value → Shared → Prop), tx.cps[i]? = some c → vs[i]? = some v → J i ys → NsObj oC mC → mC x1 = some (.str ⟨#[c]⟩ u) → mC x2 = some v → Fr h₀ L h m →
    News h₀ L h ((C, oC) :: (D, W.listOf ys.toArray ys.length) :: (zObs a o1 o2 o3 o4 o5 ++ news)) → (∀ p ∈ news, @LT.lt Nat _ p.1 a) → @LT.lt Nat _ (a + 4) D → @LT.lt Nat _ D C →
    wpAny (model prog w) A (eval elt (ce C)) (fun y s₄ => cW9 h₀ L m s₂ ((C, oC) :: (D, W.listOf ys.toArray ys.length) :: (zObs a o1 o2 o3 o4 o5 ++ news)) (J (i + 1) (ys ++ [y])) s₄) E' { s₂ with heap := h, toks := tk }
noncomputable def yj9 (prog : Program) (w : World) (A : Around) (E : Value → Shared → Prop) (h₀ : Heap) (L : Addr) (m : Str → Option Value) (env : Env) (elt iter : PySem.Expr) (x1 x2 : Str) (p1 p2 : Pos) (scope : Scope) (cl : List (Str × Addr)) (s₂ : Shared) (l : Nat) (tx : Str) (t : Tok) (k : Nat) (news : List (Addr × Obj)) (J : Nat → List Value → Prop) (RR : Value → Addr → Result → Shared → Prop) : Prop := ∀ {tp : Pos} {tq : Nat} {pos : Pos} {a : Nat} {vs : List Value} (hh : A.handled = none) (hlen2 : tx.cps.size = vs.length) (hsz : vs.length ≤ sizeLine) (hcell : ∀ y ∈ scope.names, y.2 ≠ .cell) (hkind : scope.kind = .function) (hx1 : scope.names.lookup x1 = some .local) (hx2 : scope.names.lookup x2 = some .local) (hxx : x1 ≠ x2) (hst : ZSt s₂.heap a l tx t vs.toArray 0 .none) (hfp : @LT.lt Nat _ (a + 4) s₂.heap.objs.size) (hm : (l, W.listOf vs.toArray k) ∈ news) (F : Fr h₀ L s₂.heap m) (N : News h₀ L s₂.heap news) (hLa : @LT.lt Nat _ L a) (hna : ∀ p ∈ news, @LT.lt Nat _ p.1 a) (h0a : ∀ b : Nat, a ≤ b → h₀.get? b = none) (hJ : J 0 []) (turn : hC9 prog w A h₀ L m (fun C => compEnvC scope cl C env) elt x1 x2 tx vs news J s₂) (hlen : ∀ i ys, J i ys → ys.length ≤ i) (hRR : ∀ D C h tk m' ys, J vs.length ys → Fr h₀ L h m → News h₀ L h ((D, W.listOf ys.toArray ys.length) :: news) → @LT.lt Nat _ a D → h.Ns C m' → h₀.get? C = none → h₀.get? D = none → C ≠ L → D ≠ L → C ≠ D → (∀ p ∈ news, p.1 ≠ C) → RR (.ref D) C (.ok .next) { s₂ with heap := h, toks := tk }), wpAny (model prog w) A (newList []) (fun acc s₃ => wpAny (model prog w) A (newFunctionEnv scope env.globals cl [] env.qual none .none (some env)) (fun cenv s₄ =>
      codeAny (model prog w) A (.compStart (.ListComp elt [⟨.Tuple [.Name x1 p1, .Name x2 p2] tq tp, iter, [], 0⟩] scope pos) 0 (.ref (a + 4)) acc { cenv with scope := relabel scope env }) (RR acc cenv.locals) s₄) E s₃) E s₂
@[irreducible] noncomputable def zE9 := W24 yj9
theorem nD9 : A24 yj9 zE9 := by
  intro tp tq pos a vs hh hlen2 hsz hcell hkind hx1 hx2 hxx hst hfp hm F N hLa hna h0a hJ turn hlen hRR
  refine wpAny_newObj_type (wpAny_newFunctionEnv hcell (by intro y hy; simp at hy) (fun h₁ hns₁ hsb₁ => ?_) hkind)
  dsimp only at hns₁ hsb₁ ⊢
  generalize hH2 : zE9.2.2.2.2.2.2.2.2.2.2.2.2.2.2.2.2.1.heap.push { cls := .type "list", dict := none, data := .seq ([] : List Value).toArray } = H2 at hns₁ hsb₁ ⊢
  have hC : H2.objs.size = zE9.2.2.2.2.2.2.2.2.2.2.2.2.2.2.2.2.1.heap.objs.size + 1 := by rw [← hH2, Heap.size_push]
  have old0 : ∀ b o, zE9.2.2.2.2.2.2.2.2.2.2.2.2.2.2.2.2.1.heap.get? b = some o → h₁.get? b = some o := fun b o e => hsb₁.extBut b o (by have : @LT.lt Nat _ b zE9.2.2.2.2.2.2.2.2.2.2.2.2.2.2.2.2.1.heap.objs.size := Heap.lt_size e; rw [hC]; exact nn (by lia)) (Heap.get?_push_of_some _ (hH2 ▸ Heap.get?_push_of_some _ e))
  have hacc : h₁.get? zE9.2.2.2.2.2.2.2.2.2.2.2.2.2.2.2.2.1.heap.objs.size = some (W.listOf #[] 0) := hsb₁.extBut _ _ (by rw [hC]; exact nn (by lia)) (Heap.get?_push_of_some _ (hH2 ▸ Heap.get?_push_size _ rfl))
  have fresh₀ : ∀ b : Nat, zE9.2.2.2.2.2.2.2.2.2.2.2.2.2.2.2.2.1.heap.objs.size ≤ b → zE9.2.2.2.2.1.get? b = none := fun b hb => h0a b (by lia)
  generalize hDD : zE9.2.2.2.2.2.2.2.2.2.2.2.2.2.2.2.2.1.heap.objs.size = D at hacc hC fresh₀ hfp ⊢
  have hCC : H2.objs.size = D + 1 := hC
  generalize H2.objs.size = C at hns₁ hsb₁ hCC ⊢
  have hLD : @LT.lt Nat _ zE9.2.2.2.2.2.1 D := by lia
  have loop : ∀ s₃ : Shared, s₃ = { zE9.2.2.2.2.2.2.2.2.2.2.2.2.2.2.2.2.1 with heap := h₁, toks := zE9.2.2.2.2.2.2.2.2.2.2.2.2.2.2.2.2.1.toks + ([] : List (Str × Value)).length } →
      codeAny (model zE9.1 zE9.2.1) zE9.2.2.1 (.compLoop (.ListComp zE9.2.2.2.2.2.2.2.2.1 [⟨.Tuple [.Name zE9.2.2.2.2.2.2.2.2.2.2.1 zE9.2.2.2.2.2.2.2.2.2.2.2.2.1, .Name zE9.2.2.2.2.2.2.2.2.2.2.2.1 zE9.2.2.2.2.2.2.2.2.2.2.2.2.2.1] tq tp, zE9.2.2.2.2.2.2.2.2.2.1, [], 0⟩] zE9.2.2.2.2.2.2.2.2.2.2.2.2.2.2.1 pos) 0 (.ref (a + 4)) (.ref D) (compEnvC zE9.2.2.2.2.2.2.2.2.2.2.2.2.2.2.1 zE9.2.2.2.2.2.2.2.2.2.2.2.2.2.2.2.1 C zE9.2.2.2.2.2.2.2.1)) (zE9.2.2.2.2.2.2.2.2.2.2.2.2.2.2.2.2.2.2.2.2.2.2.2 (.ref D) C) s₃ := by
    rintro s₃ rfl
    refine LCp.codeAny_compLoop_pair
      (fun n s' => ∃ h' tk i ys m', s' = { zE9.2.2.2.2.2.2.2.2.2.2.2.2.2.2.2.2.1 with heap := h', toks := tk } ∧ i ≤ vs.length ∧ n = vs.length + 1 - i ∧ zE9.2.2.2.2.2.2.2.2.2.2.2.2.2.2.2.2.2.2.2.2.2.2.1 i ys ∧ ZSt h' a zE9.2.2.2.2.2.2.2.2.2.2.2.2.2.2.2.2.2.1 zE9.2.2.2.2.2.2.2.2.2.2.2.2.2.2.2.2.2.2.1 zE9.2.2.2.2.2.2.2.2.2.2.2.2.2.2.2.2.2.2.2.1 vs.toArray i .none ∧ h'.Ns C m' ∧ Fr zE9.2.2.2.2.1 zE9.2.2.2.2.2.1 h' zE9.2.2.2.2.2.2.1 ∧ News zE9.2.2.2.2.1 zE9.2.2.2.2.2.1 h' ((D, W.listOf ys.toArray ys.length) :: zE9.2.2.2.2.2.2.2.2.2.2.2.2.2.2.2.2.2.2.2.2.2.1)) ?_ (vs.length + 1)
      ⟨h₁, _, 0, [], _, rfl, Nat.zero_le _, rfl, hJ, hst.at' (fun b _ o e => old0 b o e), hns₁, F.keeps old0, fun p hp => ?_⟩
    · rintro n s' hJ9
      k_extra "y"
      refine ex5 hJ9 fun h' tk i ys m' hJ9 => ?_
      refine an7 hJ9 fun e9_0 hi e9_1 hJ' Z hn F' N' => ?_
      iterate 2 clear hJ9
      subst e9_0
      subst e9_1
      k_extra "z"
      have hla : @LT.lt Nat _ zE9.2.2.2.2.2.2.2.2.2.2.2.2.2.2.2.2.2.1 a := hna _ hm
      have hszD : @LT.lt Nat _ D h'.objs.size := Heap.lt_size (N' _ (.head _)).1
      by_cases hlt : i < vs.length
      · have hx : zE9.2.2.2.2.2.2.2.2.2.2.2.2.2.2.2.2.2.2.1.cps[i]? = some (zE9.2.2.2.2.2.2.2.2.2.2.2.2.2.2.2.2.2.2.1.cps[i]'(by lia)) := Array.getElem?_eq_getElem _
        have hy : vs.toArray[i]? = some vs[i] := by simp [hlt]
        refine dk9 hla Z hx hy fun h₂ u tk₂ Z₂ hT hs₂ kl kg => ?_
        refine wpAny_letOwnedTupleGo_zip Z₂.z fun h₃ hz₃ hs₃ => ?_
        have hT₃ : IsTup h₃ h'.objs.size #[.str ⟨#[zE9.2.2.2.2.2.2.2.2.2.2.2.2.2.2.2.2.2.2.1.cps[i]'(by lia)]⟩ u, vs[i]] := ⟨_, hs₃.extBut _ _ (nn (by lia)) hT, rfl, _, rfl⟩
        refine assign_Tuple_tuple hh hT₃ rfl rfl fun h₄ he => ?_
        have he' : ∀ b o, h₃.get? b = some o → h₄.get? b = some o := fun b o e => he b o (Nat.ne_of_lt (Heap.lt_size e)) e
        have kl4 : ∀ b : Nat, b < a ∨ a + 4 < b → ∀ o, h'.get? b = some o → h₄.get? b = some o := fun b hb o e => he' _ _ (hs₃.extBut _ _ (nn (by lia)) (by
          rcases hb with hb | hb
          · exact kl b o hb e
          · exact kg b o hb e))
        have hn4 : h₄.Ns C m' := hn.at' fun o e => kl4 C (.inr (by lia)) o e
        refine assignInOrder_cons (wpAny_assign_Name (wpAny_storeName_local (lookup_relabel_local hx1) hn4 (fun h₆ hn₆ hs₆ => ?_) (by simp [compEnvC, relabel, hkind])))
        refine assignInOrder_cons (wpAny_assign_Name (wpAny_storeName_local (lookup_relabel_local hx2) hn₆ (fun h₅ hn₅ hs₅ => ?_) (by simp [compEnvC, relabel, hkind])))
        refine assignInOrder_nil ?_
        have kl5 : ∀ b : Nat, b ≠ C → ∀ o, h₄.get? b = some o → h₅.get? b = some o := fun b hb o e => hs₅.extBut b o (nn hb) (hs₆.extBut b o (nn hb) e)
        have hz3 : ZSt h₃ a zE9.2.2.2.2.2.2.2.2.2.2.2.2.2.2.2.2.2.1 zE9.2.2.2.2.2.2.2.2.2.2.2.2.2.2.2.2.2.2.1 zE9.2.2.2.2.2.2.2.2.2.2.2.2.2.2.2.2.2.2.2.1 vs.toArray (i + 1) .none := ⟨hz₃, hs₃.extBut _ _ (nn (by lia)) Z₂.ti, (let ⟨u, v, p⟩ := Z₂.to; ⟨u, v, hs₃.extBut _ _ (nn (by lia)) p⟩), (let ⟨o, ho, r⟩ := Z₂.it1; ⟨o, hs₃.extBut _ _ (nn (by lia)) ho, r⟩), Z₂.it2.at (fun o p => hs₃.extBut _ _ (nn (by lia)) p), Z₂.ls.at (fun o p => hs₃.extBut _ _ (nn (by lia)) p)⟩
        have Z₅ : ZSt h₅ a zE9.2.2.2.2.2.2.2.2.2.2.2.2.2.2.2.2.2.1 zE9.2.2.2.2.2.2.2.2.2.2.2.2.2.2.2.2.2.2.1 zE9.2.2.2.2.2.2.2.2.2.2.2.2.2.2.2.2.2.2.2.1 vs.toArray (i + 1) .none := hz3.at' fun b hb o e => kl5 b (by lia) o (he' b o e)
        obtain ⟨oC, heC, hoC⟩ := ns_obj hn₅
        obtain ⟨o1, o2, o3, o4, o5, hob⟩ := Z₅.obs
        have kk : ∀ b : Nat, (b < a ∨ a + 4 < b) → b ≠ C → ∀ o, h'.get? b = some o → h₅.get? b = some o := fun b hb hbC o e => kl5 b hbC o (kl4 b hb o e)
        have F₅ : Fr zE9.2.2.2.2.1 zE9.2.2.2.2.2.1 h₅ zE9.2.2.2.2.2.2.1 := ⟨F'.ns.at' fun o e => kk zE9.2.2.2.2.2.1 (.inl hLa) (by lia) o e, fun b o e => kk b (.inl (Decidable.byContradiction fun q => by have := h0a b (by lia); rw [this] at e; cases e)) (fun q => by subst q; have := fresh₀ b (by lia); rw [this] at e; cases e) o (F'.keep b o e), F'.above⟩
        have N₅ : News zE9.2.2.2.2.1 zE9.2.2.2.2.2.1 h₅ ((C, oC) :: (D, W.listOf ys.toArray ys.length) :: (zObs a o1 o2 o3 o4 o5 ++ zE9.2.2.2.2.2.2.2.2.2.2.2.2.2.2.2.2.2.2.2.2.2.1)) := fun p hp => by
          rcases List.mem_cons.mp hp with rfl | hp
          · exact ⟨heC, nn (by lia), fresh₀ _ (by lia)⟩
          · rcases List.mem_cons.mp hp with rfl | hp
            · have z := N' _ (.head _)
              exact ⟨kk D (.inr (by lia)) (by lia) _ z.1, z.2⟩
            · rcases List.mem_append.mp hp with hp | hp
              · have hpa : a ≤ (p.1 : Nat) := by
                  simp only [zObs, List.mem_cons, List.not_mem_nil, or_false] at hp
                  rcases hp with rfl | rfl | rfl | rfl | rfl <;> (show a ≤ (_ : Nat); lia)
                exact ⟨hob p hp, nn (by lia), h0a _ hpa⟩
              · have z := N' p (.tail _ hp)
                have := hna p hp
                exact ⟨kk p.1 (.inl this) (by lia) _ z.1, z.2⟩
        refine wpAny_mono (turn i _ u vs[i] ys C D oC _ a o1 o2 o3 o4 o5 h₅ _ _ hx (by simp [hlt]) hJ' hoC (by simp [hxx]) (by simp) F₅ N₅ hna hfp (by lia)) (fun y s₄ h₄ => ?_) fun _ _ e => e
        k_extra "y"
        refine ex2 (h₄) fun h6 tk6 hJ9 => ?_
        refine an3 hJ9 fun e9_0 F6 N6 hJ6 => ?_
        clear hJ9
        try clear h₄
        subst e9_0
        k_extra "z"
        have Z6 : ZSt h6 a zE9.2.2.2.2.2.2.2.2.2.2.2.2.2.2.2.2.2.1 zE9.2.2.2.2.2.2.2.2.2.2.2.2.2.2.2.2.2.2.1 zE9.2.2.2.2.2.2.2.2.2.2.2.2.2.2.2.2.2.2.2.1 vs.toArray (i + 1) .none := Z₅.of_obs hob (fun p hp => (N6 p (.tail _ (.tail _ (List.mem_append_left _ hp)))).1) fun o e => by
          have z1 := (N₅ (zE9.2.2.2.2.2.2.2.2.2.2.2.2.2.2.2.2.2.1, W.listOf vs.toArray zE9.2.2.2.2.2.2.2.2.2.2.2.2.2.2.2.2.2.2.2.2.1) (.tail _ (.tail _ (List.mem_append_right _ hm)))).1
          rw [z1] at e; cases e
          exact (N6 (zE9.2.2.2.2.2.2.2.2.2.2.2.2.2.2.2.2.2.1, W.listOf vs.toArray zE9.2.2.2.2.2.2.2.2.2.2.2.2.2.2.2.2.2.2.2.2.1) (.tail _ (.tail _ (List.mem_append_right _ hm)))).1
        have zD := N6 (D, W.listOf ys.toArray ys.length) (.tail _ (.head _))
        have zC := (N6 (C, oC) (.head _)).1
        refine append_at (hsz := by show ys.toArray.size ≤ sizeLine; rw [List.size_toArray]; exact Nat.le_trans (hlen _ _ hJ') (Nat.le_trans hi hsz)) zD.1 fun h7 hs7 hD7 => ?_
        refine ix1 (vs.length + 1 - (i + 1)) (⟨Nat.sub_lt_sub_left (Nat.lt_succ_of_lt hlt) (Nat.lt_succ_self i), ix5 h7 tk6 (i + 1) (ys ++ [y]) _ (⟨rfl, hlt, rfl, hJ6, Z6.at' (fun b hb o e => hs7.extBut b o (nn (by lia)) e), (hoC.ns zC).sameBut hs7 (nn (by lia)), F6.change hs7 zD.2.1 zD.2.2, fun p hp => ?_⟩)⟩)
        rcases List.mem_cons.mp hp with rfl | hp
        · exact ⟨hD7.trans (congrArg some (lst_snoc ys y)), zD.2⟩
        · have z := N6 p (.tail _ (.tail _ (List.mem_append_right _ hp)))
          have := hna p hp
          exact ⟨hs7.extBut _ _ (nn (by lia)) z.1, z.2⟩
      · obtain rfl : i = vs.length := Nat.le_antisymm hi (Nat.not_lt.mp hlt)
        refine dj9 hh Z (Array.getElem?_eq_none (by lia)) fun h₂ kl kg => ?_
        have kk : ∀ b : Nat, (b < a ∨ a + 4 < b) → ∀ o, h'.get? b = some o → h₂.get? b = some o := fun b hb o e => by
          rcases hb with hb | hb
          · exact kl b o hb e
          · exact kg b o hb e
        have F₂ : Fr zE9.2.2.2.2.1 zE9.2.2.2.2.2.1 h₂ zE9.2.2.2.2.2.2.1 := ⟨F'.ns.at' fun o e => kk zE9.2.2.2.2.2.1 (.inl hLa) o e, fun b o e => kk b (.inl (Decidable.byContradiction fun q => by have := h0a b (by lia); rw [this] at e; cases e)) o (F'.keep b o e), F'.above⟩
        refine hRR D C h₂ _ m' ys hJ' F₂ (fun p hp => ?_) (by lia) (hn.at' fun o e => kk C (.inr (by lia)) o e) (fresh₀ _ (by lia)) (fresh₀ _ (by lia)) (nn (by lia)) (nn (by lia)) (nn (by lia)) (fun p hp => nn (by have := hna p hp; lia))
        have z := N' p hp
        rcases List.mem_cons.mp hp with rfl | hp
        · exact ⟨kk D (.inr (by lia)) _ z.1, z.2⟩
        · exact ⟨kk p.1 (.inl (hna p hp)) _ z.1, z.2⟩
    · rcases List.mem_cons.mp hp with rfl | hp
      · exact ⟨hacc, nn (by lia), fresh₀ _ (by lia)⟩
      · exact ⟨old0 _ _ (N p hp).1, (N p hp).2⟩
  refine codeAny_compStart_list (loop _ rfl) (wpAny_pyIter_zip (hst.at' fun b _ o e => old0 b o e).z (loop _ rfl))
theorem gv9 {prog w A E h₀ L m env elt iter x1 x2 p1 p2 scope cl s₂ l tx t k news J RR : _} : yj9 prog w A E h₀ L m env elt iter x1 x2 p1 p2 scope cl s₂ l tx t k news J RR := H24 (by unfold zE9; rfl) @nD9 prog w A E h₀ L m env elt iter x1 x2 p1 p2 scope cl s₂ l tx t k news J RR
noncomputable def ZGo (prog : Program) (w : World) (A : Around) (h₀ : Heap) (L : Addr) (m : Str → Option Value) (ce : Addr → Env) (elt : PySem.Expr) (x1 x2 : Str) (Fin : Shared → List Value → List (Addr × Obj) → Prop) (it : Value) (s₂ : Shared) : Prop :=
  ∃ (a l : Nat) (tx : Str) (t : Tok) (vs : List Value) (k : Nat) (news : List (Addr × Obj)) (J : Nat → List Value → Prop), it = .ref (a + 4) ∧ tx.cps.size = vs.length ∧ vs.length ≤ sizeLine ∧ ZSt s₂.heap a l tx t vs.toArray 0 .none ∧ @LT.lt Nat _ (a + 4) s₂.heap.objs.size ∧
    (l, W.listOf vs.toArray k) ∈ news ∧ Fr h₀ L s₂.heap m ∧ News h₀ L s₂.heap news ∧ @LT.lt Nat _ L a ∧ (∀ p ∈ news, @LT.lt Nat _ p.1 a) ∧ (∀ b : Nat, a ≤ b → h₀.get? b = none) ∧ J 0 [] ∧ hC9 prog w A h₀ L m ce elt x1 x2 tx vs news J s₂ ∧ (∀ i ys, J i ys → ys.length ≤ i) ∧
    (∀ ys, J vs.length ys → Fin s₂ ys news)
noncomputable def uU9 (prog : Program) (w : World) (A : Around) (E : Value → Shared → Prop) (h₀ : Heap) (L : Addr) (m : Str → Option Value) (env : Env) (s : Shared) (elt iter : PySem.Expr) (x1 x2 : Str) (p1 p2 : Pos) (scope : Scope) (cl : List (Str × Addr)) (Q : Value → Shared → Prop) : Prop := ∀ {tp : Pos} {tq : Nat} {pos : Pos} (_F₀ : Fr h₀ L s.heap m) (hh : A.handled = none) (hclos : closureFor scope env = pure cl) (hkind : scope.kind = .function) (hcell : ∀ y ∈ scope.names, y.2 ≠ .cell) (hx1 : scope.names.lookup x1 = some .local) (hx2 : scope.names.lookup x2 = some .local) (hxx : x1 ≠ x2) (hnames : ∀ y ∈ scope.names, y.2 = .local → scope.names.lookup y.1 = some .local) (h : wpAny (model prog w) A (eval iter env) (fun xv s₁ => wpAny (model prog w) A (pyIter xv) (ZGo prog w A h₀ L m (fun C => compEnvC scope cl C env) elt x1 x2 (FinE h₀ L m Q)) E s₁) E s) (hs : ∀ x, foldedSetIterable iter env x = pure x), wpAny (model prog w) A (eval (.ListComp elt [⟨.Tuple [.Name x1 p1, .Name x2 p2] tq tp, iter, [], 0⟩] scope pos) env) Q E s
@[irreducible] noncomputable def yr9 := W18 uU9
theorem cO9 : A18 uU9 yr9 := by
  intro tp tq pos _F₀ hh hclos hkind hcell hx1 hx2 hxx hnames h hs
  rw [eval_ListComp]
  refine wpAny_comprehension_free (use := none) rfl hs hclos hkind hnames (wpAny_mono h (fun xv s₁ h₁ => wpAny_mono h₁ (fun it s₂ h₂ => ?_) fun _ _ e => e) fun _ _ e => e)
  k_extra "y"
  refine ex8 (h₂) fun a l tx t vs k news J hJ9 => ?_
  refine an12 hJ9 fun e9_0 hl2 hsz hst hfp hm F N hLa hna h0a hJ hJ9 => ?_
  refine an2 hJ9 fun turn hlen fin => ?_
  iterate 2 clear hJ9
  try clear h₂
  subst e9_0
  k_extra "z"
  refine gv9 hh hl2 hsz hcell hkind hx1 hx2 hxx hst hfp hm F N hLa hna h0a hJ turn hlen ?_
  intro D C h tk m' ys hJn F' N' hID hn hC₀ hD₀ hCL hDL hCD offC
  refine ⟨m', hn, fun h'' hs'' => fin ys hJn D h'' tk (F'.change hs'' hCL hC₀) (fun p hp => ?_) (fun p hp => Nat.lt_trans (hna p hp) hID)⟩
  refine ⟨hs''.extBut _ _ ?_ (N' p hp).1, (N' p hp).2⟩
  rcases List.mem_cons.mp hp with rfl | hp
  · exact Ne.symm hCD
  · exact offC p hp
theorem bS9 {prog : Program} {w : World} {A : Around} {E : Value → Shared → Prop} {h₀ : Heap} {L : Addr} {m : Str → Option Value} {env : Env} {s : Shared} {elt iter : PySem.Expr} {x1 x2 : Str} {p1 p2 tp : Pos} {tq : Nat} {scope : Scope} {cl : List (Str × Addr)} {pos : Pos} {Q : Value → Shared → Prop} (_F₀ : Fr h₀ L s.heap m) (hh : A.handled = none) (hclos : closureFor scope env = pure cl) (hkind : scope.kind = .function) (hcell : ∀ y ∈ scope.names, y.2 ≠ .cell) (hx1 : scope.names.lookup x1 = some .local) (hx2 : scope.names.lookup x2 = some .local) (hxx : x1 ≠ x2) (hnames : ∀ y ∈ scope.names, y.2 = .local → scope.names.lookup y.1 = some .local) (h : wpAny (model prog w) A (eval iter env) (fun xv s₁ => wpAny (model prog w) A (pyIter xv) (ZGo prog w A h₀ L m (fun C => compEnvC scope cl C env) elt x1 x2 (FinE h₀ L m Q)) E s₁) E s) (hs : ∀ x, foldedSetIterable iter env x = pure x := by intro _; rfl) : wpAny (model prog w) A (eval (.ListComp elt [⟨.Tuple [.Name x1 p1, .Name x2 p2] tq tp, iter, [], 0⟩] scope pos) env) Q E s :=
  H18 (by unfold yr9; rfl) @cO9 prog w A E h₀ L m env s elt iter x1 x2 p1 p2 scope cl Q _F₀ hh hclos hkind hcell hx1 hx2 hxx hnames h hs
theorem gE9 {ce : Addr → Env} {elt : PySem.Expr} {x1 x2 : Str} {tx : Str} {t : Tok} {l : Addr} {vs : List Value} {k : Nat} {news : List (Addr × Obj)} {Fin : Shared → List Value → List (Addr × Obj) → Prop} (J : Nat → List Value → Prop)
    (F : Fr h₀ L s.heap m) (N : News h₀ L s.heap news) (hm : (l, W.listOf vs.toArray k) ∈ news) (hl2 : tx.cps.size = vs.length) (hsz : vs.length ≤ sizeLine) (hasc : tx.cps.all (· < 128) = true)
    (hJ : J 0 []) (hlen : ∀ i ys, J i ys → ys.length ≤ i) (turn : ∀ g, hC9 prog w A h₀ L m ce elt x1 x2 tx vs news J { s with heap := g }) (fin : ∀ g ys, J vs.length ys → Fin { s with heap := g } ys news) :
    wpAny (model prog w) A (call (.type "zip") [.str tx t, .ref l]) (fun xv s₁ => wpAny (model prog w) A (pyIter xv) (ZGo prog w A h₀ L m ce elt x1 x2 Fin) E s₁) E s := by
  have hl : s.heap.IsList l vs.toArray := ⟨_, (N _ hm).1, rfl, _, rfl⟩
  refine hH9 hasc hl fun h' Z hz hk => wpAny_pyIter_zip Z.z ?_
  refine ix8 s.heap.objs.size l tx t vs k news J (⟨rfl, hl2, hsz, Z, by show _ < h'.objs.size; rw [hz]; exact Nat.lt_succ_self _, hm, F.keeps hk, N.grown hk, F.ns.lt, fun p hp => Heap.lt_size (N p hp).1, fun b hb => ?_, hJ, turn h', hlen, fun ys h => fin h' ys h⟩)
  cases e : h₀.get? b with
  | none => rfl
  | some o' => exact absurd (Heap.lt_size (F.keep b o' e)) (Nat.not_lt.mpr hb)
end
end
section
theorem ln26 : True := by
  k_with_none
  (k_with "ne9" => repeat' (first | refine nep ?_ ?_ | exact neWd | exact xf9 | exact xh9 | exact xg9 | exact qM9 | exact qN9 | exact inferInstance))
  (k_with "ite" => first | with_reducible refine ite_tt ?_ | with_reducible refine ite_ff ?_ | (k_closed; first | refine ite_pos (by k_dflt decide) ?_ | refine ite_neg (by k_dflt decide) ?_))
  (k_with "eval Name" => (k_here; first | (refine' nmC ?_ ?_ ?_ ?_ ?_ ?_ ?_ ?_; rotate_right 8; (· k_dflt k_asm); (· k_dflt (exact rfl)); (· k_dflt k_mem); (· k_dflt (first | with_reducible assumption | exact rfl)); (· kernel_rfl); (· kernel_rfl!); (· kernel_rfl)) | (refine' nmK ?_ ?_ ?_ ?_ ?_ ?_ ?_ ?_; rotate_right 8; (iterate 3 (· k_dflt k_asm)); (· k_dflt k_is); iterate 3 (· kernel_rfl)) | (refine' nmB ?_ ?_ ?_ ?_ ?_ ?_ ?_ ?_ ?_ ?_; rotate_right 10; (iterate 3 (· k_dflt k_asm)); (· k_dflt k_is); (· k_dflt boot_fast); (· decide); iterate 3 (· kernel_rfl))))
  (k_with "exec Assign cons ListComp" => k_extra "exec Assign")
  (k_with "exec If" => refine wpAny_If ?_)
  (k_with "isTrue Compare" => refine wpAny_isTrue_Compare1 ?_)
  (k_with "exec Assign" => with_reducible refine wpAny_Assign_Name ?_ (by k_dflt rfl))
  (k_with "execs cons Assign cons" => k_extra "execs cons")
  (k_with "eval Call Attribute" => with_reducible refine MethodCall_ ?_ (by k_dflt rfl))
  (k_with "exec Expr" => with_reducible refine wpAny_Expr_any ?_ (by k_dflt rfl) (by k_dflt rfl))
  (k_with "isTrue" => with_reducible refine isTrue_plain ?_ (by k_dflt rfl))
  (k_with "eval Call Name" => k_extra "eval Call")
  (k_with "eval Call" => with_reducible refine Call_ ?_ (by k_dflt rfl))
  (k_with "spliced" => with_reducible refine args_cons ?_ (by k_dflt rfl))
  (k_with "callWith" => with_reducible (first | refine cwB1 ?_ (by k_dflt rfl) | refine callWith_method1 ?_ (by k_dflt rfl) (by k_dflt rfl)))
  (k_with "newList" => (k_here; refine newList_K (by k_dflt k_asm) (by k_dflt k_asm) ?_ (by k_dflt (exact Nat.le_of_ble_eq_true rfl)); intro _ _ _ _ l1; (try k_lt l1); (revert l1; intro _); (try k_sweep)))
  (k_with "z" => (with_reducible refine hG9 ?_; clear hG9 G9))
  (k_with "y" => (with_reducible refine zh9 fun G9 hG9 => ?_))
  (k_with "w" => (have h3 := @id (zM9 = ⟨_, [_, _, _, _, _, _, _, _, _, _, _, _, _, _, _, _, _, _, _, _, _, _, _, _, _, _, _, _, _, _, _, _, _, _, _, _, _], _, _, _⟩) rfl; rw [h3] at hsc; subst hsc; clear h3))
  (k_with "v" => (refine' let M9 : Model := _; let A9 : Around := _; let e9 : Env := _; (?_ : wpAny M9 A9 (execs _ e9) _ _ _)))
  (k_with "u" => (try (with_reducible refine' (?_ : wpAny M9 A9 _ _ _ _))))
  (k_with "m_k_steps" => repeat' (first | ((fail_if_success (fail_if_success k_unfold)); (first | (with_reducible refine' (?_ : wpAny _ _ _ _ _ _)) | k_unfold); (try dsimp only)) | (k_end; wrow_close) | walk1 | (dsimp only; walk1) | (leave1; walk_say "STEP leave1"; try dsimp only) | fail "no step"))
  (k_with "m_k_ne" => (refine neN ?_; (try dsimp only); lia))
  (k_with "storeName" => (k_here; (refine' (let m9' : Str → Option Value := fun y => if y = (_ : Str) then some (_ : Value) else (_ : Str → Option Value) y; stG m9' rfl ?_ ?_ (by k_dflt rfl) (by k_dflt rfl) ?_); (· k_dflt k_asm); (· k_dflt k_asm)); (revert m9'; intro _); intro _ _ _; (try k_sweep)))
  (k_with "execs cons" => (k_here; first | k_fold | dsimp only | ((fail_if_success (fail_if_success k_gentoks)); refine genT ?_; intro _) | ((with_reducible refine wpAny_execs_cons ?_); (refine' (?_ : let q9 : Flow → Shared → Prop := _; wpAny _ _ _ q9 _ _); intro _))))
  (k_with "eval BinOp" => (k_here; (fail_if_success (fail_if_success k_fold)); (refine' (?_ : let q9 : Value → Shared → Prop := _; wpAny _ _ _ q9 _ _); intro _)))
  (k_with "eval Call" => (k_here; (fail_if_success (fail_if_success k_fold)); (refine' (?_ : let q9 : Value → Shared → Prop := _; wpAny _ _ _ q9 _ _); intro _)))
  (k_with "eval Name" => (k_here; (refine' nmF ?_ ?_ ?_ ?_ ?_ ?_; rotate_right 6; (· k_dflt k_asm); (· k_dflt (exact rfl)); iterate 3 (· kernel_rfl))))
  (k_with "eval Name" => (k_here; (with_reducible show wpAny _ _ (eval (Expr.Name _ _) (compEnvC _ _ _ _)) _ _ _); k_dflt (first | (refine' LCgL.ld_own ?_ ?_ ?_ ?_ ?_; rotate_right 5; (· k_asm); (· k_mem); (· (with_reducible assumption)); (· (with_reducible assumption))) | (refine lcf_cell (by k_asm) (by rfl) (by k_mem) (by with_reducible assumption) ?_ (by rfl) (by rfl)))))
  (k_with "eval Constant int" => refine cI ?_)
  (k_with "eval Constant str" => refine cS ?_)
  (k_with "binaryOp Add int int" => refine addF ?_)
  (k_with "binaryOp Sub int int" => refine subF ?_)
  (k_with "m_enter" => ((case k6 => k_is); (case k7 => k_is); (case k9 => exact rfl); (case kB => exact locs rfl); (case c5 => decide); (case c2 => exact rfl); (case c3 => exact rfl); (case c4 => exact rfl)))
  (k_with "call builtin:list.append" => (k_here; (with_reducible show wpAny _ _ (call (Value.builtin _) [Value.ref _, _]) _ _ _); k_dflt (refine' append_K ?_ ?_ ?_ ?_ ?_; rotate_right 5; (· k_asm); (· k_asm); (· k_upd); rotate_left; (· assumption)); intro _ _ _; (try k_sweep)))
  (k_with "call builtin:list.append" => (k_here; (with_reducible show wpAny _ _ (call (Value.builtin _) [Value.ref _, _]) _ _ _); k_dflt (refine' append_K ?_ ?_ ?_ ?_ ?_; rotate_right 5; (· k_asm); (· k_asm); (· (walk_at "m_upd")); rotate_left; (· (first | with_reducible assumption | exact Nat.le_of_ble_eq_true rfl))); intro _ _ _; (try k_sweep)))
  (k_with "binaryOp Add str str" => (k_here; (with_reducible show wpAny _ _ (binaryOp _ (Value.str _ _) (Value.str (PySem.Str.mk #[_]) _)) _ _ _); (refine wF9 (by assumption) ?_); (intro _ _); (try dsimp only)))
  (k_with "binaryOp LShift int int" => (k_here; first | (refine' vQ9 ?_ ?_ ?_ ?_; rotate_right 4; (· lia); (· assumption); (· assumption)) | (refine' lshift_int ?_ ?_ ?_; rotate_right 3; (· lia); (· assumption))))
  (k_with "binaryOp LShift int int" => (k_here; (with_reducible refine vQ9 (by with_reducible assumption) (by with_reducible assumption) (by with_reducible assumption) ?_)))
  (k_with "binaryOp Mult int int" => (k_here; (refine PyProof.Rows.mul_int ?_ (by assumption))))
  (k_with "binaryOp Mult int int" => (k_here; (with_reducible refine tM9 (by with_reducible assumption) (by with_reducible assumption) ?_)))
  (k_with "binaryOp FloorDiv int int" => (k_here; first | (refine' qj9 ?_ ?_ ?_ ?_; rotate_right 4; (· (first | lia | assumption)); (· (first | assumption | decide +kernel)); (· assumption)) | (refine' vY9 ?_ ?_ ?_; rotate_right 3; (· (first | lia | assumption)); (· (first | assumption | decide +kernel)))))
  (k_with "binaryOp FloorDiv int int" => (k_here; (with_reducible refine qj9 (by first | with_reducible assumption | decide) (by first | with_reducible assumption | decide +kernel) (by with_reducible assumption) ?_)))
  (k_with "call builtin:len" => (k_here; (with_reducible show wpAny _ _ (call (Value.builtin "len") [Value.ref _]) _ _ _); (refine' lenL ?_ ?_ ?_ ?_; rotate_right 4; (· k_asm); (· k_mem); (· (first | assumption | ((simp only [List.size_toArray, List.length_replicate]); lia)))); (intro _ _); (try simp only [List.size_toArray, List.length_replicate]); (try dsimp only)))
  (k_with "setItem ref int" => (k_here; (refine' setL ?_ ?_ ?_ ?_ ?_ ?_; rotate_right 6; (· k_asm); (· k_asm); (· k_upd); (· (first | assumption | lia)); (· assumption)); (intro _ _ _); (try k_sweep)))
  (k_with "call ref" => (k_here; refine zK9 ?_))
  (k_with "m_sep" => (repeat' (first | exact List.forall_mem_nil _ | refine List.forall_mem_cons.mpr ⟨?_, ?_⟩ | k_ne)))
  (k_with "m_enterC" => ((case k6 => k_is); (case k7 => k_is); (case k9 => exact rfl); (case kB => exact kindsX rfl); (case c5 => decide); (case c2 => exact rfl); (case c3 => exact rfl); (case c4 => exact rfl)))
  (k_with "pyIter ref" => (k_here; refine zK9 ?_))
  (k_with "eval ListComp" => (k_here; refine zK9 ?_))
  (k_with "exec For" => (k_here; refine zK9 ?_))
  (k_with "m_ne" => (first | with_reducible assumption | k_ne))
  (k_with "m_allne" => (repeat' (first | exact List.forall_mem_nil _ | with_reducible exact AllNe.at _ (by with_reducible assumption) | with_reducible exact allLt_ne (And.right (And.right (by with_reducible assumption))) | with_reducible exact allLt_ne (And.right (And.right (And.right (by with_reducible assumption)))) | with_reducible exact allLt_ne (And.right (And.right (And.right (And.right (by with_reducible assumption))))) | with_reducible exact allLt_ne (And.right (by with_reducible assumption)) | refine List.forall_mem_cons.mpr ⟨by walk_at "m_ne", ?_⟩)))
  (k_with "m_upd" => first | (with_reducible refine Upd.head ?_; walk_at "m_allne") | (refine' Upd.tail ?_ ?_; rotate_right 2; (· (walk_at "m_ne")); (· (walk_at "m_upd"))))
  (k_with "m_updF" => first | (with_reducible refine UpdF.head ?_; walk_at "m_allne") | (refine' UpdF.tail ?_ ?_; rotate_right 2; (· (walk_at "m_ne")); (· (walk_at "m_updF"))))
  (k_with "storeName" => (k_here; (refine storeX_C (by k_dflt k_asm) (by k_dflt k_asm) (by k_dflt rfl) (by k_dflt (walk_at "m_updF")) (by with_reducible assumption) ?_ (by k_dflt rfl) (by k_dflt rfl); intro h' o' F' N' d'; (try dsimp only at N'); (revert h' o' F' N' d'; intro _ _ _ _ _); (try k_sweep))))
  (k_with "binaryOp Mod int int" => (k_here; (with_reducible refine hc9 (by first | with_reducible assumption | decide) (by with_reducible assumption) ?_)))
  (k_with "subscriptTail Name Constant ref int" => (k_here; (with_reducible show wpAny _ _ (subscriptTail _ _ (Value.ref _) (Value.int _ _)) _ _ _); (k_dflt (refine vW9 (by k_asm) (by k_mem) rfl (by rfl) (by decide) ?_))))
  trivial
noncomputable def vm9 (n : Int) (k : Nat) : Int := ((n.fdiv 3).fdiv (8 ^ k)).fmod 8
theorem ln27 : True := by
  (k_with "call type:range" => (k_here; (with_reducible show wpAny _ _ (call (Value.type "range") [Value.int _ _]) _ _ _); k_dflt (refine' qL9 ?_ ?_ ?_; rotate_right 3; (· k_asm); (· k_asm)); intro _ _ _ _ _ _ _ l1; (try k_lt l1); (revert l1; intro _); (try k_sweep)))
  trivial
noncomputable def nT9 (V : Wd) (rest : List Stmt) (dp un : Nat) (gd : Option (List Code)) (A₁ : Around) (g : Heap) (L' fa : Addr) (cd : Value) (s : Shared) (Q : Flow → Shared → Prop) (m' : Str → Option Value) (lg : List (Addr × Obj)) (cn : Nat) (on oct op : Obj) : Prop := ∀ (st : Stmt) (sc : Scope) (hst : zS9 20 = st) (hsc : zM9 = sc) (base : Heap) (hdp : dp + 40 ≤ recursionLimit) (hu : un + 400 < cLine) (B : Below A₁ base [] g) (X : (getK.heap_1 V.w.params).In g) (T : Top V.p V.loose V.mean V.mg V.mb g) (n : Int) (tn tc : Tok) (hn0 : 0 ≤ n) (hc4 : cn ≤ 4) (v9 : Option Value) (hon : on.data = .cell (some (.int n tn))) (hoct : oct.data = .cell (some (.int cn tc))) (hop : op.data = .cell v9) (hl9 : AllNe (L' + 1 + 1 + 1 + 1 + 1 + 1 + 1 + 1 + 1 + 1) lg) (F : Fr g L' s.heap m') (N : News g L' s.heap ((L' + 1 + 1 + 1 + 1, on) :: (L' + 1 + 1 + 1 + 1 + 1 + 1 + 1, oct) :: (L' + 1 + 1 + 1 + 1 + 1 + 1 + 1 + 1 + 1 + 1, op) :: lg)) (k : ∀ (KL : Addr) (kvs : List Value) op' h' tk', IntsAre kvs ((List.range cn).map (vm9 n)) → op'.data = .cell (some (.ref KL)) → Fr g L' h' m' → News g L' h' ((KL, W.listOf kvs.toArray kvs.length) :: (L' + 1 + 1 + 1 + 1, on) :: (L' + 1 + 1 + 1 + 1 + 1 + 1 + 1, oct) :: (L' + 1 + 1 + 1 + 1 + 1 + 1 + 1 + 1 + 1 + 1, op') :: lg) → wpAny (model prg V.w) (lawA sc L' fa cd dp un gd) (execs rest (zQ9 sc L' fa cd)) Q (fun _ _ => False) { s with heap := h', toks := tk' }), wpAny (model prg V.w) (lawA sc L' fa cd dp un gd) (execs (st :: rest) (zQ9 sc L' fa cd)) Q (fun _ _ => False) s
@[irreducible] noncomputable def vI9 := W18 nT9
theorem dt9 : A18 nT9 vI9 := by
  intro st sc hst hsc base hdp hu B X T n tn tc hn0 hc4 v9 hon hoct hop hl9 F N k
  have h2 := @id (zS9 20 = Stmt.Assign _ _ _) rfl
  rw [h2] at hst
  subst hst
  clear h2
  k_extra "w"
  k_extra "v"
  k_extra "u"
  k_steps
  unfold zC9
  refine xj9 F rfl rfl (by decide) rfl (by decide) (by decide) ?_
  k_extra "u"
  k_steps
  unfold zC9
  rename Fr _ _ _ _ => F1
  rename News _ _ _ _ => N1
  refine xR9 (a := 0) (b := (vI9.2.2.2.2.2.2.2.2.2.2.2.2.2.2.1 : Int)) (n := vI9.2.2.2.2.2.2.2.2.2.2.2.2.2.2.1) (J := fun i ys => IntsAre ys ((List.range i).map (vm9 n))) rfl (N1 _ (.head _)).1 (small_one (by lia) (by lia) (by lia) (by lia)) (by simpa using rangeSize_nat 0 vI9.2.2.2.2.2.2.2.2.2.2.2.2.2.2.1) (by rw [sizeLine_eq]; lia) F1 N1 .nil ?hlen ?turn ?fin
  case hlen => intro i ys h; rw [zN9 h, List.length_map, List.length_range]; exact Nat.le_refl _
  case turn =>
    intro g1 I hI1 i v ys C D2 ow oJ h tk E' hi' hP hJ hO F2 N2 hID hDC
    k_extra "y"
    refine ex2 (hO) fun oC mC hJ9 => ?_
    refine an2 hJ9 fun e9_0 hns hx => ?_
    clear hJ9
    try clear hO
    subst e9_0
    k_extra "z"
    obtain ⟨t, hv⟩ := hP
    rw [Int.zero_add] at hv
    subst hv
    dsimp only [led, List.cons_append, List.nil_append] at N2
    clear F1 N1
    have hi4 : i = 0 ∨ i = 1 ∨ i = 2 ∨ i = 3 := by lia
    have hp0 : (8 : Int) ^ ((i : Int)).toNat ≠ 0 := by rcases hi4 with rfl | rfl | rfl | rfl <;> decide
    have hp1 : ((8 : Int) ^ ((i : Int)).toNat).natAbs.log2 < 9000 := by rcases hi4 with rfl | rfl | rfl | rfl <;> decide +kernel
    obtain ⟨x1, hx1⟩ : ∃ x, n.fdiv 3 = x := ⟨_, rfl⟩
    obtain ⟨x2, hx2⟩ : ∃ x, x1.fdiv (8 ^ ((i : Int)).toNat) = x := ⟨_, rfl⟩
    obtain ⟨x3, hx3⟩ : ∃ x, x2.fmod 8 = x := ⟨_, rfl⟩
    have hk : vm9 n i = x3 := by rw [← hx3, ← hx2, ← hx1]; rfl
    simp only [LTest, List.foldr_cons, List.foldr_nil]
    k_extra "u"
    k_steps
    rename Fr _ _ _ _ => F3
    rename News _ _ _ _ => N3
    refine ix2 _ _ (⟨rfl, F3, N3, ?_⟩)
    rw [List.range_succ, List.map_append, List.map_cons, List.map_nil, hk]
    exact zs9 hJ _ _
  case fin =>
    intro g1 ys hJ D2 h tk F2 N2 hlD
    have hJ2 : IntsAre ys ((List.range vI9.2.2.2.2.2.2.2.2.2.2.2.2.2.2.1).map (vm9 n)) := hJ
    have q10 : @Ne Nat D2 (vI9.2.2.2.2.2.2.2.1 + 1 + 1 + 1 + 1 + 1 + 1 + 1 + 1 + 1 + 1) := Ne.symm (Nat.ne_of_lt (hlD _ (.tail _ (.tail _ (.tail _ (.head _))))))
    clear F1 N1 hJ
    replace N2 := qv9 N2
    k_extra "u"
    k_steps
    rename Fr _ _ _ _ => F3
    rename News _ _ _ _ => N3
    exact k _ _ _ _ _ hJ2 (by assumption) F3 N3
theorem jT9 (V rest dp un gd A₁ g L' fa cd s Q m' lg cn on oct op : _) : nT9 V rest dp un gd A₁ g L' fa cd s Q m' lg cn on oct op := H18 (by unfold vI9; rfl) @dt9 V rest dp un gd A₁ g L' fa cd s Q m' lg cn on oct op
end
section
noncomputable def cE9 (k : Int) (c : Bool) : Tk := if k = 2 then .br false c else if k = 3 then .br true (!c) else if k = 5 then .any else if k = 6 then .rng false else if k = 7 then .rng true else .lit c
noncomputable def xN9 (bs : List Bool) (kz : List Int) : List Tk := List.zipWith (fun b k => cE9 k b) bs kz
theorem bC9 (row : List Tk) : (row.map fun tk => (⟨tk.text.toArray⟩ : Str)).flatMap (·.cps.toList) = flat row := by
  simp [flat, List.flatMap_map]
theorem nr9 (tk : Tk) : tk.text.length ≤ 6 := by
  cases tk with
  | br n c => cases n <;> simp [Tk.text]
  | rng n => cases n <;> simp [Tk.text]
  | _ => simp [Tk.text]
theorem vL9 : ∀ row : List Tk, ((row.map fun tk => (⟨tk.text.toArray⟩ : Str)).map (·.length)).sum ≤ 6 * row.length
  | [] => Nat.le_refl _
  | tk :: r => by
    have h1 := vL9 r
    have h2 := nr9 tk
    simp only [List.map_cons, List.sum_cons, List.length_cons]
    have h3 : (⟨tk.text.toArray⟩ : Str).length = tk.text.length := by simp [Str.length]
    rw [h3]; lia
theorem zW9 {α β : Type} (f : α → β) (l : List α) {i : Nat} {x : α} (h : l[i]? = some x) : (l.take (i + 1)).map f = (l.take i).map f ++ [f x] := by
  rw [List.take_add_one, h]; simp
theorem qG9 {x y : Str} {t : Tok} (h : x = y) : StrsAre [.str x t] [y] := by subst h; exact .cons _ _ .nil
theorem dI9 : ∀ bs : List Bool, ((bs.map ab).toArray.all (· < 128)) = true := by
  intro bs
  rw [List.all_toArray, List.all_eq_true]
  intro x hx
  obtain ⟨b, _, rfl⟩ := List.mem_map.mp hx
  cases b <;> decide
theorem ln28 : True := by
  (k_with "call builtin:str.join" => (k_here; refine zK9 ?_))
  (k_with "call type:zip" => (k_here; refine zK9 ?_))
  (k_with "subscriptTail List cons Name ref int" => (k_here; refine zK9 ?_))
  (k_with "call builtin:str.index" => (k_here; refine tg9 rfl (by with_reducible assumption) (by decide) ?_; intro _ _))
  (k_with "binaryOp Add str str" => (k_here; (with_reducible refine addS (by exact Nat.le_of_ble_eq_true rfl) ?_); (intro _ _)))
  trivial
noncomputable def nS9 (V : Wd) (rest : List Stmt) (dp un : Nat) (gd : Option (List Code)) (g : Heap) (L' fa : Addr) (cd : Value) (s : Shared) (Q : Flow → Shared → Prop) (m' : Str → Option Value) (KL : Addr) (kvs : List Value) (kz : List Int) (bs : List Bool) (oh ok : Obj) : Prop := ∀ (st : Stmt) (sc : Scope) (hst : zS9 21 = st) (hsc : zM9 = sc) (A₁ : Around) (base : Heap) (hdp : dp + 40 ≤ recursionLimit) (hu : un + 400 < cLine) (B : Below A₁ base [] g) (X : (getK.heap_1 V.w.params).In g) (T : Top V.p V.loose V.mean V.mg V.mb g) (hkz : IntsAre kvs kz) (hk8 : ∀ k ∈ kz, 0 ≤ k ∧ k < 8) (hbk : bs.length = kz.length) (hk4 : kz.length ≤ 4) (n : Nat) (th : Tok) (hoh : oh.data = .cell (some (.str ⟨(bs.map ab).toArray⟩ th))) (hok : ok.data = .cell (some (.ref KL))) (lg : List (Addr × Obj)) (F : Fr g L' s.heap m') (N : News g L' s.heap ((KL, W.listOf (List.toArray kvs) n) :: (L' + 1 + 1 + 1 + 1 + 1 + 1 + 1 + 1, oh) :: (L' + 1 + 1 + 1 + 1 + 1 + 1 + 1 + 1 + 1 + 1, ok) :: lg)) (k : ∀ (t : Tok) h' tk', Fr g L' h' (fun y => if y = Str.ofString "row" then some (.str (patOf (xN9 bs kz)) t) else m' y) → News g L' h' ((KL, W.listOf (List.toArray kvs) n) :: (L' + 1 + 1 + 1 + 1 + 1 + 1 + 1 + 1, oh) :: (L' + 1 + 1 + 1 + 1 + 1 + 1 + 1 + 1 + 1 + 1, ok) :: lg) → wpAny (model prg V.w) (lawA sc L' fa cd dp un gd) (execs rest (zQ9 sc L' fa cd)) Q (fun _ _ => False) { s with heap := h', toks := tk' }), wpAny (model prg V.w) (lawA sc L' fa cd dp un gd) (execs (st :: rest) (zQ9 sc L' fa cd)) Q (fun _ _ => False) s
@[irreducible] noncomputable def xF9 := W18 nS9
theorem ds9 : A18 nS9 xF9 := by
  intro st sc hst hsc A₁ base hdp hu B X T hkz hk8 hbk hk4 n th hoh hok lg F N k
  have h2 := @id (zS9 21 = Stmt.Assign _ _ _) rfl
  rw [h2] at hst
  subst hst
  clear h2
  k_extra "w"
  have hkl : xF9.2.2.2.2.2.2.2.2.2.2.2.2.2.1.length = xF9.2.2.2.2.2.2.2.2.2.2.2.2.2.2.1.length := zN9 hkz
  have hrl : (xN9 xF9.2.2.2.2.2.2.2.2.2.2.2.2.2.2.2.1 xF9.2.2.2.2.2.2.2.2.2.2.2.2.2.2.1).length = xF9.2.2.2.2.2.2.2.2.2.2.2.2.2.2.1.length := by unfold xN9; rw [List.length_zipWith, hbk, Nat.min_self]
  k_extra "v"
  k_extra "u"
  k_steps
  unfold zC9
  rename Fr _ _ _ _ => F1
  refine bS9 F1 rfl rfl rfl (by decide) rfl rfl (by decide) (by decide) ?_
  k_extra "u"
  k_steps
  unfold zC9
  rename Fr _ _ _ _ => F2
  rename News _ _ _ _ => N2
  refine gE9 (J := fun i ys => StrsAre ys (((xN9 xF9.2.2.2.2.2.2.2.2.2.2.2.2.2.2.2.1 xF9.2.2.2.2.2.2.2.2.2.2.2.2.2.2.1).take i).map fun tk => (⟨tk.text.toArray⟩ : Str))) F2 N2 (.head _) (by simp [hbk, hkl]) (by rw [sizeLine_eq]; lia) (dI9 xF9.2.2.2.2.2.2.2.2.2.2.2.2.2.2.2.1) .nil ?hlen ?turn ?fin
  case hlen => intro i ys h; rw [zr9 h, List.length_map, List.length_take]; exact Nat.min_le_left _ _
  case turn =>
    intro g1 i c u v ys C D2 oC mC a o1 o2 o3 o4 o5 h tk E' hc hv hJ hns hm1 hm2 F3 N3 hna haD hDC
    k_extra "y"
    refine ex2 (zt9 hkz hv) fun z tz hJ9 => ?_
    refine an1 hJ9 fun e9_0 hz => ?_
    clear hJ9
    subst e9_0
    k_extra "z"
    have hz8 := hk8 z (List.mem_of_getElem? hz)
    have hc2 : (xF9.2.2.2.2.2.2.2.2.2.2.2.2.2.2.2.1.map ab)[i]? = some c := by simpa using hc
    rw [List.getElem?_map, Option.map_eq_some_iff] at hc2
    k_extra "y"
    refine ex1 (hc2) fun b hJ9 => ?_
    refine an1 hJ9 fun hb e9_0 => ?_
    clear hJ9
    try clear hc2
    subst e9_0
    k_extra "z"
    have hr : (xN9 xF9.2.2.2.2.2.2.2.2.2.2.2.2.2.2.2.1 xF9.2.2.2.2.2.2.2.2.2.2.2.2.2.2.1)[i]? = some (cE9 z b) := by unfold xN9; rw [List.getElem?_zipWith, hb, hz]
    dsimp only [zObs, List.cons_append, List.nil_append] at N3
    have hz9 : z = 0 ∨ z = 1 ∨ z = 2 ∨ z = 3 ∨ z = 4 ∨ z = 5 ∨ z = 6 ∨ z = 7 := oct hz8.1 hz8.2
    clear F2 N2 hv hc
    cases b
    · have hf : Txt.find (Str.ofString "ab") ⟨#[97]⟩ = 0 := by decide +kernel
      replace hm1 : mC (Str.ofString "sign") = some (.str ⟨#[97]⟩ u) := hm1
      k_extra "u"
      k_steps
      unfold zC9
      rename Fr _ _ _ _ => F4
      rename News _ _ _ _ => N4
      rcases hz9 with rfl | rfl | rfl | rfl | rfl | rfl | rfl | rfl
      · refine item_listR ⟨_, (N4 _ (.head _)).1, rfl, _, rfl⟩ (by decide) (by decide) rfl ⟨_, _, rfl, F4, zx9 N4, ?_⟩
        rw [zW9 _ _ hr]; exact zd9 hJ (qG9 (by decide +kernel))
      · refine item_listR ⟨_, (N4 _ (.head _)).1, rfl, _, rfl⟩ (by decide) (by decide) rfl ⟨_, _, rfl, F4, zx9 N4, ?_⟩
        rw [zW9 _ _ hr]; exact zd9 hJ (qG9 (by decide +kernel))
      · refine item_listR ⟨_, (N4 _ (.head _)).1, rfl, _, rfl⟩ (by decide) (by decide) rfl ⟨_, _, rfl, F4, zx9 N4, ?_⟩
        rw [zW9 _ _ hr]; exact zd9 hJ (qG9 (by decide +kernel))
      · refine item_listR ⟨_, (N4 _ (.head _)).1, rfl, _, rfl⟩ (by decide) (by decide) rfl ⟨_, _, rfl, F4, zx9 N4, ?_⟩
        rw [zW9 _ _ hr]; exact zd9 hJ (qG9 (by decide +kernel))
      · refine item_listR ⟨_, (N4 _ (.head _)).1, rfl, _, rfl⟩ (by decide) (by decide) rfl ⟨_, _, rfl, F4, zx9 N4, ?_⟩
        rw [zW9 _ _ hr]; exact zd9 hJ (qG9 (by decide +kernel))
      · refine item_listR ⟨_, (N4 _ (.head _)).1, rfl, _, rfl⟩ (by decide) (by decide) rfl ⟨_, _, rfl, F4, zx9 N4, ?_⟩
        rw [zW9 _ _ hr]; exact zd9 hJ (qG9 (by decide +kernel))
      · refine item_listR ⟨_, (N4 _ (.head _)).1, rfl, _, rfl⟩ (by decide) (by decide) rfl ⟨_, _, rfl, F4, zx9 N4, ?_⟩
        rw [zW9 _ _ hr]; exact zd9 hJ (qG9 (by decide +kernel))
      · refine item_listR ⟨_, (N4 _ (.head _)).1, rfl, _, rfl⟩ (by decide) (by decide) rfl ⟨_, _, rfl, F4, zx9 N4, ?_⟩
        rw [zW9 _ _ hr]; exact zd9 hJ (qG9 (by decide +kernel))
    · have hf : Txt.find (Str.ofString "ab") ⟨#[98]⟩ = 1 := by decide +kernel
      replace hm1 : mC (Str.ofString "sign") = some (.str ⟨#[98]⟩ u) := hm1
      k_extra "u"
      k_steps
      unfold zC9
      rename Fr _ _ _ _ => F4
      rename News _ _ _ _ => N4
      rcases hz9 with rfl | rfl | rfl | rfl | rfl | rfl | rfl | rfl
      · refine item_listR ⟨_, (N4 _ (.head _)).1, rfl, _, rfl⟩ (by decide) (by decide) rfl ⟨_, _, rfl, F4, zx9 N4, ?_⟩
        rw [zW9 _ _ hr]; exact zd9 hJ (qG9 (by decide +kernel))
      · refine item_listR ⟨_, (N4 _ (.head _)).1, rfl, _, rfl⟩ (by decide) (by decide) rfl ⟨_, _, rfl, F4, zx9 N4, ?_⟩
        rw [zW9 _ _ hr]; exact zd9 hJ (qG9 (by decide +kernel))
      · refine item_listR ⟨_, (N4 _ (.head _)).1, rfl, _, rfl⟩ (by decide) (by decide) rfl ⟨_, _, rfl, F4, zx9 N4, ?_⟩
        rw [zW9 _ _ hr]; exact zd9 hJ (qG9 (by decide +kernel))
      · refine item_listR ⟨_, (N4 _ (.head _)).1, rfl, _, rfl⟩ (by decide) (by decide) rfl ⟨_, _, rfl, F4, zx9 N4, ?_⟩
        rw [zW9 _ _ hr]; exact zd9 hJ (qG9 (by decide +kernel))
      · refine item_listR ⟨_, (N4 _ (.head _)).1, rfl, _, rfl⟩ (by decide) (by decide) rfl ⟨_, _, rfl, F4, zx9 N4, ?_⟩
        rw [zW9 _ _ hr]; exact zd9 hJ (qG9 (by decide +kernel))
      · refine item_listR ⟨_, (N4 _ (.head _)).1, rfl, _, rfl⟩ (by decide) (by decide) rfl ⟨_, _, rfl, F4, zx9 N4, ?_⟩
        rw [zW9 _ _ hr]; exact zd9 hJ (qG9 (by decide +kernel))
      · refine item_listR ⟨_, (N4 _ (.head _)).1, rfl, _, rfl⟩ (by decide) (by decide) rfl ⟨_, _, rfl, F4, zx9 N4, ?_⟩
        rw [zW9 _ _ hr]; exact zd9 hJ (qG9 (by decide +kernel))
      · refine item_listR ⟨_, (N4 _ (.head _)).1, rfl, _, rfl⟩ (by decide) (by decide) rfl ⟨_, _, rfl, F4, zx9 N4, ?_⟩
        rw [zW9 _ _ hr]; exact zd9 hJ (qG9 (by decide +kernel))
  case fin =>
    intro g1 ys hJ D2 h tk F3 N3 hlD
    clear F2 N2
    k_extra "u"
    k_steps
    unfold zC9
    rename Fr _ _ _ _ => F4
    rename News _ _ _ _ => N4
    have hJ2 : StrsAre ys.toArray.toList ((xN9 xF9.2.2.2.2.2.2.2.2.2.2.2.2.2.2.2.1 xF9.2.2.2.2.2.2.2.2.2.2.2.2.2.2.1).map fun tk => (⟨tk.text.toArray⟩ : Str)) := by
      have := hJ
      rw [List.take_of_length_le (by lia)] at this
      exact this
    refine join_listW ⟨_, (N4 _ (.head _)).1, rfl, _, rfl⟩ hJ2 (by decide) (by have h1 := vL9 (xN9 xF9.2.2.2.2.2.2.2.2.2.2.2.2.2.2.2.1 xF9.2.2.2.2.2.2.2.2.2.2.2.2.2.2.1); simp only [List.length_map]; lia) ?_
    intro t' k'
    rw [qE9, bC9]
    k_extra "u"
    k_steps
    rename Fr _ _ _ _ => F5
    rename News _ _ _ _ => N5
    exact k _ _ _ F5 (zx9 N5)
theorem jS9 (V rest dp un gd g L' fa cd s Q m' KL kvs kz bs oh ok : _) : nS9 V rest dp un gd g L' fa cd s Q m' KL kvs kz bs oh ok := H18 (by unfold xF9; rfl) @ds9 V rest dp un gd g L' fa cd s Q m' KL kvs kz bs oh ok
end
section
theorem ln29 : True := by
  (k_with "binaryOp Add str str" => (k_here; (with_reducible show wpAny _ _ (binaryOp _ (Value.str _ _) (Value.str (PySem.Str.mk #[_]) _)) _ _ _); (refine wF9 (by assumption) ?_); (intro _ _); (try dsimp only)))
  trivial
noncomputable def fitN (hd one : Str) (kz : List Int) (k : Nat) : Bool := decide (kz.getD k 0 < 5) && !(Txt.item one (k : Int) == Txt.item hd (k : Int))
noncomputable def fitW (hd : Str) (kz : List Int) (n : Nat) (one : Str) : Bool := decide (((List.range n).filter (fitN hd one kz)).map (fun k : Nat => (k : Int)) = [])
theorem ud9 {α β : Type} (f : α → β) (l : List α) {i : Nat} {x : α} (h : l[i]? = some x) : (l.take (i + 1)).map f = (l.take i).map f ++ [f x] := by
  rw [List.take_add_one, h]; simp
theorem ln30 : True := by
  (k_with "subscriptTail Name Name ref int" => (k_here; (with_reducible show wpAny _ _ (subscriptTail _ _ (Value.ref _) (Value.int _ _)) _ _ _); (k_dflt (refine qO9 (by k_asm) (by k_mem) _ rfl (by with_reducible assumption) (by with_reducible assumption) ?_))))
  (k_with "subscriptTail Name Name str int" => (k_here; (refine tc9 (by with_reducible assumption) (by lia) (by lia) (by with_reducible assumption) ?_); intro _))
  (k_with "compareOp Eq ref ref" => (k_here; k_dflt (refine eqI (by k_asm) (by k_mem) (by k_mem) (by with_reducible assumption) (by show _ + 64 < cLine; lia) ?_)))
  (k_with "compareOp NotEq str str" => (k_here; refine neS (by with_reducible assumption) ?_))
  (k_with "call type:range" => (k_here; (with_reducible show wpAny _ _ (call (Value.type "range") [Value.int _ _]) _ _ _); k_dflt (refine' qL9 ?_ ?_ ?_; rotate_right 3; (· k_asm); (· k_asm)); intro _ _ _ _ _ _ _ l1; (try k_lt l1); (revert l1; intro _); (try k_sweep)))
  trivial
noncomputable def nR9 (V : Wd) (rest : List Stmt) (dp un : Nat) (gd : Option (List Code)) (A₁ : Around) (base g : Heap) (L' fa : Addr) (cd : Value) (s : Shared) (Q : Flow → Shared → Prop) (m' : Str → Option Value) (HL KL : Addr) (hvs kvs : List Value) (hs : List Str) (kz : List Int) (cn n e : Nat) (tc th : Tok) (oct oh ok ofi : Obj) (lg : List (Addr × Obj)) : Prop := ∀ (st : Stmt) (sc : Scope) (hst : zS9 22 = st) (hsc : zM9 = sc) (hdp : dp + 40 ≤ recursionLimit) (hu : un + 400 < cLine) (B : Below A₁ base [] g) (X : (getK.heap_1 V.w.params).In g) (T : Top V.p V.loose V.mean V.mg V.mb g) (hst2 : StrsAre hvs hs) (hh1 : hs.length ≤ 6) (hkz : IntsAre kvs kz) (hck : kz.length = cn) (hc4 : cn ≤ 4) (hhl : ∀ x ∈ hs, x.length = cn) (hd0 : Str) (hdl : hd0.length = cn) (v11 : Option Value) (hoct : oct.data = .cell (some (.int (cn : Int) tc))) (hoh : oh.data = .cell (some (.str hd0 th))) (hok : ok.data = .cell (some (.ref KL))) (hof : ofi.data = .cell v11) (hH11 : @Ne Nat HL (L' + 1 + 1 + 1 + 1 + 1 + 1 + 1 + 1 + 1 + 1 + 1)) (hK11 : @Ne Nat KL (L' + 1 + 1 + 1 + 1 + 1 + 1 + 1 + 1 + 1 + 1 + 1)) (hl11 : AllNe (L' + 1 + 1 + 1 + 1 + 1 + 1 + 1 + 1 + 1 + 1 + 1) lg) (F : Fr g L' s.heap (fun y => if y = Str.ofString "heads" then some (.ref HL) else m' y)) (N : News g L' s.heap ((HL, W.listOf (List.toArray hvs) e) :: (KL, W.listOf (List.toArray kvs) n) :: (L' + 1 + 1 + 1 + 1 + 1 + 1 + 1, oct) :: (L' + 1 + 1 + 1 + 1 + 1 + 1 + 1 + 1, oh) :: (L' + 1 + 1 + 1 + 1 + 1 + 1 + 1 + 1 + 1 + 1, ok) :: (L' + 1 + 1 + 1 + 1 + 1 + 1 + 1 + 1 + 1 + 1 + 1, ofi) :: lg)) (k : ∀ (FL : Addr) (fs : List Value) ofi' h' tk', fs = hs.map (fun one => Value.bool (fitW hd0 kz cn one)) → ofi'.data = .cell (some (.ref FL)) → Fr g L' h' (fun y => if y = Str.ofString "heads" then some (.ref HL) else m' y) → News g L' h' ((FL, W.listOf fs.toArray fs.length) :: (HL, W.listOf (List.toArray hvs) e) :: (KL, W.listOf (List.toArray kvs) n) :: (L' + 1 + 1 + 1 + 1 + 1 + 1 + 1, oct) :: (L' + 1 + 1 + 1 + 1 + 1 + 1 + 1 + 1, oh) :: (L' + 1 + 1 + 1 + 1 + 1 + 1 + 1 + 1 + 1 + 1, ok) :: (L' + 1 + 1 + 1 + 1 + 1 + 1 + 1 + 1 + 1 + 1 + 1, ofi') :: lg) → wpAny (model prg V.w) (lawA sc L' fa cd dp un gd) (execs rest (zQ9 sc L' fa cd)) Q (fun _ _ => False) { s with heap := h', toks := tk' }), wpAny (model prg V.w) (lawA sc L' fa cd dp un gd) (execs (st :: rest) (zQ9 sc L' fa cd)) Q (fun _ _ => False) s
@[irreducible] noncomputable def zf9 := W30 nR9
theorem dr9 : A30 nR9 zf9 := by
  intro st sc hst hsc hdp hu B X T hst2 hh1 hkz hck hc4 hhl hd0 hdl v11 hoct hoh hok hof hH11 hK11 hl11 F N k
  have h2 := @id (zS9 22 = Stmt.Assign _ _ _) rfl
  rw [h2] at hst
  subst hst
  clear h2
  k_extra "w"
  have hvl : zf9.2.2.2.2.2.2.2.2.2.2.2.2.2.2.2.2.1.length = zf9.2.2.2.2.2.2.2.2.2.2.2.2.2.2.2.2.2.2.1.length := zr9 hst2
  have hkl : zf9.2.2.2.2.2.2.2.2.2.2.2.2.2.2.2.2.2.1.length = zf9.2.2.2.2.2.2.2.2.2.2.2.2.2.2.2.2.2.2.2.2.1 := (zN9 hkz).trans hck
  have hkm : zf9.2.2.2.2.2.2.2.2.2.2.2.2.2.2.2.2.2.1.length ≤ 1000000 := by lia
  k_extra "v"
  k_extra "u"
  k_steps
  unfold zC9
  refine yR9 F rfl rfl ⟨fun _ _ => rfl, fun _ => rfl⟩ rfl (by decide) (by decide) ?_
  k_extra "u"
  k_steps
  unfold zC9
  rename Fr _ _ _ _ => F1
  rename News _ _ _ _ => N1
  refine xV9 (J := fun i ys => ys = (zf9.2.2.2.2.2.2.2.2.2.2.2.2.2.2.2.2.2.2.1.take i).map (fun one => Value.bool (fitW hd0 zf9.2.2.2.2.2.2.2.2.2.2.2.2.2.2.2.2.2.2.2.1 zf9.2.2.2.2.2.2.2.2.2.2.2.2.2.2.2.2.2.2.2.2.1 one))) rfl F1 N1 (.head _) (by rw [sizeLine_eq]; lia) rfl ?hlen ?turn ?fin
  case hlen => intro i ys h; rw [h, List.length_map, List.length_take]; exact Nat.min_le_left _ _
  case turn =>
    intro g1 I hI1 i v ys C D3 ow oJ h tk E' hi' hP hJ hO F2 N2 hID hDC
    k_extra "y"
    refine ex2 (hO) fun oC oX hJ9 => ?_
    refine an2 hJ9 fun e9_0 hns hx => ?_
    clear hJ9
    try clear hO
    subst e9_0
    k_extra "z"
    k_extra "y"
    refine ex2 (xW9 hst2 hP) fun one t1 hJ9 => ?_
    refine an1 hJ9 fun e9_0 hz => ?_
    clear hJ9
    subst e9_0
    k_extra "z"
    have h1l : one.length = zf9.2.2.2.2.2.2.2.2.2.2.2.2.2.2.2.2.2.2.2.2.1 := hhl one (List.mem_of_getElem? hz)
    dsimp only [led, List.cons_append, List.nil_append] at N2
    clear F1 N1
    simp only [LTest, List.foldr_cons, List.foldr_nil]
    k_extra "u"
    k_steps
    unfold zC9
    rename Fr _ _ _ _ => F3
    refine xj9 F3 rfl rfl (by decide) rfl (by decide) (by decide) ?_
    k_extra "u"
    k_steps
    unfold zC9
    rename Fr _ _ _ _ => F4
    rename News _ _ _ _ => N4
    refine xR9 (a := 0) (b := (zf9.2.2.2.2.2.2.2.2.2.2.2.2.2.2.2.2.2.2.2.2.1 : Int)) (n := zf9.2.2.2.2.2.2.2.2.2.2.2.2.2.2.2.2.2.2.2.2.1) (J := fun j ys => IntsAre ys (((List.range j).filter (fitN hd0 one zf9.2.2.2.2.2.2.2.2.2.2.2.2.2.2.2.2.2.2.2.1)).map fun k : Nat => (k : Int))) rfl (N4 _ (.head _)).1 (small_one (by lia) (by lia) (by lia) (by lia)) (by simpa using rangeSize_nat 0 zf9.2.2.2.2.2.2.2.2.2.2.2.2.2.2.2.2.2.2.2.2.1) (by rw [sizeLine_eq]; lia) F4 N4 .nil ?hlen2 ?turn2 ?fin2
    case hlen2 => intro i ys h; rw [zN9 h, List.length_map]; exact Nat.le_trans (List.length_filter_le _ _) (by rw [List.length_range]; exact Nat.le_refl _)
    case turn2 =>
      intro g2 I2 hI2 j v2 zs C4 D4 ow4 oJ4 h4 tk4 E4 hj hP4 hJ4 hO4 F5 N5 hID4 hDC4
      k_extra "y"
      refine ex2 (hO4) fun oC4 mC4 hJ9 => ?_
      refine an2 hJ9 fun e9_0 hns4 hx4 => ?_
      clear hJ9
      try clear hO4
      subst e9_0
      k_extra "z"
      obtain ⟨t2, hv2⟩ := hP4
      rw [Int.zero_add] at hv2
      subst hv2
      dsimp only [led, List.cons_append, List.nil_append] at N5
      k_extra "y"
      refine ex2 (zt9 hkz (List.getElem?_eq_getElem (show j < zf9.2.2.2.2.2.2.2.2.2.2.2.2.2.2.2.2.2.1.length by lia))) fun z tz hJ9 => ?_
      refine an1 hJ9 fun hz1 hz2 => ?_
      clear hJ9
      k_extra "z"
      have hkv : zf9.2.2.2.2.2.2.2.2.2.2.2.2.2.2.2.2.2.1[j]? = some (.int z tz) := by rw [List.getElem?_eq_getElem (show j < zf9.2.2.2.2.2.2.2.2.2.2.2.2.2.2.2.2.2.1.length by lia), hz1]
      obtain ⟨i1, hi1⟩ : ∃ x, Txt.item one (j : Int) = x := ⟨_, rfl⟩
      obtain ⟨i2, hi2⟩ : ∃ x, Txt.item hd0 (j : Int) = x := ⟨_, rfl⟩
      obtain ⟨eb, heb⟩ : ∃ x, (i1 == i2) = x := ⟨_, rfl⟩
      have hfe : fitN hd0 one zf9.2.2.2.2.2.2.2.2.2.2.2.2.2.2.2.2.2.2.2.1 j = (decide (z < 5) && !eb) := by unfold fitN; rw [List.getD_eq_getElem?_getD, hz2, hi1, hi2, heb]; rfl
      have hone : one.length ≤ 1000 := by lia
      have hhd : hd0.length ≤ 1000 := by lia
      clear F4 N4 hz1
      simp only [LTest, List.foldr_cons, List.foldr_nil]
      k_extra "u"
      k_steps
      · rename Fr _ _ _ _ => F6
        rename News _ _ _ _ => N6
        rename_i q
        have hb : fitN hd0 one zf9.2.2.2.2.2.2.2.2.2.2.2.2.2.2.2.2.2.2.2.1 j = false := by rw [hfe, q]; simp
        refine ix2 _ _ (⟨rfl, F6, N6, ?_⟩)
        rw [xJ9, if_neg (by rw [hb]; decide), List.append_nil]
        exact hJ4
      · rename Fr _ _ _ _ => F6
        rename News _ _ _ _ => N6
        rename_i q
        have hb : fitN hd0 one zf9.2.2.2.2.2.2.2.2.2.2.2.2.2.2.2.2.2.2.2.1 j = true := by rw [hfe, q, decide_eq_true (by assumption)]; rfl
        refine ix2 _ _ (⟨rfl, F6, N6, ?_⟩)
        rw [xJ9, if_pos hb, List.map_append]
        exact zs9 hJ4 _ _
      · rename Fr _ _ _ _ => F6
        rename News _ _ _ _ => N6
        rename_i q
        have hb : fitN hd0 one zf9.2.2.2.2.2.2.2.2.2.2.2.2.2.2.2.2.2.2.2.1 j = false := by rw [hfe, decide_eq_false q]; rfl
        refine ix2 _ _ (⟨rfl, F6, N6, ?_⟩)
        rw [xJ9, if_neg (by rw [hb]; decide), List.append_nil]
        exact hJ4
    case fin2 =>
      intro g2 zs hJ4 D4 h4 tk4 F5 N5 hlD
      have hJ5 : IntsAre zs (((List.range zf9.2.2.2.2.2.2.2.2.2.2.2.2.2.2.2.2.2.2.2.2.1).filter (fitN hd0 one zf9.2.2.2.2.2.2.2.2.2.2.2.2.2.2.2.2.2.2.2.1)).map fun k : Nat => (k : Int)) := hJ4
      have hge : fitW hd0 zf9.2.2.2.2.2.2.2.2.2.2.2.2.2.2.2.2.2.2.2.1 zf9.2.2.2.2.2.2.2.2.2.2.2.2.2.2.2.2.2.2.2.2.1 one = decide (((List.range zf9.2.2.2.2.2.2.2.2.2.2.2.2.2.2.2.2.2.2.2.2.1).filter (fitN hd0 one zf9.2.2.2.2.2.2.2.2.2.2.2.2.2.2.2.2.2.2.2.1)).map (fun k : Nat => (k : Int)) = []) := rfl
      clear F4 N4 hJ4
      k_lt hlD
      k_extra "u"
      k_steps
      rename Fr _ _ _ _ => F6
      rename News _ _ _ _ => N6
      refine ix2 _ _ (⟨rfl, F6, (fun p hp => N6 p (.tail _ (.tail _ (.tail _ hp)))), ?_⟩)
      rw [hJ, ud9 _ _ hz, hge]
  case fin =>
    intro g1 ys hJ D3 h tk F2 N2 hlD
    have hJ2 : ys = zf9.2.2.2.2.2.2.2.2.2.2.2.2.2.2.2.2.2.2.1.map (fun one => Value.bool (fitW hd0 zf9.2.2.2.2.2.2.2.2.2.2.2.2.2.2.2.2.2.2.2.1 zf9.2.2.2.2.2.2.2.2.2.2.2.2.2.2.2.2.2.2.2.2.1 one)) := by
      rw [hJ, List.take_of_length_le (by lia)]
    have q11 : @Ne Nat D3 (zf9.2.2.2.2.2.2.2.2.1 + 1 + 1 + 1 + 1 + 1 + 1 + 1 + 1 + 1 + 1 + 1) := Ne.symm (Nat.ne_of_lt (hlD _ (.tail _ (.tail _ (.tail _ (.tail _ (.tail _ (.head _))))))))
    clear F1 N1
    k_extra "u"
    k_steps
    rename Fr _ _ _ _ => F3
    rename News _ _ _ _ => N3
    exact k _ _ _ _ _ hJ2 (by assumption) F3 N3
theorem jR9 (V rest dp un gd A₁ base g L' fa cd s Q m' HL KL hvs kvs hs kz cn n e tc th oct oh ok ofi lg : _) : nR9 V rest dp un gd A₁ base g L' fa cd s Q m' HL KL hvs kvs hs kz cn n e tc th oct oh ok ofi lg := H30 (by unfold zf9; rfl) @dr9 V rest dp un gd A₁ base g L' fa cd s Q m' HL KL hvs kvs hs kz cn n e tc th oct oh ok ofi lg
end
section
theorem ln31 : True := by
  (k_with "call builtin:len" => (k_here; (with_reducible show wpAny _ _ (call (Value.builtin "len") [Value.ref _]) _ _ _); (refine' lenL ?_ ?_ ?_ ?_; rotate_right 4; (· k_asm); (· k_mem); (· (first | assumption | ((simp only [List.size_toArray, List.length_replicate]); lia)))); (intro _ _); (try simp only [List.size_toArray, List.length_replicate]); (try dsimp only)))
  (k_with "call builtin:len" => (k_here; first | ((with_reducible show wpAny _ _ (call (Value.builtin "len") [Value.str _ _]) _ _ _); k_dflt (refine lenTo (by with_reducible assumption) (by lia) ?_); (intro _ _)) | ((with_reducible show wpAny _ _ (call (Value.builtin "len") [Value.ref _]) _ _ _); k_dflt (refine bR9 (by k_asm) (by k_mem) (by with_reducible assumption) (by lia) ?_); (intro _ _))))
  trivial
theorem uc9 {α β : Type} (f : α → β) (l : List α) {i : Nat} {x : α} (h : l[i]? = some x) : (l.take (i + 1)).map f = (l.take i).map f ++ [f x] := by
  rw [List.take_add_one, h]; simp
noncomputable def nQ9 (V : Wd) (rest : List Stmt) (dp un : Nat) (gd : Option (List Code)) (g : Heap) (L' fa : Addr) (cd : Value) (s : Shared) (Q : Flow → Shared → Prop) (m' : Str → Option Value) (RL K : Addr) (rvs kvs : List Value) (ns : List Int) (n n6 : Nat) (oc ors oct ob : Obj) (lg : List (Addr × Obj)) : Prop := ∀ (st : Stmt) (sc : Scope) (hst : zS9 23 = st) (hsc : zM9 = sc) (A₁ : Around) (base : Heap) (hdp : dp + 40 ≤ recursionLimit) (hu : un + 400 < cLine) (B : Below A₁ base [] g) (X : (getK.heap_1 V.w.params).In g) (T : Top V.p V.loose V.mean V.mg V.mb g) (ks : List Int) (hrv : IntsAre rvs ns) (hn : ns.length = 13) (hks : IntsAre kvs ks) (hk6 : ks.length = 6) (cn : Nat) (hc4 : cn ≤ 4) (tc : Tok) (v12 : Option Value) (hoc : oc.data = .cell (some (.ref K))) (hors : ors.data = .cell (some (.ref RL))) (hoct : oct.data = .cell (some (.int (cn : Int) tc))) (hob : ob.data = .cell v12) (hR12 : @Ne Nat RL (L' + 1 + 1 + 1 + 1 + 1 + 1 + 1 + 1 + 1 + 1 + 1 + 1)) (hK12 : @Ne Nat K (L' + 1 + 1 + 1 + 1 + 1 + 1 + 1 + 1 + 1 + 1 + 1 + 1)) (hl12 : AllNe (L' + 1 + 1 + 1 + 1 + 1 + 1 + 1 + 1 + 1 + 1 + 1 + 1) lg) (F : Fr g L' s.heap m') (N : News g L' s.heap ((RL, W.listOf (List.toArray rvs) n) :: (K, W.listOf (List.toArray kvs) n6) :: (L' + 1 + 1 + 1, oc) :: (L' + 1 + 1 + 1 + 1 + 1, ors) :: (L' + 1 + 1 + 1 + 1 + 1 + 1 + 1, oct) :: (L' + 1 + 1 + 1 + 1 + 1 + 1 + 1 + 1 + 1 + 1 + 1 + 1, ob) :: lg)) (k : ∀ (BL : Addr) (ys : List Value) ob' h' tk', IntsAre ys (ns.map fun x => (((ks.take (cn + 1)).filter fun c => decide (c ≤ x)).length : Int)) → ob'.data = .cell (some (.ref BL)) → Fr g L' h' m' → News g L' h' ((BL, W.listOf ys.toArray ys.length) :: (RL, W.listOf (List.toArray rvs) n) :: (K, W.listOf (List.toArray kvs) n6) :: (L' + 1 + 1 + 1, oc) :: (L' + 1 + 1 + 1 + 1 + 1, ors) :: (L' + 1 + 1 + 1 + 1 + 1 + 1 + 1, oct) :: (L' + 1 + 1 + 1 + 1 + 1 + 1 + 1 + 1 + 1 + 1 + 1 + 1, ob') :: lg) → wpAny (model prg V.w) (lawA sc L' fa cd dp un gd) (execs rest (zQ9 sc L' fa cd)) Q (fun _ _ => False) { s with heap := h', toks := tk' }), wpAny (model prg V.w) (lawA sc L' fa cd dp un gd) (execs (st :: rest) (zQ9 sc L' fa cd)) Q (fun _ _ => False) s
@[irreducible] noncomputable def vH9 := W24 nQ9
theorem dq9 : A24 nQ9 vH9 := by
  intro st sc hst hsc A₁ base hdp hu B X T ks hrv hn hks hk6 cn hc4 tc v12 hoc hors hoct hob hR12 hK12 hl12 F N k
  have h2 := @id (zS9 23 = Stmt.Assign _ _ _) rfl
  rw [h2] at hst
  subst hst
  clear h2
  k_extra "w"
  have hrl : vH9.2.2.2.2.2.2.2.2.2.2.2.2.2.2.1.length = 13 := by rw [zN9 hrv]; exact hn
  k_extra "v"
  k_extra "u"
  k_steps
  unfold zC9
  refine yR9 F rfl rfl ⟨fun _ _ => rfl, fun _ => rfl⟩ rfl (by decide) (by decide) ?_
  k_extra "u"
  k_steps
  unfold zC9
  rename Fr _ _ _ _ => F1
  rename News _ _ _ _ => N1
  refine xV9 (J := fun i ys => IntsAre ys ((vH9.2.2.2.2.2.2.2.2.2.2.2.2.2.2.2.2.1.take i).map fun x => (((ks.take (cn + 1)).filter fun c => decide (c ≤ x)).length : Int))) rfl F1 N1 (.head _) (by rw [sizeLine_eq]; lia) .nil ?hlen ?turn ?fin
  case hlen => intro i ys h; rw [zN9 h, List.length_map, List.length_take]; exact Nat.min_le_left _ _
  case turn =>
    intro g1 I hI1 i v ys C D3 ow oJ h tk E' hi' hP hJ hO F2 N2 hID hDC
    k_extra "y"
    refine ex2 (hO) fun oC oX hJ9 => ?_
    refine an2 hJ9 fun e9_0 hns hx => ?_
    clear hJ9
    try clear hO
    subst e9_0
    k_extra "z"
    k_extra "y"
    refine ex2 (zt9 hrv hP) fun one t1 hJ9 => ?_
    refine an1 hJ9 fun e9_0 hz => ?_
    clear hJ9
    subst e9_0
    k_extra "z"
    dsimp only [led, List.cons_append, List.nil_append] at N2
    clear F1 N1
    simp only [LTest, List.foldr_cons, List.foldr_nil]
    k_extra "u"
    k_steps
    unfold zC9
    rename Fr _ _ _ _ => F3
    rename News _ _ _ _ => N3
    refine xj9 F3 rfl rfl (by decide) rfl (by decide) (by decide) ?_
    k_extra "u"
    k_steps
    unfold zC9
    rename Fr _ _ _ _ => F4
    rename News _ _ _ _ => N4
    rename_i D2 ws h2 hI hC hL lD
    have hI2 : IntsAre ws (ks.take (cn + 1)) := hI
    clear hI hC hL
    have hwl : (ks.take (cn + 1)).length ≤ 5 := by rw [List.length_take]; lia
    refine xV9 (J := fun i ys => IntsAre ys (((ks.take (cn + 1)).take i).filter fun c => decide (c ≤ one))) rfl F4 N4 (.head _) (by rw [sizeLine_eq, zN9 hI2]; lia) .nil ?hlen2 ?turn2 ?fin2
    case hlen2 => intro i ys h; rw [zN9 h]; exact Nat.le_trans (List.length_filter_le _ _) (by rw [List.length_take]; exact Nat.min_le_left _ _)
    case turn2 =>
      intro g2 I2 hI2' j v2 zs C4 D4 ow4 oJ4 h4 tk4 E4 hj' hP4 hJ4 hO4 F5 N5 hID4 hDC4
      k_extra "y"
      refine ex2 (hO4) fun oC4 mC4 hJ9 => ?_
      refine an2 hJ9 fun e9_0 hns4 hx4 => ?_
      clear hJ9
      try clear hO4
      subst e9_0
      k_extra "z"
      k_extra "y"
      refine ex2 (zt9 hI2 hP4) fun cz t2 hJ9 => ?_
      refine an1 hJ9 fun e9_0 hz2 => ?_
      clear hJ9
      subst e9_0
      k_extra "z"
      dsimp only [led, List.cons_append, List.nil_append] at N5
      clear F4 N4
      simp only [LTest, List.foldr_cons, List.foldr_nil]
      k_extra "u"
      k_steps
      · rename Fr _ _ _ _ => F6
        rename News _ _ _ _ => N6
        refine ix2 _ _ (⟨rfl, F6, N6, ?_⟩)
        rw [zv9 _ _ hz2, if_pos (decide_eq_true (by assumption))]
        exact zs9 hJ4 _ _
      · rename Fr _ _ _ _ => F6
        rename News _ _ _ _ => N6
        refine ix2 _ _ (⟨rfl, F6, N6, ?_⟩)
        rw [zv9 _ _ hz2, if_neg (fun q => absurd (of_decide_eq_true q) (by assumption)), List.append_nil]
        exact hJ4
    case fin2 =>
      intro g2 zs hJ4 D4 h4 tk4 F5 N5 hlD
      have hJ5 : IntsAre zs ((ks.take (cn + 1)).filter fun c => decide (c ≤ one)) := by
        have := hJ4
        rw [List.take_of_length_le (by rw [zN9 hI2]; exact Nat.le_refl _)] at this
        exact this
      obtain ⟨c, hc⟩ : ∃ c, ((ks.take (cn + 1)).filter fun c => decide (c ≤ one)).length = c := ⟨_, rfl⟩
      have hc6 : c ≤ 6 := by rw [← hc]; exact Nat.le_trans (List.length_filter_le _ _) (by lia)
      have hzl : zs.length = c := (zN9 hJ5).trans hc
      clear F4 N4 hJ4
      k_extra "u"
      k_steps
      rename Fr _ _ _ _ => F6
      rename News _ _ _ _ => N6
      refine ix2 _ _ (⟨rfl, F6, zx9 (zx9 N6), ?_⟩)
      rw [uc9 _ _ hz, hc]
      exact zs9 hJ _ _
  case fin =>
    intro g1 ys hJ D3 h tk F2 N2 hlD
    have hJ2 : IntsAre ys (vH9.2.2.2.2.2.2.2.2.2.2.2.2.2.2.2.2.1.map fun x => (((ks.take (cn + 1)).filter fun c => decide (c ≤ x)).length : Int)) := by
      have := hJ
      rw [List.take_of_length_le (l := vH9.2.2.2.2.2.2.2.2.2.2.2.2.2.2.2.2.1) (by lia)] at this
      exact this
    have q12 : @Ne Nat D3 (vH9.2.2.2.2.2.2.1 + 1 + 1 + 1 + 1 + 1 + 1 + 1 + 1 + 1 + 1 + 1 + 1) := Ne.symm (Nat.ne_of_lt (hlD _ (.tail _ (.tail _ (.tail _ (.tail _ (.tail _ (.head _))))))))
    clear F1 N1
    k_extra "u"
    k_steps
    rename Fr _ _ _ _ => F3
    rename News _ _ _ _ => N3
    exact k _ _ _ _ _ hJ2 (by assumption) F3 N3
theorem jQ9 (V rest dp un gd g L' fa cd s Q m' RL K rvs kvs ns n n6 oc ors oct ob lg : _) : nQ9 V rest dp un gd g L' fa cd s Q m' RL K rvs kvs ns n n6 oc ors oct ob lg := H24 (by unfold vH9; rfl) @dq9 V rest dp un gd g L' fa cd s Q m' RL K rvs kvs ns n n6 oc ors oct ob lg
end
section
theorem ln32 : True := by
  (k_with "call builtin:len" => (k_here; (with_reducible show wpAny _ _ (call (Value.builtin "len") [Value.ref _]) _ _ _); (refine' lenL ?_ ?_ ?_ ?_; rotate_right 4; (· k_asm); (· k_mem); (· (first | assumption | ((simp only [List.size_toArray, List.length_replicate]); lia)))); (intro _ _); (try simp only [List.size_toArray, List.length_replicate]); (try dsimp only)))
  (k_with "exec Assign cons ListComp" => (k_here; refine zK9 ?_))
  trivial
theorem st_0 (V : Wd) (st : Stmt) (sc : Scope) (hst : zS9 0 = st) (hsc : zM9 = sc) (rest : List Stmt) (dp un : Nat) (gd : Option (List Code)) (A₁ : Around) (base g : Heap) (L' fa : Addr) (cd : Value) (s : Shared) (Q : Flow → Shared → Prop) 
    (hdp : dp + 40 ≤ recursionLimit) (hu : un + 400 < cLine) (B : Below A₁ base [] g) (X : (getK.heap_1 V.w.params).In g) (T : Top V.p V.loose V.mean V.mg V.mb g)
    (m' : Str → Option Value) (a : Addr) (vs : List Value) (ns : List Int) (hl : g.IsList a vs.toArray) (hi : IntsAre vs ns) (h63 : ns.length ≤ 63) (lg : List (Addr × Obj))
    (F : Fr g L' s.heap (fun y => if y = Str.ofString "script" then some (.ref a) else m' y)) (N : News g L' s.heap lg)
    (k : ∀ C cvs h' tk' (m' : Str → Option Value), Fr g L' h' (fun y => if y = Str.ofString "cells" then some (.ref C) else m' y) → News g L' h' ((C, W.listOf cvs.toArray cvs.length) :: lg) → (∀ p ∈ lg, p.1 < C) → IntsAre cvs ((ns.take 6).map (· % 10 ^ 36)) → wpAny (model prg V.w) (lawA sc L' fa cd dp un gd) (execs rest (zQ9 sc L' fa cd)) Q (fun _ _ => False) { s with heap := h', toks := tk' }) :
    wpAny (model prg V.w) (lawA sc L' fa cd dp un gd) (execs (st :: rest) (zQ9 sc L' fa cd)) Q (fun _ _ => False) s := by
  have h2 := @id (zS9 0 = Stmt.Assign _ _ _) rfl
  rw [h2] at hst
  subst hst
  clear h2
  k_extra "w"
  have hvl : vs.length ≤ 63 := by rw [zN9 hi]; exact h63
  k_extra "v"
  k_extra "u"
  k_steps
  unfold zC9
  refine qD9 F rfl rfl rfl rfl (by decide) rfl (by decide) (by decide) rfl rfl ?_
  k_extra "u"
  k_steps
  unfold zC9
  rename Fr _ _ _ _ => F1
  rename News _ _ _ _ => N1
  rename_i D ws _ lD hI hC _
  have hwl : ws.length ≤ 6 := by rw [zN9 hI]; lia
  refine xV9 (J := fun i ys => IntsAre ys (((ns.take 6).take i).map (· % 10 ^ 36))) rfl F1 N1 (.head _) (by rw [sizeLine_eq]; lia) .nil ?hlen ?turn ?fin
  case hlen => intro i ys h; rw [zN9 h, List.length_map, List.length_take]; exact Nat.min_le_left _ _
  case turn =>
    intro g1 I hI1 i v ys C D2 ow oJ h tk E' hi' hP hJ hO F2 N2 hID hDC
    k_extra "y"
    refine ex2 (hO) fun oC mC hJ9 => ?_
    refine an2 hJ9 fun e9_0 hns hx => ?_
    clear hJ9
    try clear hO
    subst e9_0
    k_extra "z"
    k_extra "y"
    refine ex2 (zt9 hI hP) fun z t hJ9 => ?_
    refine an1 hJ9 fun e9_0 hz => ?_
    clear hJ9
    subst e9_0
    k_extra "z"
    dsimp only [led, List.cons_append, List.nil_append] at N2
    clear F1 N1
    simp only [LTest, List.foldr_cons, List.foldr_nil]
    k_extra "u"
    k_steps
    rename Fr _ _ _ _ => F3
    rename News _ _ _ _ => N3
    refine ix2 _ _ (⟨rfl, F3, N3, ?_⟩)
    have hm : z.fmod (10 ^ Int.toNat 36) = z % 10 ^ 36 := Int.fmod_eq_emod_of_nonneg _ (by decide)
    rw [List.take_add_one, hz, Option.toList_some, List.map_append, List.map_cons, List.map_nil, ← hm]
    exact zs9 hJ _ _
  case fin =>
    intro g1 ys hJ D2 h tk F2 N2 hlD
    have hJ2 : IntsAre ys ((ns.take 6).map (· % 10 ^ 36)) := by
      have := hJ
      rw [List.take_of_length_le (by rw [zN9 hI]; exact Nat.le_refl _)] at this
      exact this
    exact k D2 ys h tk _ F2 (qv9 N2) (fun p hp => hlD p (.tail _ hp)) hJ2
end
section
theorem ln33 : True := by
  (k_with "subscriptTail Name Slice ref ref" => (k_here; k_dflt (refine' kmk_slice_ints ?_ ?_ ?_ ?_ ?_ ?_ ?_ ?_ ?_ ?_ ?_ ?_; rotate_right 12; (· k_asm); (· k_asm); (· (exact News.isList (by k_asm) (.head _))); (· (exact IsPart.int _ _)); (· (exact IsPart.none)); (· (exact .cons _ _ (.cons _ _ (.cons _ _ (.cons _ _ (.cons _ _ (.cons _ _ .nil))))))); (· (exact kmk_from (.cons _ _ (.cons _ _ (.cons _ _ (.cons _ _ (.cons _ _ (.cons _ _ .nil)))))) (Int.natCast_nonneg _))); (· (exact List.length_drop ..)); rotate_left; (· (with_unfolding_all rfl)); (· kmk_pure); (· (exact Nat.le_of_ble_eq_true rfl))); intro _ _ _ _ _ l1 _ _ _; (try k_lt l1); (revert l1; intro _); (try k_sweep)))
  trivial
theorem st_1 (V : Wd) (st : Stmt) (sc : Scope) (hst : zS9 1 = st) (hsc : zM9 = sc) (rest : List Stmt) (dp un : Nat) (gd : Option (List Code)) (A₁ : Around) (base g : Heap) (L' fa : Addr) (cd : Value) (s : Shared) (Q : Flow → Shared → Prop) 
    (hdp : dp + 40 ≤ recursionLimit) (hu : un + 400 < cLine) (B : Below A₁ base [] g) (X : (getK.heap_1 V.w.params).In g) (T : Top V.p V.loose V.mean V.mg V.mb g)
    (m' : Str → Option Value) (C : Addr) (vs : List Value) (e : Nat) (ns : List Int) (hi : IntsAre vs ns) (h6 : ns.length ≤ 6) (lg : List (Addr × Obj))
    (F : Fr g L' s.heap (fun y => if y = Str.ofString "cells" then some (.ref C) else m' y)) (N : News g L' s.heap ((C, W.listOf vs.toArray e) :: lg))
    (k : ∀ C cvs e h' tk' (m' : Str → Option Value), Fr g L' h' (fun y => if y = Str.ofString "cells" then some (.ref C) else m' y) → News g L' h' ((C, W.listOf cvs.toArray e) :: lg) → (∀ p ∈ lg, p.1 < C) → IntsAre cvs (ns ++ [987654321, 4210, 0, 1001, 10, 247686].drop ns.length) → wpAny (model prg V.w) (lawA sc L' fa cd dp un gd) (execs rest (zQ9 sc L' fa cd)) Q (fun _ _ => False) { s with heap := h', toks := tk' }) :
    wpAny (model prg V.w) (lawA sc L' fa cd dp un gd) (execs (st :: rest) (zQ9 sc L' fa cd)) Q (fun _ _ => False) s := by
  have h2 := @id (zS9 1 = Stmt.Assign _ _ _) rfl
  rw [h2] at hst
  subst hst
  clear h2
  k_extra "w"
  have hvl : vs.length ≤ 6 := by rw [zN9 hi]; exact h6
  k_extra "v"
  k_extra "u"
  k_steps
  rename Fr _ _ _ _ => F1
  rename News _ _ _ _ => N1
  rename_i l1 D2 ws h2 hI l2 _ h3
  exact k _ _ _ _ _ _ F1 (qv9 (qv9 (qv9 N1))) (qW9 l2.2.2.2) hI
end
section
theorem dC9 {x K : Nat} (h : 2 + x < 2 ^ K) : (2 : Int) + (x : Int) < 2 ^ K := by
  have := Int.ofNat_lt.mpr h
  rw [Int.natCast_add, Int.natCast_pow] at this
  exact this
theorem jH9 {c E : Int} (h0 : 0 ≤ c) (h1 : c < 10 ^ 36) (he : 0 ≤ E) (he1 : E < 4600) : (Builtin.Int.intBits c : Int) + E ≤ 2 ^ 27 := by
  have : Builtin.Int.intBits c ≤ 130 := zT9 h0 (Int.lt_of_lt_of_le h1 (by decide +kernel))
  lia
theorem gG9 {c E : Int} (h0 : 0 ≤ c) (h1 : c < 10 ^ 36) (he : 0 ≤ E) (he1 : E < 4600) : 2 ≤ 2 + c * 2 ^ E.toNat ∧ 2 + c * 2 ^ E.toNat < 2 ^ 4800 := by
  obtain ⟨n, rfl⟩ := Int.eq_ofNat_of_zero_le h0
  obtain ⟨m, rfl⟩ := Int.eq_ofNat_of_zero_le he
  rw [Int.toNat_natCast]
  have hn : n < 2 ^ 120 := by have : (10 : Nat) ^ 36 < 2 ^ 120 := by decide +kernel
                              lia
  have hm : m ≤ 4599 := by lia
  have h2 : (2 : Nat) ^ m ≤ 2 ^ 4599 := Nat.pow_le_pow_right (by decide) hm
  have h3 : n * 2 ^ m ≤ 2 ^ 120 * 2 ^ 4599 := Nat.mul_le_mul (Nat.le_of_lt hn) h2
  have h4 : 2 + 2 ^ 120 * 2 ^ 4599 < 2 ^ 4800 := by decide +kernel
  have h5 : 2 + n * 2 ^ m < 2 ^ 4800 := Nat.lt_of_le_of_lt (Nat.add_le_add_left h3 2) h4
  have e : (n : Int) * 2 ^ m = ((n * 2 ^ m : Nat) : Int) := by rw [Int.natCast_mul, Int.natCast_pow]; rfl
  rw [e]
  exact ⟨Int.le_add_of_nonneg_right (Int.natCast_nonneg _), dC9 h5⟩
theorem st_2 (V : Wd) (st : Stmt) (sc : Scope) (hst : zS9 2 = st) (hsc : zM9 = sc) (rest : List Stmt) (dp un : Nat) (gd : Option (List Code)) (A₁ : Around) (base g : Heap) (L' fa : Addr) (cd : Value) (s : Shared) (Q : Flow → Shared → Prop) 
    (hdp : dp + 40 ≤ recursionLimit) (hu : un + 400 < cLine) (B : Below A₁ base [] g) (X : (getK.heap_1 V.w.params).In g) (T : Top V.p V.loose V.mean V.mg V.mb g)
    (m' : Str → Option Value) (C : Addr) (e : Nat) (c0 c1 c2 c3 c4 c5 : Int) (t0 t1 t2 t3 t4 t5 : Tok) (h0 : 0 ≤ c0) (h0' : c0 < 10 ^ 36) (h1 : 0 ≤ c1) (lg : List (Addr × Obj)) (od : Obj) (hod : od.data = .cell none) (hC1 : @Ne Nat C (L' + 1)) (hlg : AllNe (L' + 1) lg)
    (F : Fr g L' s.heap (fun y => if y = Str.ofString "cells" then some (.ref C) else m' y)) (N : News g L' s.heap ((C, W.listOf [Value.int c0 t0, .int c1 t1, .int c2 t2, .int c3 t3, .int c4 t4, .int c5 t5].toArray e) :: (L' + 1, od) :: lg))
    (k : ∀ (D : Int) t od' h' tk', 2 ≤ D → D < 2 ^ 4800 → od'.data = .cell (some (.int D t)) → Fr g L' h' (fun y => if y = Str.ofString "cells" then some (.ref C) else m' y) → News g L' h' ((C, W.listOf [Value.int c0 t0, .int c1 t1, .int c2 t2, .int c3 t3, .int c4 t4, .int c5 t5].toArray e) :: (L' + 1, od') :: lg) → wpAny (model prg V.w) (lawA sc L' fa cd dp un gd) (execs rest (zQ9 sc L' fa cd)) Q (fun _ _ => False) { s with heap := h', toks := tk' }) :
    wpAny (model prg V.w) (lawA sc L' fa cd dp un gd) (execs (st :: rest) (zQ9 sc L' fa cd)) Q (fun _ _ => False) s := by
  have h2 := @id (zS9 2 = Stmt.Assign _ _ _) rfl
  rw [h2] at hst
  subst hst
  clear h2
  k_extra "w"
  obtain ⟨E1, hE1⟩ : ∃ x, c1.fmod 4600 = x := ⟨_, rfl⟩
  have he0 : 0 ≤ E1 ∧ E1 < 4600 := by rw [← hE1]; exact ux9 _ (by decide)
  obtain ⟨he0, he1⟩ := he0
  obtain ⟨p, hp⟩ : ∃ x, c0 * 2 ^ E1.toNat = x := ⟨_, rfl⟩
  have hsz : (Builtin.Int.intBits c0 : Int) + E1 ≤ 2 ^ 27 := jH9 h0 h0' he0 he1
  have hD := gG9 h0 h0' he0 he1
  rw [hp] at hD
  k_extra "v"
  k_extra "u"
  k_steps
  rename Fr _ _ _ _ => F1
  rename News _ _ _ _ => N1
  exact k _ _ _ _ _ hD.1 hD.2 (by assumption) F1 N1
end
section
theorem gn9 (x : Int) {k : Int} (hk : 0 ≤ k) : x.fdiv k = x / k := Int.fdiv_eq_ediv_of_nonneg _ hk
theorem st_3 (V : Wd) (st : Stmt) (sc : Scope) (hst : zS9 3 = st) (hsc : zM9 = sc) (rest : List Stmt) (dp un : Nat) (gd : Option (List Code)) (A₁ : Around) (base g : Heap) (L' fa : Addr) (cd : Value) (s : Shared) (Q : Flow → Shared → Prop) 
    (hdp : dp + 40 ≤ recursionLimit) (hu : un + 400 < cLine) (B : Below A₁ base [] g) (X : (getK.heap_1 V.w.params).In g) (T : Top V.p V.loose V.mean V.mg V.mb g)
    (m' : Str → Option Value) (C : Addr) (e : Nat) (c0 c1 c2 c3 c4 c5 : Int) (t0 t1 t2 t3 t4 t5 : Tok) (h0 : 0 ≤ c2) (h0' : c2 < 10 ^ 36) (lg : List (Addr × Obj)) (D : Int) (hD2 : 2 ≤ D) (hDb : D < 2 ^ 4800) (tD : Tok) (od ot : Obj) (hod : od.data = .cell (some (.int D tD))) (hot : ot.data = .cell none) (hC2 : @Ne Nat C (L' + 1 + 1)) (hlg : AllNe (L' + 1 + 1) lg)
    (F : Fr g L' s.heap (fun y => if y = Str.ofString "cells" then some (.ref C) else m' y)) (N : News g L' s.heap ((C, W.listOf [Value.int c0 t0, .int c1 t1, .int c2 t2, .int c3 t3, .int c4 t4, .int c5 t5].toArray e) :: (L' + 1, od) :: (L' + 1 + 1, ot) :: lg))
    (k : ∀ (T : Int) t ot' h' tk', 0 ≤ T → T < D → ot'.data = .cell (some (.int T t)) → Fr g L' h' (fun y => if y = Str.ofString "cells" then some (.ref C) else m' y) → News g L' h' ((C, W.listOf [Value.int c0 t0, .int c1 t1, .int c2 t2, .int c3 t3, .int c4 t4, .int c5 t5].toArray e) :: (L' + 1, od) :: (L' + 1 + 1, ot') :: lg) → wpAny (model prg V.w) (lawA sc L' fa cd dp un gd) (execs rest (zQ9 sc L' fa cd)) Q (fun _ _ => False) { s with heap := h', toks := tk' }) :
    wpAny (model prg V.w) (lawA sc L' fa cd dp un gd) (execs (st :: rest) (zQ9 sc L' fa cd)) Q (fun _ _ => False) s := by
  have h2 := @id (zS9 3 = Stmt.Assign _ _ _) rfl
  rw [h2] at hst
  subst hst
  clear h2
  k_extra "w"
  have hD0 : D ≠ 0 := Int.ne_of_gt (pos2 (by assumption))
  obtain ⟨x1, hx1⟩ : ∃ x, D * 618 = x := ⟨_, rfl⟩
  obtain ⟨x2, hx2⟩ : ∃ x, x1.fdiv 1000 = x := ⟨_, rfl⟩
  obtain ⟨x3, hx3⟩ : ∃ x, (c2 + 1) * x2 = x := ⟨_, rfl⟩
  obtain ⟨x4, hx4⟩ : ∃ x, c2.fdiv 1000 = x := ⟨_, rfl⟩
  obtain ⟨T, hT⟩ : ∃ x, (x3 + x4).fmod D = x := ⟨_, rfl⟩
  have b2 : 0 ≤ x2 ∧ x2 < D := by rw [← hx2, ← hx1, gn9 _ (by decide)]; exact dQ9 (pos2 (by assumption)) (by decide) (by decide)
  have bD : Builtin.Int.intBits D ≤ 4800 := zT9 (nn2 (by assumption)) hDb
  have hm1 : IntMulOk D 618 := xq9 bD (j := 4800) (k := 10) (zT9 (by decide) (by decide)) (by decide) (by decide)
  have hm2 : IntMulOk (c2 + 1) x2 := xq9 (j := 130) (k := 4800) (zT9 (Int.le_add_one (by assumption)) (Int.lt_of_le_of_lt (Int.add_one_le_of_lt (by assumption)) (by decide +kernel))) (zT9 b2.1 (Int.lt_trans b2.2 hDb)) (by decide) (by decide)
  have bT : 0 ≤ T ∧ T < D := by rw [← hT, Int.fmod_eq_emod_of_nonneg _ (nn2 (by assumption))]; exact modB _ (pos2 (by assumption))
  k_extra "v"
  k_extra "u"
  k_steps
  rename Fr _ _ _ _ => F1
  rename News _ _ _ _ => N1
  exact k _ _ _ _ _ bT.1 bT.2 (by assumption) F1 N1
end
section
theorem br9 (x : Int) {k : Int} (hk : 0 ≤ k) : x.fdiv k = x / k := Int.fdiv_eq_ediv_of_nonneg _ hk
theorem st_4 (V : Wd) (st : Stmt) (sc : Scope) (hst : zS9 4 = st) (hsc : zM9 = sc) (rest : List Stmt) (dp un : Nat) (gd : Option (List Code)) (A₁ : Around) (base g : Heap) (L' fa : Addr) (cd : Value) (s : Shared) (Q : Flow → Shared → Prop) 
    (hdp : dp + 40 ≤ recursionLimit) (hu : un + 400 < cLine) (B : Below A₁ base [] g) (X : (getK.heap_1 V.w.params).In g) (T : Top V.p V.loose V.mean V.mg V.mb g)
    (m' : Str → Option Value) (C : Addr) (e : Nat) (c0 c1 c2 c3 c4 c5 : Int) (t0 t1 t2 t3 t4 t5 : Tok) (lg : List (Addr × Obj)) (D : Int) (hD2 : 2 ≤ D) (hDb : D < 2 ^ 4800) (tD : Tok) (od : Obj) (hod : od.data = .cell (some (.int D tD)))
    (F : Fr g L' s.heap (fun y => if y = Str.ofString "cells" then some (.ref C) else m' y)) (N : News g L' s.heap ((C, W.listOf [Value.int c0 t0, .int c1 t1, .int c2 t2, .int c3 t3, .int c4 t4, .int c5 t5].toArray e) :: (L' + 1, od) :: lg))
    (k : ∀ (wh : Int) t h' tk', Builtin.Int.intBits wh ≤ Builtin.Int.intBits D + 11 → Fr g L' h' (fun y => if y = Str.ofString "whole" then some (.int wh t) else if y = Str.ofString "cells" then some (.ref C) else m' y) → News g L' h' ((C, W.listOf [Value.int c0 t0, .int c1 t1, .int c2 t2, .int c3 t3, .int c4 t4, .int c5 t5].toArray e) :: (L' + 1, od) :: lg) → wpAny (model prg V.w) (lawA sc L' fa cd dp un gd) (execs rest (zQ9 sc L' fa cd)) Q (fun _ _ => False) { s with heap := h', toks := tk' }) :
    wpAny (model prg V.w) (lawA sc L' fa cd dp un gd) (execs (st :: rest) (zQ9 sc L' fa cd)) Q (fun _ _ => False) s := by
  have h2 := @id (zS9 4 = Stmt.Assign _ _ _) rfl
  rw [h2] at hst
  subst hst
  clear h2
  k_extra "w"
  have hD0 : D ≠ 0 := Int.ne_of_gt (pos2 (by assumption))
  obtain ⟨x1, hx1⟩ : ∃ x, c3.fdiv 2 = x := ⟨_, rfl⟩
  obtain ⟨x2, hx2⟩ : ∃ x, x1.fmod 1000 = x := ⟨_, rfl⟩
  obtain ⟨x3, hx3⟩ : ∃ x, D.fdiv 1000 = x := ⟨_, rfl⟩
  obtain ⟨x4, hx4⟩ : ∃ x, x2 * (x3 + 1) = x := ⟨_, rfl⟩
  obtain ⟨x5, hx5⟩ : ∃ x, c3.fmod 2 = x := ⟨_, rfl⟩
  obtain ⟨x6, hx6⟩ : ∃ x, x5 * 2 = x := ⟨_, rfl⟩
  obtain ⟨x7, hx7⟩ : ∃ x, x4 * (1 - x6) = x := ⟨_, rfl⟩
  have b2 : 0 ≤ x2 ∧ x2 < 1000 := by rw [← hx2]; exact ux9 _ (by decide)
  have b3 : 0 ≤ x3 ∧ x3 + 1 ≤ D := by rw [← hx3, br9 _ (by decide)]; exact divB (by assumption)
  have b5 : 0 ≤ x5 ∧ x5 < 2 := by rw [← hx5]; exact ux9 _ (by decide)
  have b31 : Builtin.Int.intBits (x3 + 1) ≤ 4800 := zT9 (Int.le_add_one b3.1) (Int.lt_of_le_of_lt b3.2 hDb)
  have b32 : Builtin.Int.intBits (x3 + 1) ≤ Builtin.Int.intBits D := xw9 (Int.le_add_one b3.1) b3.2 (Nat.le_refl _)
  have b21 : Builtin.Int.intBits x2 ≤ 10 := zT9 b2.1 (Int.lt_trans b2.2 (by decide))
  have b4 : Builtin.Int.intBits x4 ≤ 4810 := by rw [← hx4]; exact Nat.le_trans (qV9 b21 b31) (by decide)
  have b6 : Builtin.Int.intBits (1 - x6) ≤ 1 := dE9 (by lia) (by lia)
  have hm1 : IntMulOk x2 (x3 + 1) := xq9 b21 b31 (by decide) (by decide)
  have hm2 : IntMulOk x5 2 := xq9 (j := 2) (k := 2) (zT9 b5.1 (Int.lt_trans b5.2 (by decide))) (zT9 (by decide) (by decide)) (by decide) (by decide)
  have hm3 : IntMulOk x4 (1 - x6) := xq9 b4 b6 (by decide) (by decide)
  have b42 : Builtin.Int.intBits x4 ≤ 10 + Builtin.Int.intBits D := by rw [← hx4]; exact qV9 b21 b32
  have b7 : Builtin.Int.intBits x7 ≤ Builtin.Int.intBits D + 11 := by rw [← hx7]; exact Nat.le_trans (qV9 b42 b6) (by lia)
  k_extra "v"
  k_extra "u"
  k_steps
  rename Fr _ _ _ _ => F1
  rename News _ _ _ _ => N1
  exact k _ _ _ _ b7 F1 N1
end
section
theorem nz9 {V : Wd} {f : Value} {args : List Value} {d u : Nat} {obs : List (Addr × Obj)} {pre : Heap → Prop} {post post' : Heap → Value → Heap → Prop} (h : ∀ a v b, post a v b → post' a v b) (S : Spc V f args d u obs pre post) : Spc V f args d u obs pre post' :=
  fun dp un gd cn cs a ccd cl outer A₀ base h₀ L m s Q E B F X T hk hd hu N hp k => S dp un gd cn cs a ccd cl outer A₀ base h₀ L m s Q E B F X T hk hd hu N hp fun v h' tk' h1 h2 po => k v h' tk' h1 h2 (h _ _ _ po)
theorem st_5 (V : Wd) (st : Stmt) (sc : Scope) (hst : zS9 5 = st) (hsc : zM9 = sc) (rest : List Stmt) (dp un : Nat) (gd : Option (List Code)) (A₁ : Around) (base g : Heap) (L' fa : Addr) (cd : Value) (s : Shared) (Q : Flow → Shared → Prop) 
    (hdp : dp + 40 ≤ recursionLimit) (hu : un + 400 < cLine) (B : Below A₁ base [] g) (X : (getK.heap_1 V.w.params).In g) (T : Top V.p V.loose V.mean V.mg V.mb g)
    (m' : Str → Option Value) (lg : List (Addr × Obj)) (D Tn : Int) (tD tT : Tok) (od ot oc : Obj) (hod : od.data = .cell (some (.int D tD))) (hot : ot.data = .cell (some (.int Tn tT))) (hoc : oc.data = .cell none) (hlg : AllNe (L' + 1 + 1 + 1) lg)
    (F : Fr g L' s.heap m') (N : News g L' s.heap ((L' + 1, od) :: (L' + 1 + 1, ot) :: (L' + 1 + 1 + 1, oc) :: lg))
    (k : ∀ (K : Addr) (kvs : List Value) (n : Nat) oc' h' tk', IntsAre kvs (cutL Tn D 5) → oc'.data = .cell (some (.ref K)) → AllNe K ((L' + 1, od) :: (L' + 1 + 1, ot) :: (L' + 1 + 1 + 1, oc) :: lg) → Fr g L' h' m' → News g L' h' ((K, W.listOf kvs.toArray n) :: (L' + 1, od) :: (L' + 1 + 1, ot) :: (L' + 1 + 1 + 1, oc') :: lg) → wpAny (model prg V.w) (lawA sc L' fa cd dp un gd) (execs rest (zQ9 sc L' fa cd)) Q (fun _ _ => False) { s with heap := h', toks := tk' }) :
    wpAny (model prg V.w) (lawA sc L' fa cd dp un gd) (execs (st :: rest) (zQ9 sc L' fa cd)) Q (fun _ _ => False) s := by
  have h2 := @id (zS9 5 = Stmt.Assign _ _ _) rfl
  rw [h2] at hst
  subst hst
  clear h2
  k_extra "w"
  k_extra "v"
  k_extra "u"
  k_steps
  unfold zC9
  rename Fr _ _ _ _ => F1
  rename News _ _ _ _ => N1
  refine use1 (nz9 (post' := New1 fun o => ∃ vs n, o = W.listOf (List.toArray vs) n ∧ IntsAre vs (cutL Tn D 5)) (fun a v b q => q.elim fun l q => q.elim fun vs q => q.elim fun n q => ⟨l, _, q.1, q.2.1, q.2.2.1, vs, n, rfl, q.2.2.2⟩) (tx9 V Tn D tT tD)) B F1 N1 X T rfl (by first | exact limD (by assumption) (by decide) | lia) (by first | exact limU (by assumption) (by decide) | exact limV (by assumption) (by decide) | lia) trivial ?_
  rintro K _ h2 tk2 F2 N2 hne hJ9
  k_extra "y"
  refine ex2 hJ9 fun kvs n hJ9 => ?_
  refine an1 hJ9 fun e9_0 hI => ?_
  iterate 2 clear hJ9
  subst e9_0
  k_extra "z"
  have hK3 := hne.2.2.1
  clear F1 N1
  k_extra "u"
  k_steps
  rename Fr _ _ _ _ => F3
  rename News _ _ _ _ => N3
  exact k _ _ _ _ _ _ hI (by assumption) hne F3 N3
end
section
theorem bq9 (x : Int) {k : Int} (hk : 0 ≤ k) : x.fdiv k = x / k := Int.fdiv_eq_ediv_of_nonneg _ hk
theorem st_6 (V : Wd) (st : Stmt) (sc : Scope) (hst : zS9 6 = st) (hsc : zM9 = sc) (rest : List Stmt) (dp un : Nat) (gd : Option (List Code)) (A₁ : Around) (base g : Heap) (L' fa : Addr) (cd : Value) (s : Shared) (Q : Flow → Shared → Prop) 
    (hdp : dp + 40 ≤ recursionLimit) (hu : un + 400 < cLine) (B : Below A₁ base [] g) (X : (getK.heap_1 V.w.params).In g) (T : Top V.p V.loose V.mean V.mg V.mb g)
    (m' : Str → Option Value) (C : Addr) (e : Nat) (c0 c1 c2 c3 c4 c5 : Int) (t0 t1 t2 t3 t4 t5 : Tok) (h0 : 0 ≤ c4) (h0' : c4 < 10 ^ 36) (lg : List (Addr × Obj)) (on : Obj) (hon : on.data = .cell none) (hC2 : @Ne Nat C (L' + 1 + 1 + 1 + 1)) (hlg : AllNe (L' + 1 + 1 + 1 + 1) lg)
    (F : Fr g L' s.heap (fun y => if y = Str.ofString "cells" then some (.ref C) else m' y)) (N : News g L' s.heap ((C, W.listOf [Value.int c0 t0, .int c1 t1, .int c2 t2, .int c3 t3, .int c4 t4, .int c5 t5].toArray e) :: (L' + 1 + 1 + 1 + 1, on) :: lg))
    (k : ∀ (n : Int) t on' h' tk', 0 ≤ n → n < 10 ^ 36 → on'.data = .cell (some (.int n t)) → Fr g L' h' (fun y => if y = Str.ofString "cells" then some (.ref C) else m' y) → News g L' h' ((C, W.listOf [Value.int c0 t0, .int c1 t1, .int c2 t2, .int c3 t3, .int c4 t4, .int c5 t5].toArray e) :: (L' + 1 + 1 + 1 + 1, on') :: lg) → wpAny (model prg V.w) (lawA sc L' fa cd dp un gd) (execs rest (zQ9 sc L' fa cd)) Q (fun _ _ => False) { s with heap := h', toks := tk' }) :
    wpAny (model prg V.w) (lawA sc L' fa cd dp un gd) (execs (st :: rest) (zQ9 sc L' fa cd)) Q (fun _ _ => False) s := by
  have h2 := @id (zS9 6 = Stmt.Assign _ _ _) rfl
  rw [h2] at hst
  subst hst
  clear h2
  k_extra "w"
  obtain ⟨n, hn⟩ : ∃ x, c4.fdiv 3 = x := ⟨_, rfl⟩
  have bn : 0 ≤ n ∧ n < 10 ^ 36 := by rw [← hn, bq9 _ (by decide)]; exact divS (by decide) (by assumption) (by assumption)
  k_extra "v"
  k_extra "u"
  k_steps
  rename Fr _ _ _ _ => F1
  rename News _ _ _ _ => N1
  exact k _ _ _ _ _ bn.1 bn.2 (by assumption) F1 N1
end
section
theorem bp9 (x : Int) {k : Int} (hk : 0 ≤ k) : x.fdiv k = x / k := Int.fdiv_eq_ediv_of_nonneg _ hk
theorem st_7 (V : Wd) (st : Stmt) (sc : Scope) (hst : zS9 7 = st) (hsc : zM9 = sc) (rest : List Stmt) (dp un : Nat) (gd : Option (List Code)) (A₁ : Around) (base g : Heap) (L' fa : Addr) (cd : Value) (s : Shared) (Q : Flow → Shared → Prop) 
    (hdp : dp + 40 ≤ recursionLimit) (hu : un + 400 < cLine) (B : Below A₁ base [] g) (X : (getK.heap_1 V.w.params).In g) (T : Top V.p V.loose V.mean V.mg V.mb g)
    (m' : Str → Option Value) (lg : List (Addr × Obj)) (D : Int) (hD2 : 2 ≤ D) (hDb : D < 2 ^ 4800) (tD : Tok) (od : Obj) (hod : od.data = .cell (some (.int D tD))) (n : Int) (tn : Tok) (hn0 : 0 ≤ n) (hn1 : n < 10 ^ 36) (on : Obj) (hon : on.data = .cell (some (.int n tn)))
    (F : Fr g L' s.heap m') (N : News g L' s.heap ((L' + 1, od) :: (L' + 1 + 1 + 1 + 1, on) :: lg))
    (k : ∀ (r : Int) t h' tk', 0 ≤ r → r < D → Fr g L' h' (fun y => if y = Str.ofString "rest" then some (.int r t) else m' y) → News g L' h' ((L' + 1, od) :: (L' + 1 + 1 + 1 + 1, on) :: lg) → wpAny (model prg V.w) (lawA sc L' fa cd dp un gd) (execs rest (zQ9 sc L' fa cd)) Q (fun _ _ => False) { s with heap := h', toks := tk' }) :
    wpAny (model prg V.w) (lawA sc L' fa cd dp un gd) (execs (st :: rest) (zQ9 sc L' fa cd)) Q (fun _ _ => False) s := by
  have h2 := @id (zS9 7 = Stmt.Assign _ _ _) rfl
  rw [h2] at hst
  subst hst
  clear h2
  k_extra "w"
  have hD0 : D ≠ 0 := Int.ne_of_gt (pos2 (by assumption))
  obtain ⟨x1, hx1⟩ : ∃ x, D * 382 = x := ⟨_, rfl⟩
  obtain ⟨x2, hx2⟩ : ∃ x, x1.fdiv 1000 = x := ⟨_, rfl⟩
  obtain ⟨x3, hx3⟩ : ∃ x, n * x2 = x := ⟨_, rfl⟩
  obtain ⟨x4, hx4⟩ : ∃ x, n.fdiv 1000 = x := ⟨_, rfl⟩
  obtain ⟨r, hr⟩ : ∃ x, (x3 + x4).fmod D = x := ⟨_, rfl⟩
  have b2 : 0 ≤ x2 ∧ x2 < D := by rw [← hx2, ← hx1, bp9 _ (by decide)]; exact dQ9 (pos2 (by assumption)) (by decide) (by decide)
  have bD : Builtin.Int.intBits D ≤ 4800 := zT9 (nn2 (by assumption)) hDb
  have hm1 : IntMulOk D 382 := xq9 bD (j := 4800) (k := 10) (zT9 (by decide) (by decide)) (by decide) (by decide)
  have hm2 : IntMulOk n x2 := xq9 (j := 130) (k := 4800) (zT9 (by lia) (Int.lt_of_lt_of_le hn1 (by decide +kernel))) (zT9 b2.1 (Int.lt_trans b2.2 hDb)) (by decide) (by decide)
  have bT : 0 ≤ r ∧ r < D := by rw [← hr, Int.fmod_eq_emod_of_nonneg _ (nn2 (by assumption))]; exact modB _ (pos2 (by assumption))
  k_extra "v"
  k_extra "u"
  k_steps
  rename Fr _ _ _ _ => F1
  rename News _ _ _ _ => N1
  exact k _ _ _ _ bT.1 bT.2 F1 N1
end
section
theorem bl9 {g h : Heap} {L : Addr} {m : Str → Option Value} {x : Str} {v v2 : Value} (F : Fr g L h (fun y => if y = x then some v else if y = x then some v2 else m y)) : Fr g L h (fun y => if y = x then some v else m y) := by
  have e : (fun y => if y = x then some v else if y = x then some v2 else m y) = (fun y => if y = x then some v else m y) := by
    funext y; split <;> rfl
  rw [← e]; exact F
theorem ln34 : True := by
  (k_with "subscriptTail Name BinOp ref int" => (k_here; (with_reducible show wpAny _ _ (subscriptTail _ _ (Value.ref _) (Value.int _ _)) _ _ _); (k_dflt (refine qO9 (by k_asm) (by k_mem) _ rfl (by with_reducible assumption) (by with_reducible assumption) ?_))))
  trivial
theorem st_8 (V : Wd) (st : Stmt) (sc : Scope) (hst : zS9 8 = st) (hsc : zM9 = sc) (rest : List Stmt) (dp un : Nat) (gd : Option (List Code)) (A₁ : Around) (base g : Heap) (L' fa : Addr) (cd : Value) (s : Shared) (Q : Flow → Shared → Prop) 
    (hdp : dp + 40 ≤ recursionLimit) (hu : un + 400 < cLine) (B : Below A₁ base [] g) (X : (getK.heap_1 V.w.params).In g) (T : Top V.p V.loose V.mean V.mg V.mb g)
    (m' : Str → Option Value) (C K : Addr) (e n6 : Nat) (c0 c1 c2 c3 c4 c5 : Int) (t0 t1 t2 t3 t4 t5 : Tok) (h0 : 0 ≤ c4) (lg : List (Addr × Obj)) (D : Int) (hD2 : 2 ≤ D) (hDb : D < 2 ^ 4800) (tD : Tok) (od : Obj) (hod : od.data = .cell (some (.int D tD))) (n r : Int) (tn tr : Tok) (hn0 : 0 ≤ n) (on oc : Obj) (hon : on.data = .cell (some (.int n tn))) (hoc : oc.data = .cell (some (.ref K))) (kvs : List Value) (ks : List Int) (hks : IntsAre kvs ks) (hk6 : ks.length = 6) (hr0 : 0 ≤ r) (hr1 : r < D)
    (F : Fr g L' s.heap (fun y => if y = Str.ofString "rest" then some (.int r tr) else if y = Str.ofString "cells" then some (.ref C) else m' y)) (N : News g L' s.heap ((C, W.listOf [Value.int c0 t0, .int c1 t1, .int c2 t2, .int c3 t3, .int c4 t4, .int c5 t5].toArray e) :: (K, W.listOf kvs.toArray n6) :: (L' + 1, od) :: (L' + 1 + 1 + 1, oc) :: (L' + 1 + 1 + 1 + 1, on) :: lg))
    (k : ∀ (r : Int) t h' tk', 0 ≤ r → r < D → Fr g L' h' (fun y => if y = Str.ofString "rest" then some (.int r t) else if y = Str.ofString "cells" then some (.ref C) else m' y) → News g L' h' ((C, W.listOf [Value.int c0 t0, .int c1 t1, .int c2 t2, .int c3 t3, .int c4 t4, .int c5 t5].toArray e) :: (K, W.listOf kvs.toArray n6) :: (L' + 1, od) :: (L' + 1 + 1 + 1, oc) :: (L' + 1 + 1 + 1 + 1, on) :: lg) → wpAny (model prg V.w) (lawA sc L' fa cd dp un gd) (execs rest (zQ9 sc L' fa cd)) Q (fun _ _ => False) { s with heap := h', toks := tk' }) :
    wpAny (model prg V.w) (lawA sc L' fa cd dp un gd) (execs (st :: rest) (zQ9 sc L' fa cd)) Q (fun _ _ => False) s := by
  have h2 := @id (zS9 8 = Stmt.If _ _ _ _) rfl
  rw [h2] at hst
  subst hst
  clear h2
  k_extra "w"
  have hD0 : D ≠ 0 := Int.ne_of_gt (pos2 (by assumption))
  obtain ⟨x1, hx1⟩ : ∃ x, c4.fmod 3 = x := ⟨_, rfl⟩
  have b1 : 0 ≤ n.fmod 6 ∧ n.fmod 6 < 6 := ux9 _ (by decide)
  obtain ⟨i, hi⟩ : ∃ i : Nat, n.fmod 6 = (i : Int) := Int.eq_ofNat_of_zero_le b1.1
  have hil : i < kvs.length := by rw [zN9 hks, (by assumption : ks.length = 6)]; exact jl9 hi b1.2
  k_extra "y"
  refine ex2 (zt9 hks (List.getElem?_eq_getElem hil)) fun z tz hJ9 => ?_
  refine an1 hJ9 fun hz hz2 => ?_
  clear hJ9
  k_extra "z"
  have hz3 : kvs[i]? = some (.int z tz) := by rw [List.getElem?_eq_getElem hil, hz]
  have hkl : kvs.length ≤ 1000000 := by rw [zN9 hks, (by assumption : ks.length = 6)]; decide
  obtain ⟨r2, hr2⟩ : ∃ x, (z + 1 - x1).fmod D = x := ⟨_, rfl⟩
  have bT : 0 ≤ r2 ∧ r2 < D := by rw [← hr2, Int.fmod_eq_emod_of_nonneg _ (nn2 (by assumption))]; exact modB _ (pos2 (by assumption))
  clear hz hz2 hks hil b1 hDb
  k_extra "v"
  k_extra "u"
  k_steps
  · rename Fr _ _ _ _ => F1
    rename News _ _ _ _ => N1
    exact k _ _ _ _ bT.1 bT.2 (bl9 F1) N1
  · rename Fr _ _ _ _ => F1
    rename News _ _ _ _ => N1
    exact k _ _ _ _ hr0 hr1 F1 N1
end
section
theorem st_9 (V : Wd) (st : Stmt) (sc : Scope) (hst : zS9 9 = st) (hsc : zM9 = sc) (rest : List Stmt) (dp un : Nat) (gd : Option (List Code)) (A₁ : Around) (base g : Heap) (L' fa : Addr) (cd : Value) (s : Shared) (Q : Flow → Shared → Prop) 
    (hdp : dp + 40 ≤ recursionLimit) (hu : un + 400 < cLine) (B : Below A₁ base [] g) (X : (getK.heap_1 V.w.params).In g) (T : Top V.p V.loose V.mean V.mg V.mb g)
    (m' : Str → Option Value) (lg : List (Addr × Obj)) (r : Int) (tr : Tok) (ors ole : Obj) (hors : ors.data = .cell none) (hole : ole.data = .cell none) (hl5 : AllNe (L' + 1 + 1 + 1 + 1 + 1) lg) (hl6 : AllNe (L' + 1 + 1 + 1 + 1 + 1 + 1) lg)
    (F : Fr g L' s.heap (fun y => if y = Str.ofString "rest" then some (.int r tr) else m' y)) (N : News g L' s.heap ((L' + 1 + 1 + 1 + 1 + 1, ors) :: (L' + 1 + 1 + 1 + 1 + 1 + 1, ole) :: lg))
    (k : ∀ (RL : Addr) (n : Nat) t ors' ole' h' tk', ors'.data = .cell (some (.ref RL)) → ole'.data = .cell (some (.str (Str.ofString "") t)) → (∀ p ∈ ((L' + 1 + 1 + 1 + 1 + 1, ors) :: (L' + 1 + 1 + 1 + 1 + 1 + 1, ole) :: lg), p.1 < RL) → Fr g L' h' (fun y => if y = Str.ofString "rest" then some (.int r tr) else m' y) → News g L' h' ((RL, W.listOf [Value.int r tr].toArray n) :: (L' + 1 + 1 + 1 + 1 + 1, ors') :: (L' + 1 + 1 + 1 + 1 + 1 + 1, ole') :: lg) → wpAny (model prg V.w) (lawA sc L' fa cd dp un gd) (execs rest (zQ9 sc L' fa cd)) Q (fun _ _ => False) { s with heap := h', toks := tk' }) :
    wpAny (model prg V.w) (lawA sc L' fa cd dp un gd) (execs (st :: rest) (zQ9 sc L' fa cd)) Q (fun _ _ => False) s := by
  have h2 := @id (zS9 9 = Stmt.Assign _ _ _) rfl
  rw [h2] at hst
  subst hst
  clear h2
  k_extra "w"
  k_extra "v"
  k_extra "u"
  k_steps
  rename Fr _ _ _ _ => F1
  rename News _ _ _ _ => N1
  rename_i RL _ lR _ _ _ _ _ _ d1 _ _ d2
  exact k _ _ _ _ _ _ _ d1 d2 (qW9 lR) F1 (zx9 N1)
end
section
theorem ln35 : True := by
  (k_with "exec For Name Call cons nil" => (k_here; (rename Fr _ _ _ _ => lF'); (with_unfolding_all refine' For_invVF lF' ?_ ?_ ?_; rotate_right 3; (· (exact rfl)); (· (exact rfl)))))
  trivial
theorem gY9 {M : Model} {A : Around} {E : Value → Shared → Prop} {s : Shared} {h₀ : Heap} {L L2 : Addr} {news : List (Addr × Obj)} {qual : Str} {sc : Scope} {f : Addr} {cdv : Value} {cl : List (Str × Addr)} {x : Str} {c : Addr} {o : Obj} {v : Value} {Q : Value → Shared → Prop}
    (N : News h₀ L s.heap news) (hc : cl.lookup x = some c) (hm : (c, o) ∈ news) (hd : o.data = .cell (some v)) (h : Q v s) (hk : sc.kind = .function) (hx : (envX qual sc L2 f cdv cl).kindOf x = some .cell) :
    wpAny M A (loadName (envX qual sc L2 f cdv cl) x) Q E s := wpAny_loadName_cell hk hx hc ⟨o, N.get hm, hd⟩ h
theorem ln36 : True := by
  (k_with "loadName" => (k_here; k_dflt (refine gY9 (by k_asm) (by rfl) (by k_mem) (by with_reducible assumption) ?_ (by rfl) (by rfl))))
  (k_with "subscriptTail Constant str Name str bool" => (k_here; (with_reducible show wpAny _ _ (subscriptTail _ _ (Value.str (PySem.Str.ofString "ab") _) (Value.bool _)) _ _ _); (with_unfolding_all refine' vV9 ?_ ?_; rotate_right 2; rotate_left; (· (with_unfolding_all rfl)))))
  trivial
theorem hv9 {prog : Program} {w : World} {A : Around} {E : Value → Shared → Prop} {s : Shared} {x : Str} {t u : Tok} {c : Nat} {Q : Value → Shared → Prop} (hz : x.length ≤ 10000) (h : ∀ t' tk', Q (.str ⟨(x.cps.toList ++ [c]).toArray⟩ t') { s with toks := tk' }) : wpAny (model prog w) A (inplaceOp .Add (.str x t) (.str ⟨#[c]⟩ u)) Q E s := by
  refine iadd_str (fun t' tk' => ?_) (by rw [sizeLine_eq]; have : Str.length ⟨#[c]⟩ = 1 := rfl; lia)
  have e : (x ++ ⟨#[c]⟩ : Str) = ⟨(x.cps.toList ++ [c]).toArray⟩ := by
    apply Str.ext'
    rw [Str.cps_append]
    apply Array.ext'
    simp
  rw [e]; exact h t' tk'
theorem ln37 : True := by
  (k_with "inplaceOp Add str str" => (k_here; (with_reducible refine hv9 (by assumption) ?_); (intro _ _); (try dsimp only)))
  trivial
theorem dD9 {x : Int} (h : 2 ≤ x) : 2 ≤ Builtin.Int.intBits x := by
  obtain ⟨n, rfl⟩ := Int.eq_ofNat_of_zero_le (show 0 ≤ x by lia)
  unfold Builtin.Int.intBits
  rw [if_neg (by simp; lia)]
  have : 1 ≤ (n : Int).natAbs.log2 := (Nat.le_log2 (by simp; lia)).mpr (by simp; lia)
  lia
theorem cp9 {g h : Heap} {L : Addr} {x a b c d e I : Addr × Obj} {tb lg : List (Addr × Obj)} (N : News g L h (x :: ((a :: b :: c :: d :: e :: (tb ++ lg)) ++ [I]))) : News g L h tb ∧ News g L h (x :: a :: b :: c :: d :: e :: I :: lg) := by
  refine ⟨fun p hp => N p (by simp [hp]), fun p hp => N p ?_⟩
  simp only [List.mem_cons, List.mem_append, List.not_mem_nil, or_false, List.cons_append] at hp ⊢
  rcases hp with h | h | h | h | h | h | h | h <;> simp [h]
theorem cq9 {g h : Heap} {L : Addr} {x y a b c d e I : Addr × Obj} {tb lg : List (Addr × Obj)} (N : News g L h (y :: tb)) (N2 : News g L h (x :: a :: b :: c :: d :: e :: I :: lg)) : News g L h (y :: x :: a :: b :: c :: d :: e :: I :: (tb ++ lg)) := fun p hp => by
  simp only [List.mem_cons, List.mem_append] at hp
  rcases hp with h | h | h | h | h | h | h | h | h | h
  · exact N p (by simp [h])
  · exact N2 p (by simp [h])
  · exact N2 p (by simp [h])
  · exact N2 p (by simp [h])
  · exact N2 p (by simp [h])
  · exact N2 p (by simp [h])
  · exact N2 p (by simp [h])
  · exact N2 p (by simp [h])
  · exact N p (by simp [h])
  · exact N2 p (by simp [h])
theorem nw9 {g h : Heap} {L : Addr} {x y a b c d e I : Addr × Obj} {tb lg : List (Addr × Obj)} (N : News g L h (y :: x :: a :: b :: c :: d :: e :: I :: (tb ++ lg))) : News g L h ((a :: b :: c :: d :: e :: (tb ++ lg)) ++ [I]) := fun p hp => N p (by
  simp only [List.mem_cons, List.mem_append, List.not_mem_nil, or_false, List.cons_append] at hp ⊢
  rcases hp with h | h | h | h | h | (h | h) | h <;> simp [h])
theorem bD9 (r T D : Int) (j : Nat) : rotN r T D (j + 1) = rotN r T D j + T - D * if decide (D ≤ rotN r T D j + T) = true then 1 else 0 := by
  show (if D ≤ rotN r T D j + T then rotN r T D j + T - D else rotN r T D j + T) = _
  simp only [decide_eq_true_eq]
  split <;> lia
theorem bP9 (r T D : Int) (i : Nat) : (⟨((ltW r T D i).cps.toList ++ [if decide (D ≤ rotN r T D i + T) = true then 98 else 97]).toArray⟩ : Str) = ltW r T D (i + 1) := by
  simp only [ltW, ltN, decide_eq_true_eq, List.range_succ, List.map_append, List.map_cons, List.map_nil]
theorem gL9 {D x T w : Int} (hD : 0 < D) (hx0 : 0 ≤ x) (hx1 : x < D) (hT0 : 0 ≤ T) (hT1 : T < D) :
    (x + w * D + T).fdiv D = (w + if decide (D ≤ x + T) = true then 1 else 0) ∧ (x + w * D + T).fmod D = (x + T - D * if decide (D ≤ x + T) = true then 1 else 0) := by
  simp only [decide_eq_true_eq]
  rw [Int.fdiv_eq_ediv_of_nonneg _ (Int.le_of_lt hD), Int.fmod_eq_emod_of_nonneg _ (Int.le_of_lt hD)]
  by_cases h : D ≤ x + T
  · rw [if_pos h]
    have e : x + w * D + T = (x + T - D * 1) + (w + 1) * D := by rw [Int.add_mul]; lia
    rw [e, Int.add_mul_ediv_right _ _ (Int.ne_of_gt hD), Int.add_mul_emod_self_right, Int.ediv_eq_zero_of_lt (by lia) (by lia), Int.emod_eq_of_lt (by lia) (by lia)]
    exact ⟨by lia, rfl⟩
  · rw [if_neg h]
    have e : x + w * D + T = (x + T - D * 0) + (w + 0) * D := by rw [Int.add_mul]; lia
    rw [e, Int.add_mul_ediv_right _ _ (Int.ne_of_gt hD), Int.add_mul_emod_self_right, Int.ediv_eq_zero_of_lt (by lia) (by lia), Int.emod_eq_of_lt (by lia) (by lia)]
    exact ⟨by lia, rfl⟩
theorem nv9 {x a b c d e I : Addr × Obj} {o1 o2 o3 o4 o5 : Obj} {tb lg : List (Addr × Obj)} (hx : ∀ p ∈ tb, @LT.lt Nat _ p.1 x.1) (hI : ∀ p ∈ tb, p.1 ≠ I.1) (hs : ∀ p ∈ tb, AllNe p.1 ((a.1, o1) :: (b.1, o2) :: (c.1, o3) :: (d.1, o4) :: (e.1, o5) :: lg)) : ∀ p ∈ x :: a :: b :: c :: d :: e :: I :: lg, ∀ q ∈ tb, p.1 ≠ q.1 := fun p hp q hq => by
  have h := hs q hq
  rcases List.mem_cons.mp hp with rfl | hp
  · exact Nat.ne_of_gt (hx q hq)
  rcases List.mem_cons.mp hp with rfl | hp
  · exact h.1
  rcases List.mem_cons.mp hp with rfl | hp
  · exact h.2.1
  rcases List.mem_cons.mp hp with rfl | hp
  · exact h.2.2.1
  rcases List.mem_cons.mp hp with rfl | hp
  · exact h.2.2.2.1
  rcases List.mem_cons.mp hp with rfl | hp
  · exact h.2.2.2.2.1
  rcases List.mem_cons.mp hp with rfl | hp
  · exact Ne.symm (hI q hq)
  · exact AllNe.at _ h.2.2.2.2.2 p hp
noncomputable def J10 (C : Addr) (r Tn D wh : Int) (tw : Tok) (L' RL : Addr) (ors od ot : Obj) (lg : List (Addr × Obj)) (i : Nat) (m : Str → Option Value) (nx : List (Addr × Obj)) : Prop :=
  ∃ (rvs : List Value) (n : Nat) (tl : Tok) (ole : Obj) (tb : List (Addr × Obj)) (m' : Str → Option Value), m = (fun y => if y = Str.ofString "whole" then some (.int wh tw) else if y = Str.ofString "cells" then some (.ref C) else m' y) ∧ nx = (RL, W.listOf (List.toArray rvs) n) :: (L' + 1 + 1 + 1 + 1 + 1 + 1, ole) :: (L' + 1 + 1 + 1 + 1 + 1, ors) :: (L' + 1, od) :: (L' + 1 + 1, ot) :: (tb ++ lg) ∧ IntsAre rvs ((List.range (i + 1)).map (rotN r Tn D)) ∧ ole.data = .cell (some (.str (ltW r Tn D i) tl)) ∧ Tab0 tb ∧
    (∀ p ∈ tb, AllNe p.1 ((RL, ors) :: (L' + 1 + 1 + 1 + 1 + 1 + 1, ors) :: (L' + 1 + 1 + 1 + 1 + 1, ors) :: (L' + 1, od) :: (L' + 1 + 1, ot) :: lg))
noncomputable def nc9 (V : Wd) (rest : List Stmt) (dp un : Nat) (gd : Option (List Code)) (A₁ : Around) (base g : Heap) (L' fa : Addr) (cd : Value) (s : Shared) (Q : Flow → Shared → Prop) (C : Addr) (lg : List (Addr × Obj)) (RL : Addr) (wh : Int) (tr tT tw tD : Tok) (od ors ot : Obj) : Prop := ∀ (st : Stmt) (sc : Scope) (hst : zS9 10 = st) (hsc : zM9 = sc) (hdp : dp + 40 ≤ recursionLimit) (hu : un + 400 < cLine) (B : Below A₁ base [] g) (X : (getK.heap_1 V.w.params).In g) (T : Top V.p V.loose V.mean V.mg V.mb g) (m' : Str → Option Value) (tb : List (Addr × Obj)) (htb : Tab0 tb) (n : Nat) (r Tn : Int) (tl : Tok) (D : Int) (hD2 : 2 ≤ D) (hDb : D < 2 ^ 4800) (hod : od.data = .cell (some (.int D tD))) (ole : Obj) (hors : ors.data = .cell (some (.ref RL))) (hole : ole.data = .cell (some (.str (Str.ofString "") tl))) (hot : ot.data = .cell (some (.int Tn tT))) (hr0 : 0 ≤ r) (hr1 : r < D) (hT0 : 0 ≤ Tn) (hT1 : Tn < D) (hwb : Builtin.Int.intBits wh ≤ Builtin.Int.intBits D + 11) (hsep : ∀ p ∈ tb, AllNe p.1 ((RL, ors) :: (L' + 1 + 1 + 1 + 1 + 1 + 1, ors) :: (L' + 1 + 1 + 1 + 1 + 1, ors) :: (L' + 1, od) :: (L' + 1 + 1, ot) :: lg)) (hl6 : AllNe (L' + 1 + 1 + 1 + 1 + 1 + 1) lg) (hlR : AllNe RL lg) (hRc : @LT.lt Nat _ (L' + 1 + 1 + 1 + 1 + 1 + 1) RL) (F : Fr g L' s.heap (fun y => if y = Str.ofString "whole" then some (.int wh tw) else if y = Str.ofString "cells" then some (.ref C) else m' y)) (N : News g L' s.heap ((RL, W.listOf [Value.int r tr].toArray n) :: (L' + 1 + 1 + 1 + 1 + 1 + 1, ole) :: (L' + 1 + 1 + 1 + 1 + 1, ors) :: (L' + 1, od) :: (L' + 1 + 1, ot) :: (tb ++ lg))) (k : ∀ (rvs : List Value) (n : Nat) tl ole' tb h' tk' (m' : Str → Option Value), IntsAre rvs ((List.range 13).map (rotN r Tn D)) → ole'.data = .cell (some (.str (ltW r Tn D 12) tl)) → Tab0 tb → Fr g L' h' (fun y => if y = Str.ofString "cells" then some (.ref C) else m' y) → News g L' h' ((RL, W.listOf rvs.toArray n) :: (L' + 1 + 1 + 1 + 1 + 1 + 1, ole') :: (L' + 1 + 1 + 1 + 1 + 1, ors) :: (L' + 1, od) :: (L' + 1 + 1, ot) :: (tb ++ lg)) → wpAny (model prg V.w) (lawA sc L' fa cd dp un gd) (execs rest (zQ9 sc L' fa cd)) Q (fun _ _ => False) { s with heap := h', toks := tk' }), wpAny (model prg V.w) (lawA sc L' fa cd dp un gd) (execs (st :: rest) (zQ9 sc L' fa cd)) Q (fun _ _ => False) s
@[irreducible] noncomputable def zR9 := W24 nc9
theorem gD9 : A24 nc9 zR9 := by
  intro st sc hst hsc hdp hu B X T m' tb htb n r Tn tl D hD2 hDb hod ole hors hole hot hr0 hr1 hT0 hT1 hwb hsep hl6 hlR hRc F N k
  have h2 := @id (zS9 10 = Stmt.For _ _ _ _ _) rfl
  rw [h2] at hst
  subst hst
  clear h2
  k_extra "w"
  refine' let M9 : Model := _; (?_ : wpAny M9 _ _ _ _ _)
  (try (with_reducible refine' (?_ : wpAny M9 _ _ _ _ _)))
  k_steps
  unfold zC9
  rename Fr _ _ _ _ => F0
  rename News _ _ _ _ => N0
  have R0 := (N0 _ (.head _)).1
  replace N0 := zx9 N0
  refine xP9 (n := 12) (J10 zR9.2.2.2.2.2.2.2.2.2.2.2.2.2.1 r Tn D zR9.2.2.2.2.2.2.2.2.2.2.2.2.2.2.2.2.1 zR9.2.2.2.2.2.2.2.2.2.2.2.2.2.2.2.2.2.2.2.1 zR9.2.2.2.2.2.2.2.2.1 zR9.2.2.2.2.2.2.2.2.2.2.2.2.2.2.2.1 zR9.2.2.2.2.2.2.2.2.2.2.2.2.2.2.2.2.2.2.2.2.2.2.1 zR9.2.2.2.2.2.2.2.2.2.2.2.2.2.2.2.2.2.2.2.2.2.1 zR9.2.2.2.2.2.2.2.2.2.2.2.2.2.2.2.2.2.2.2.2.2.2.2 zR9.2.2.2.2.2.2.2.2.2.2.2.2.2.2.1) rfl R0 rfl rfl F0 N0 ⟨_, n, _, _, tb, _, wG9 rfl rfl, rfl, .cons _ _ .nil, hole, htb, hsep⟩ ?_ ?_
  · rintro i t m₁ nx I oI h tk hi hne hJ9 F7 N7
    k_extra "y"
    refine ex6 hJ9 fun rvs n tl ole tb m' hJ9 => ?_
    refine an5 hJ9 fun e9_0 e9_1 hrv hole htb hsep => ?_
    iterate 2 clear hJ9
    subst e9_0
    subst e9_1
    k_extra "z"
    rw [Int.zero_add] at F7
    obtain ⟨rho, hrho⟩ : ∃ x, rotN r Tn D i = x := ⟨_, rfl⟩
    have hrk := gM9 hr0 hr1 hT0 hT1 i
    rw [hrho] at hrk
    obtain ⟨hrk0, hrk1⟩ := hrk
    have hil : i < rvs.length := by rw [zN9 hrv]; simp
    k_extra "y"
    refine ex2 (zt9 hrv (List.getElem?_eq_getElem hil)) fun z tz hJ9 => ?_
    refine an1 hJ9 fun hz hz2 => ?_
    clear hJ9
    k_extra "z"
    have hz3 : rvs[i]? = some (.int rho tz) := by
      rw [List.getElem?_eq_getElem hil, hz]
      rw [List.getElem?_map, List.getElem?_range (by lia)] at hz2
      rw [← hrho, ← Option.some.inj hz2]
    have hkl : rvs.length ≤ 1000000 := by rw [zN9 hrv]; simp; lia
    have hkz : rvs.toArray.size ≤ sizeLine := by rw [List.size_toArray, sizeLine_eq]; lia
    have bD : Builtin.Int.intBits D ≤ 4800 := zT9 (by lia) hDb
    have hm1 : IntMulOk zR9.2.2.2.2.2.2.2.2.2.2.2.2.2.2.2.2.1 D := xq9 (j := 4811) (Nat.le_trans hwb (by lia)) bD (by decide) (by decide)
    clear hz hz2
    have hb2 : 2 ≤ Builtin.Int.intBits D := dD9 hD2
    have hk16 : Builtin.Int.intBits (rho + zR9.2.2.2.2.2.2.2.2.2.2.2.2.2.2.2.2.1 * D + Tn) ≤ 14 * Builtin.Int.intBits D := by
      have b1 : Builtin.Int.intBits (zR9.2.2.2.2.2.2.2.2.2.2.2.2.2.2.2.2.1 * D) ≤ 2 * Builtin.Int.intBits D + 11 := Nat.le_trans (qV9 hwb (Nat.le_refl _)) (by lia)
      have b2 : Builtin.Int.intBits rho ≤ 2 * Builtin.Int.intBits D + 11 := Nat.le_trans (xw9 hrk0 (Int.le_of_lt hrk1) (Nat.le_refl _)) (by lia)
      have b3 : Builtin.Int.intBits Tn ≤ 2 * Builtin.Int.intBits D + 12 := Nat.le_trans (xw9 hT0 (Int.le_of_lt hT1) (Nat.le_refl _)) (by lia)
      exact Nat.le_trans (yc9 (yc9 b2 b1) b3) (by lia)
    (try (with_reducible refine' (?_ : wpAny M9 _ _ _ _ _)))
    k_steps
    unfold zC9
    rename Fr _ _ _ _ => F1
    rename News _ _ _ _ => N1
    rename_i D1 _ lD _ _ _ _ _ _ _ _
    obtain ⟨Nt, Nr⟩ := cp9 N1
    refine xn9 (idm zR9.1 (rho + zR9.2.2.2.2.2.2.2.2.2.2.2.2.2.2.2.2.1 * D + Tn) D _ _ tb htb (by lia) (by lia) hk16) B F1 Nt Nr (nv9 (fun p hp => ?sa) (fun p hp => ?sb) hsep) X T rfl (by first | exact limD (by assumption) (by decide) | lia) (by first | exact limU (by assumption) (by decide) | exact limV (by assumption) (by decide) | lia) trivial ?_
    case sa => exact lD _ (by simp [hp])
    case sb => exact hne _ (by simp [hp])
    rintro v nx h2 tk2 F2 N2 N3 hJ9 hs1 hs2
    k_extra "y"
    refine ex4 hJ9 fun l t1 t2 tb2 hJ9 => ?_
    refine an3 hJ9 fun e9_0 e9_1 htb2 hlt => ?_
    iterate 2 clear hJ9
    subst e9_0
    subst e9_1
    k_extra "z"
    replace N2 := cq9 N2 N3
    have hl := hs1 _ (.head _)
    have e1 : @Ne Nat l D1 := Ne.symm hl.1
    have e2 : @Ne Nat l zR9.2.2.2.2.2.2.2.2.2.2.2.2.2.2.2.1 := Ne.symm hl.2.1
    have e3 : @Ne Nat l (zR9.2.2.2.2.2.2.2.2.1 + 1 + 1 + 1 + 1 + 1 + 1) := Ne.symm hl.2.2.1
    have e4 : @Ne Nat D1 zR9.2.2.2.2.2.2.2.2.2.2.2.2.2.2.2.1 := Ne.symm (Nat.ne_of_lt (lD _ (.head _)))
    have e5 : @Ne Nat D1 (zR9.2.2.2.2.2.2.2.2.1 + 1 + 1 + 1 + 1 + 1 + 1) := Ne.symm (Nat.ne_of_lt (lD _ (.tail _ (.head _))))
    have e6 : @Ne Nat zR9.2.2.2.2.2.2.2.2.2.2.2.2.2.2.2.1 (zR9.2.2.2.2.2.2.2.2.1 + 1 + 1 + 1 + 1 + 1 + 1) := Nat.ne_of_gt hRc
    have e7 : @Ne Nat (zR9.2.2.2.2.2.2.2.2.1 + 1 + 1 + 1 + 1 + 1 + 1) zR9.2.2.2.2.2.2.2.2.2.2.2.2.2.2.2.1 := Nat.ne_of_lt hRc
    have e8 : @Ne Nat I zR9.2.2.2.2.2.2.2.2.2.2.2.2.2.2.2.1 := Ne.symm (hne _ (.head _))
    have e9 : @Ne Nat I (zR9.2.2.2.2.2.2.2.2.1 + 1 + 1 + 1 + 1 + 1 + 1) := Ne.symm (hne _ (.tail _ (.head _)))
    have ea : AllNe (zR9.2.2.2.2.2.2.2.2.1 + 1 + 1 + 1 + 1 + 1 + 1) (tb2 ++ zR9.2.2.2.2.2.2.2.2.2.2.2.2.2.2.1) := AllNe.of fun p hp => (List.mem_append.mp hp).elim (fun h => Ne.symm (hs1 p (.tail _ h)).2.2.1) (AllNe.at _ hl6 p)
    have eb : AllNe zR9.2.2.2.2.2.2.2.2.2.2.2.2.2.2.2.1 (tb2 ++ zR9.2.2.2.2.2.2.2.2.2.2.2.2.2.2.1) := AllNe.of fun p hp => (List.mem_append.mp hp).elim (fun h => Ne.symm (hs1 p (.tail _ h)).2.1) (AllNe.at _ hlR p)
    have ec : @Ne Nat (zR9.2.2.2.2.2.2.2.2.1 + 1 + 1 + 1 + 1 + 1) zR9.2.2.2.2.2.2.2.2.2.2.2.2.2.2.2.1 := Nat.ne_of_lt (Nat.lt_trans (Nat.lt_succ_self _) hRc)
    have ed : @Ne Nat (zR9.2.2.2.2.2.2.2.2.1 + 1) zR9.2.2.2.2.2.2.2.2.2.2.2.2.2.2.2.1 := Nat.ne_of_lt (Nat.lt_of_le_of_lt (by lia : @LE.le Nat _ (zR9.2.2.2.2.2.2.2.2.1 + 1) (zR9.2.2.2.2.2.2.2.2.1 + 1 + 1 + 1 + 1 + 1 + 1)) hRc)
    have ee : @Ne Nat (zR9.2.2.2.2.2.2.2.2.1 + 1 + 1) zR9.2.2.2.2.2.2.2.2.2.2.2.2.2.2.2.1 := Nat.ne_of_lt (Nat.lt_of_le_of_lt (by lia : @LE.le Nat _ (zR9.2.2.2.2.2.2.2.2.1 + 1 + 1) (zR9.2.2.2.2.2.2.2.2.1 + 1 + 1 + 1 + 1 + 1 + 1)) hRc)
    have hlw : (ltW r Tn D i).length ≤ 10000 := by show (List.toArray _).size ≤ _; simp; lia
    have hs3 : ∀ p ∈ tb2, AllNe p.1 ((zR9.2.2.2.2.2.2.2.2.2.2.2.2.2.2.2.1, zR9.2.2.2.2.2.2.2.2.2.2.2.2.2.2.2.2.2.2.2.2.2.2.1) :: (zR9.2.2.2.2.2.2.2.2.1 + 1 + 1 + 1 + 1 + 1 + 1, zR9.2.2.2.2.2.2.2.2.2.2.2.2.2.2.2.2.2.2.2.2.2.2.1) :: (zR9.2.2.2.2.2.2.2.2.1 + 1 + 1 + 1 + 1 + 1, zR9.2.2.2.2.2.2.2.2.2.2.2.2.2.2.2.2.2.2.2.2.2.2.1) :: (zR9.2.2.2.2.2.2.2.2.1 + 1, zR9.2.2.2.2.2.2.2.2.2.2.2.2.2.2.2.2.2.2.2.2.2.1) :: (zR9.2.2.2.2.2.2.2.2.1 + 1 + 1, zR9.2.2.2.2.2.2.2.2.2.2.2.2.2.2.2.2.2.2.2.2.2.2.2) :: zR9.2.2.2.2.2.2.2.2.2.2.2.2.2.2.1) := fun p hp => (by
      have := (hs1 p (.tail _ hp)).2
      exact ⟨this.1, this.2.1, this.2.2.1, this.2.2.2.1, this.2.2.2.2.1, this.2.2.2.2.2.2⟩)
    have hs4 : ∀ p ∈ tb2, p.1 ≠ I := fun p hp => Ne.symm (hs1 p (.tail _ hp)).2.2.2.2.2.2.1
    clear F1 N1 N3 Nt Nr hs1 hs2 hl lD
    (try (with_reducible refine' (?_ : wpAny M9 _ _ _ _ _)))
    k_steps
    · rename Fr _ _ _ _ => F3
      rename News _ _ _ _ => N3
      simp only [List.push_toArray] at N3
      rename_i dX _ _
      rw [← hrho, bP9] at dX
      refine ix4 _ _ _ _ (⟨rfl, F3, nw9 N3, ?_, ix6 _ _ _ _ tb2 _ (⟨wG9 rfl rfl, rfl, ?_, dX, .inr htb2, hs3⟩)⟩)
      · intro p hp
        rcases List.mem_cons.mp hp with rfl | hp
        · exact Ne.symm e8
        rcases List.mem_cons.mp hp with rfl | hp
        · exact Ne.symm e9
        rcases List.mem_cons.mp hp with rfl | hp
        · exact hne _ (.tail _ (.tail _ (.head _)))
        rcases List.mem_cons.mp hp with rfl | hp
        · exact hne _ (.tail _ (.tail _ (.tail _ (.head _))))
        rcases List.mem_cons.mp hp with rfl | hp
        · exact hne _ (.tail _ (.tail _ (.tail _ (.tail _ (.head _)))))
        rcases List.mem_append.mp hp with hp | hp
        · exact hs4 p hp
        · exact hne p (by simp [hp])
      · have := zs9 hrv (rho + Tn - D * if decide (D ≤ rho + Tn) = true then 1 else 0)
        rw [List.range_succ, List.map_append, List.map_cons, List.map_nil, bD9, hrho]
        exact this _
    · exfalso
      rename_i hX _
      have := gL9 (w := zR9.2.2.2.2.2.2.2.2.2.2.2.2.2.2.2.2.1) (by lia : 0 < D) hrk0 hrk1 hT0 hT1
      rw [this.1, this.2] at hX
      simp at hX
  · rintro m₁ nx h tk hJ9 F7 N7
    k_extra "y"
    refine ex6 hJ9 fun rvs n tl ole tb m' hJ9 => ?_
    refine an5 hJ9 fun e9_0 e9_1 hrv hole htb hsep => ?_
    iterate 2 clear hJ9
    subst e9_0
    subst e9_1
    k_extra "z"
    exact k _ _ _ _ _ _ _ _ hrv hole htb (qh9 F7 rfl) N7
theorem jf9 (V rest dp un gd A₁ base g L' fa cd s Q C lg RL wh tr tT tw tD od ors ot : _) : nc9 V rest dp un gd A₁ base g L' fa cd s Q C lg RL wh tr tT tw tD od ors ot := H24 (by unfold zR9; rfl) @gD9 V rest dp un gd A₁ base g L' fa cd s Q C lg RL wh tr tT tw tD od ors ot
end
section
noncomputable def strN (w : Str) (k : Nat) : Str := Txt.slice w (some (k : Int)) (some ((k : Int) + 5))
theorem ln38 : True := by
  (k_with "call type:range" => (k_here; (with_reducible show wpAny _ _ (call (Value.type "range") [Value.int _ _]) _ _ _); k_dflt (refine' qL9 ?_ ?_ ?_; rotate_right 3; (· k_asm); (· k_asm)); intro _ _ _ _ _ _ _ l1; (try k_lt l1); (revert l1; intro _); (try k_sweep)))
  (k_with "subscriptTail Name Slice str ref" => (k_here; with_reducible refine' vz9 ?_ ?_ ?_ ?_ ?_ ?_ ?_; rotate_right 7; (· k_asm); (· k_asm); (· (with_reducible assumption)); rotate_left; (· (with_unfolding_all rfl)); (· (intro _; with_unfolding_all rfl)); (· (with_reducible assumption)); intro _ _ _ _ _))
  trivial
noncomputable def nb9 (V : Wd) (rest : List Stmt) (dp un : Nat) (gd : Option (List Code)) (g : Heap) (L' fa : Addr) (cd : Value) (s : Shared) (Q : Flow → Shared → Prop) (m' : Str → Option Value) (lg : List (Addr × Obj)) (ole : Obj) : Prop := ∀ (st : Stmt) (sc : Scope) (hst : zS9 11 = st) (hsc : zM9 = sc) (A₁ : Around) (base : Heap) (hdp : dp + 40 ≤ recursionLimit) (hu : un + 400 < cLine) (B : Below A₁ base [] g) (X : (getK.heap_1 V.w.params).In g) (T : Top V.p V.loose V.mean V.mg V.mb g) (wd : Str) (tl : Tok) (hole : ole.data = .cell (some (.str wd tl))) (hwl : wd.length ≤ 16777216) (F : Fr g L' s.heap m') (N : News g L' s.heap ((L' + 1 + 1 + 1 + 1 + 1 + 1, ole) :: lg)) (k : ∀ (SL : Addr) (svs : List Value) h' tk', StrsAre svs ((List.range 8).map (strN wd)) → Fr g L' h' (fun y => if y = Str.ofString "stretches" then some (.ref SL) else m' y) → News g L' h' ((SL, W.listOf svs.toArray svs.length) :: (L' + 1 + 1 + 1 + 1 + 1 + 1, ole) :: lg) → (∀ p ∈ (L' + 1 + 1 + 1 + 1 + 1 + 1, ole) :: lg, p.1 < SL) → wpAny (model prg V.w) (lawA sc L' fa cd dp un gd) (execs rest (zQ9 sc L' fa cd)) Q (fun _ _ => False) { s with heap := h', toks := tk' }), wpAny (model prg V.w) (lawA sc L' fa cd dp un gd) (execs (st :: rest) (zQ9 sc L' fa cd)) Q (fun _ _ => False) s
@[irreducible] noncomputable def dK9 := W14 nb9
theorem gC9 : A14 nb9 dK9 := by
  intro st sc hst hsc A₁ base hdp hu B X T wd tl hole hwl F N k
  have h2 := @id (zS9 11 = Stmt.Assign _ _ _) rfl
  rw [h2] at hst
  subst hst
  clear h2
  k_extra "w"
  k_extra "v"
  k_extra "u"
  k_steps
  unfold zC9
  refine qD9 F rfl rfl rfl rfl (by decide) rfl (by decide) (by decide) rfl rfl ?_
  k_extra "u"
  k_steps
  unfold zC9
  rename Fr _ _ _ _ => F1
  rename News _ _ _ _ => N1
  refine xR9 (a := 0) (b := 8) (n := 8) (J := fun i ys => StrsAre ys ((List.range i).map (strN wd))) rfl (N1 _ (.head _)).1 rfl rfl (by rw [sizeLine_eq]; lia) F1 N1 .nil ?hlen ?turn ?fin
  case hlen => intro i ys h; rw [zr9 h, List.length_map, List.length_range]; exact Nat.le_refl _
  case turn =>
    intro g1 I hI1 i v ys C D2 ow oJ h tk E' hi' hP hJ hO F2 N2 hID hDC
    k_extra "y"
    refine ex2 (hO) fun oC mC hJ9 => ?_
    refine an2 hJ9 fun e9_0 hns hx => ?_
    clear hJ9
    try clear hO
    subst e9_0
    k_extra "z"
    obtain ⟨t, hv⟩ := hP
    rw [Int.zero_add] at hv
    subst hv
    dsimp only [led, List.cons_append, List.nil_append] at N2
    clear F1 N1
    obtain ⟨y, hy⟩ : ∃ y, Txt.slice wd (some (i : Int)) (some ((i : Int) + 5)) = y := ⟨_, rfl⟩
    have hk : strN wd i = y := hy
    simp only [LTest, List.foldr_cons, List.foldr_nil]
    k_extra "u"
    k_steps
    rename Fr _ _ _ _ => F3
    rename News _ _ _ _ => N3
    refine ix2 _ _ (⟨rfl, F3, N3, ?_⟩)
    rw [List.range_succ, List.map_append, List.map_cons, List.map_nil, hk]
    exact zd9 hJ (.cons _ _ .nil)
  case fin =>
    intro g1 ys hJ D2 h tk F2 N2 hlD
    exact k _ _ _ _ hJ F2 (qv9 N2) (fun p hp => hlD p (.tail _ hp))
theorem jd9 (V rest dp un gd g L' fa cd s Q m' lg ole : _) : nb9 V rest dp un gd g L' fa cd s Q m' lg ole := H14 (by unfold dK9; rfl) @gC9 V rest dp un gd g L' fa cd s Q m' lg ole
end
section
theorem ln39 : True := by
  (k_with "call builtin:len" => (k_here; (with_reducible show wpAny _ _ (call (Value.builtin "len") [Value.ref _]) _ _ _); (refine' lenL ?_ ?_ ?_ ?_; rotate_right 4; (· k_asm); (· k_mem); (· (first | assumption | ((simp only [List.size_toArray, List.length_replicate]); lia)))); (intro _ _); (try simp only [List.size_toArray, List.length_replicate]); (try dsimp only)))
  (k_with "call builtin:len" => (k_here; first | ((with_reducible show wpAny _ _ (call (Value.builtin "len") [Value.str _ _]) _ _ _); k_dflt (refine lenTo (by with_reducible assumption) (by lia) ?_); (intro _ _)) | ((with_reducible show wpAny _ _ (call (Value.builtin "len") [Value.ref _]) _ _ _); k_dflt (refine bR9 (by k_asm) (by k_mem) (by with_reducible assumption) (by lia) ?_); (intro _ _))))
  trivial
theorem ch9 {α β : Type} (f : α → β) (l : List α) {i : Nat} {x : α} (h : l[i]? = some x) : (l.take (i + 1)).map f = (l.take i).map f ++ [f x] := by
  rw [List.take_add_one, h]; simp
noncomputable def nZ9 (V : Wd) (rest : List Stmt) (dp un : Nat) (gd : Option (List Code)) (A₁ : Around) (base g : Heap) (L' fa : Addr) (cd : Value) (s : Shared) (Q : Flow → Shared → Prop) (m' : Str → Option Value) (RL K : Addr) (rvs kvs : List Value) (ns : List Int) (n n6 : Nat) (oc ors : Obj) (lg : List (Addr × Obj)) : Prop := ∀ (st : Stmt) (sc : Scope) (hst : zS9 12 = st) (hsc : zM9 = sc) (hdp : dp + 40 ≤ recursionLimit) (hu : un + 400 < cLine) (B : Below A₁ base [] g) (X : (getK.heap_1 V.w.params).In g) (T : Top V.p V.loose V.mean V.mg V.mb g) (ks : List Int) (hrv : IntsAre rvs ns) (hn : ns.length = 13) (hks : IntsAre kvs ks) (hk6 : ks.length = 6) (hoc : oc.data = .cell (some (.ref K))) (hors : ors.data = .cell (some (.ref RL))) (F : Fr g L' s.heap m') (N : News g L' s.heap ((RL, W.listOf (List.toArray rvs) n) :: (K, W.listOf (List.toArray kvs) n6) :: (L' + 1 + 1 + 1, oc) :: (L' + 1 + 1 + 1 + 1 + 1, ors) :: lg)) (k : ∀ (RK : Addr) (ys : List Value) h' tk', IntsAre ys ((ns.take 8).map fun x => ((ks.filter fun c => decide (c ≤ x)).length : Int)) → Fr g L' h' (fun y => if y = Str.ofString "ranks" then some (.ref RK) else m' y) → News g L' h' ((RK, W.listOf ys.toArray ys.length) :: (RL, W.listOf (List.toArray rvs) n) :: (K, W.listOf (List.toArray kvs) n6) :: (L' + 1 + 1 + 1, oc) :: (L' + 1 + 1 + 1 + 1 + 1, ors) :: lg) → wpAny (model prg V.w) (lawA sc L' fa cd dp un gd) (execs rest (zQ9 sc L' fa cd)) Q (fun _ _ => False) { s with heap := h', toks := tk' }), wpAny (model prg V.w) (lawA sc L' fa cd dp un gd) (execs (st :: rest) (zQ9 sc L' fa cd)) Q (fun _ _ => False) s
@[irreducible] noncomputable def ym9 := W24 nZ9
theorem gB9 : A24 nZ9 ym9 := by
  intro st sc hst hsc hdp hu B X T ks hrv hn hks hk6 hoc hors F N k
  have h2 := @id (zS9 12 = Stmt.Assign _ _ _) rfl
  rw [h2] at hst
  subst hst
  clear h2
  k_extra "w"
  have hrl : ym9.2.2.2.2.2.2.2.2.2.2.2.2.2.2.2.2.1.length = 13 := by rw [zN9 hrv]; exact hn
  k_extra "v"
  k_extra "u"
  k_steps
  unfold zC9
  refine yC9 F rfl rfl rfl rfl ⟨fun _ _ => rfl, fun _ => rfl⟩ rfl (by decide) (by decide) rfl rfl ?_
  k_extra "u"
  k_steps
  unfold zC9
  rename Fr _ _ _ _ => F1
  rename News _ _ _ _ => N1
  rename_i D2 ws h2 hI hC hL lD
  have hwl : ws.length ≤ 8 := by rw [zN9 hI]; lia
  refine xV9 (J := fun i ys => IntsAre ys (((ym9.2.2.2.2.2.2.2.2.2.2.2.2.2.2.2.2.2.2.1.take 8).take i).map fun x => ((ks.filter fun c => decide (c ≤ x)).length : Int))) rfl F1 N1 (.head _) (by rw [sizeLine_eq]; lia) .nil ?hlen ?turn ?fin
  case hlen => intro i ys h; rw [zN9 h, List.length_map, List.length_take]; exact Nat.min_le_left _ _
  case turn =>
    intro g1 I hI1 i v ys C D3 ow oJ h tk E' hi' hP hJ hO F2 N2 hID hDC
    k_extra "y"
    refine ex2 (hO) fun oC oX hJ9 => ?_
    refine an2 hJ9 fun e9_0 hns hx => ?_
    clear hJ9
    try clear hO
    subst e9_0
    k_extra "z"
    k_extra "y"
    refine ex2 (zt9 hI hP) fun one t1 hJ9 => ?_
    refine an1 hJ9 fun e9_0 hz => ?_
    clear hJ9
    subst e9_0
    k_extra "z"
    dsimp only [led, List.cons_append, List.nil_append] at N2
    clear F1 N1
    simp only [LTest, List.foldr_cons, List.foldr_nil]
    k_extra "u"
    k_steps
    unfold zC9
    rename Fr _ _ _ _ => F3
    rename News _ _ _ _ => N3
    refine xj9 F3 rfl rfl (by decide) rfl (by decide) (by decide) ?_
    k_extra "u"
    k_steps
    unfold zC9
    rename Fr _ _ _ _ => F4
    rename News _ _ _ _ => N4
    refine xV9 (J := fun i ys => IntsAre ys ((ks.take i).filter fun c => decide (c ≤ one))) rfl F4 N4 (by k_mem) (by rw [sizeLine_eq, zN9 hks]; lia) .nil ?hlen2 ?turn2 ?fin2
    case hlen2 => intro i ys h; rw [zN9 h]; exact Nat.le_trans (List.length_filter_le _ _) (by rw [List.length_take]; exact Nat.min_le_left _ _)
    case turn2 =>
      intro g2 I2 hI2 j v2 zs C4 D4 ow4 oJ4 h4 tk4 E4 hj' hP4 hJ4 hO4 F5 N5 hID4 hDC4
      k_extra "y"
      refine ex2 (hO4) fun oC4 mC4 hJ9 => ?_
      refine an2 hJ9 fun e9_0 hns4 hx4 => ?_
      clear hJ9
      try clear hO4
      subst e9_0
      k_extra "z"
      k_extra "y"
      refine ex2 (zt9 hks hP4) fun cz t2 hJ9 => ?_
      refine an1 hJ9 fun e9_0 hz2 => ?_
      clear hJ9
      subst e9_0
      k_extra "z"
      dsimp only [led, List.cons_append, List.nil_append] at N5
      clear F4 N4
      simp only [LTest, List.foldr_cons, List.foldr_nil]
      k_extra "u"
      k_steps
      · rename Fr _ _ _ _ => F6
        rename News _ _ _ _ => N6
        refine ix2 _ _ (⟨rfl, F6, N6, ?_⟩)
        rw [zv9 _ _ hz2, if_pos (decide_eq_true (by assumption))]
        exact zs9 hJ4 _ _
      · rename Fr _ _ _ _ => F6
        rename News _ _ _ _ => N6
        refine ix2 _ _ (⟨rfl, F6, N6, ?_⟩)
        rw [zv9 _ _ hz2, if_neg (fun q => absurd (of_decide_eq_true q) (by assumption)), List.append_nil]
        exact hJ4
    case fin2 =>
      intro g2 zs hJ4 D4 h4 tk4 F5 N5 hlD
      have hJ5 : IntsAre zs (ks.filter fun c => decide (c ≤ one)) := by
        have := hJ4
        rw [List.take_of_length_le (by rw [zN9 hks]; exact Nat.le_refl _)] at this
        exact this
      obtain ⟨c, hc⟩ : ∃ c, (ks.filter fun c => decide (c ≤ one)).length = c := ⟨_, rfl⟩
      have hc6 : c ≤ 6 := by rw [← hc]; exact Nat.le_trans (List.length_filter_le _ _) (by lia)
      have hzl : zs.length = c := (zN9 hJ5).trans hc
      clear F4 N4 hJ4
      k_extra "u"
      k_steps
      rename Fr _ _ _ _ => F6
      rename News _ _ _ _ => N6
      refine ix2 _ _ (⟨rfl, F6, zx9 N6, ?_⟩)
      rw [ch9 _ _ hz, hc]
      exact zs9 hJ _ _
  case fin =>
    intro g1 ys hJ D3 h tk F2 N2 hlD
    have hJ2 : IntsAre ys ((ym9.2.2.2.2.2.2.2.2.2.2.2.2.2.2.2.2.2.2.1.take 8).map fun x => ((ks.filter fun c => decide (c ≤ x)).length : Int)) := by
      have := hJ
      rw [List.take_of_length_le (by rw [zN9 hI]; exact Nat.le_refl _)] at this
      exact this
    exact k _ _ _ _ hJ2 F2 (qv9 N2)
theorem jc9 (V rest dp un gd A₁ base g L' fa cd s Q m' RL K rvs kvs ns n n6 oc ors lg : _) : nZ9 V rest dp un gd A₁ base g L' fa cd s Q m' RL K rvs kvs ns n n6 oc ors lg := H24 (by unfold ym9; rfl) @gB9 V rest dp un gd A₁ base g L' fa cd s Q m' RL K rvs kvs ns n n6 oc ors lg
end
section
theorem ln40 : True := by
  (k_with "call builtin:len" => (k_here; (with_reducible show wpAny _ _ (call (Value.builtin "len") [Value.ref _]) _ _ _); (refine' lenL ?_ ?_ ?_ ?_; rotate_right 4; (· k_asm); (· k_mem); (· (first | assumption | ((simp only [List.size_toArray, List.length_replicate]); lia)))); (intro _ _); (try simp only [List.size_toArray, List.length_replicate]); (try dsimp only)))
  trivial
noncomputable def J13 (SL RK C : Addr) (svs rvs : List Value) (e f : Nat) (lg : List (Addr × Obj)) (m : Str → Option Value) (nx : List (Addr × Obj)) : Prop :=
  ∃ m' : Str → Option Value, m = (fun y => if y = Str.ofString "stretches" then some (.ref SL) else if y = Str.ofString "ranks" then some (.ref RK) else if y = Str.ofString "cells" then some (.ref C) else m' y) ∧ nx = (SL, W.listOf (List.toArray svs) e) :: (RK, W.listOf (List.toArray rvs) f) :: lg
noncomputable def J13i (SL RK C : Addr) (svs rvs : List Value) (e f : Nat) (lg : List (Addr × Obj)) (i : Nat) (t : Tok) (m : Str → Option Value) (nx : List (Addr × Obj)) : Prop :=
  ∃ m' : Str → Option Value, m = (fun y => if y = Str.ofString "k" then some (.int (i : Int) t) else if y = Str.ofString "stretches" then some (.ref SL) else if y = Str.ofString "ranks" then some (.ref RK) else if y = Str.ofString "cells" then some (.ref C) else m' y) ∧ nx = (SL, W.listOf (List.toArray svs) e) :: (RK, W.listOf (List.toArray rvs) f) :: lg
noncomputable def nY9 (V : Wd) (dp un : Nat) (g : Heap) (L' fa : Addr) (cd : Value) (s : Shared) (SL RK C : Addr) (svs rvs : List Value) (ss : List Str) (rs : List Int) (e f : Nat) (lg : List (Addr × Obj)) : Prop := ∀ (st : Stmt) (sc : Scope) (hst : zS9 13 = st) (hsc : zM9 = sc) (rest : List Stmt) (gd : Option (List Code)) (A₁ : Around) (base : Heap) (Q : Flow → Shared → Prop) (hdp : dp + 40 ≤ recursionLimit) (hu : un + 400 < cLine) (B : Below A₁ base [] g) (X : (getK.heap_1 V.w.params).In g) (T : Top V.p V.loose V.mean V.mg V.mb g) (m' : Str → Option Value) (hss : StrsAre svs ss) (hrs : IntsAre rvs rs) (hs8 : ss.length = 8) (hr8 : rs.length = 8) (hlaw : ∀ (j k : Nat) (x y : Str) (a b : Int), j < k → ss[j]? = some x → ss[k]? = some y → rs[j]? = some a → rs[k]? = some b → b2i (decide (y.cps.toList < x.cps.toList)) - b2i (decide (x.cps.toList < y.cps.toList)) = b2i (decide (b < a)) - b2i (decide (a < b))) (F : Fr g L' s.heap (fun y => if y = Str.ofString "stretches" then some (.ref SL) else if y = Str.ofString "ranks" then some (.ref RK) else if y = Str.ofString "cells" then some (.ref C) else m' y)) (N : News g L' s.heap ((SL, W.listOf (List.toArray svs) e) :: (RK, W.listOf (List.toArray rvs) f) :: lg)) (k : ∀ h' tk' (m' : Str → Option Value), Fr g L' h' (fun y => if y = Str.ofString "stretches" then some (.ref SL) else if y = Str.ofString "cells" then some (.ref C) else m' y) → News g L' h' ((SL, W.listOf (List.toArray svs) e) :: (RK, W.listOf (List.toArray rvs) f) :: lg) → wpAny (model prg V.w) (lawA sc L' fa cd dp un gd) (execs rest (zQ9 sc L' fa cd)) Q (fun _ _ => False) { s with heap := h', toks := tk' }), wpAny (model prg V.w) (lawA sc L' fa cd dp un gd) (execs (st :: rest) (zQ9 sc L' fa cd)) Q (fun _ _ => False) s
@[irreducible] noncomputable def zP9 := W18 nY9
theorem gA9 : A18 nY9 zP9 := by
  intro st sc hst hsc rest gd A₁ base Q hdp hu B X T m' hss hrs hs8 hr8 hlaw F N k
  have h2 := @id (zS9 13 = Stmt.For _ _ _ _ _) rfl
  rw [h2] at hst
  subst hst
  clear h2
  k_extra "w"
  have hsl : zP9.2.2.2.2.2.2.2.2.2.2.2.1.length = 8 := by rw [zr9 hss]; exact hs8
  have hrl : zP9.2.2.2.2.2.2.2.2.2.2.2.2.1.length = 8 := by rw [zN9 hrs]; exact hr8
  have hsm : zP9.2.2.2.2.2.2.2.2.2.2.2.1.length ≤ 1000000 := by lia
  have hrm : zP9.2.2.2.2.2.2.2.2.2.2.2.2.1.length ≤ 1000000 := by lia
  k_extra "v"
  k_extra "u"
  k_steps
  unfold zC9
  rename Fr _ _ _ _ => F0
  rename News _ _ _ _ => N0
  have R0 := (N0 _ (.head _)).1
  replace N0 := zx9 N0
  refine xP9 (n := 8) (fun _ => J13 zP9.2.2.2.2.2.2.2.2.1 zP9.2.2.2.2.2.2.2.2.2.1 zP9.2.2.2.2.2.2.2.2.2.2.1 zP9.2.2.2.2.2.2.2.2.2.2.2.1 zP9.2.2.2.2.2.2.2.2.2.2.2.2.1 zP9.2.2.2.2.2.2.2.2.2.2.2.2.2.2.2.1 zP9.2.2.2.2.2.2.2.2.2.2.2.2.2.2.2.2.1 zP9.2.2.2.2.2.2.2.2.2.2.2.2.2.2.2.2.2) rfl R0 rfl rfl F0 N0 ⟨_, zz9 rfl rfl rfl, rfl⟩ ?_ ?_
  · rintro i t m₁ nx I oI h tk hi hne hJ9 F7 N7
    k_extra "y"
    refine ex1 hJ9 fun m' hJ9 => ?_
    refine an1 hJ9 fun e9_0 e9_1 => ?_
    iterate 2 clear hJ9
    subst e9_0
    subst e9_1
    k_extra "z"
    rw [Int.zero_add] at F7
    replace N7 : News zP9.2.2.2.1 zP9.2.2.2.2.1 h ((zP9.2.2.2.2.2.2.2.2.1, W.listOf (List.toArray zP9.2.2.2.2.2.2.2.2.2.2.2.1) zP9.2.2.2.2.2.2.2.2.2.2.2.2.2.2.2.1) :: (zP9.2.2.2.2.2.2.2.2.2.1, W.listOf (List.toArray zP9.2.2.2.2.2.2.2.2.2.2.2.2.1) zP9.2.2.2.2.2.2.2.2.2.2.2.2.2.2.2.2.1) :: (zP9.2.2.2.2.2.2.2.2.2.2.2.2.2.2.2.2.2 ++ [(I, oI)])) := N7
    clear F0 N0 R0
    k_extra "u"
    k_steps
    unfold zC9
    rename Fr _ _ _ _ => F1
    rename News _ _ _ _ => N1
    have R1 := (N1 _ (.head _)).1
    replace N1 := zx9 N1
    refine xP9 (n := i) (fun _ => J13i zP9.2.2.2.2.2.2.2.2.1 zP9.2.2.2.2.2.2.2.2.2.1 zP9.2.2.2.2.2.2.2.2.2.2.1 zP9.2.2.2.2.2.2.2.2.2.2.2.1 zP9.2.2.2.2.2.2.2.2.2.2.2.2.1 zP9.2.2.2.2.2.2.2.2.2.2.2.2.2.2.2.1 zP9.2.2.2.2.2.2.2.2.2.2.2.2.2.2.2.2.1 (zP9.2.2.2.2.2.2.2.2.2.2.2.2.2.2.2.2.2 ++ [(I, oI)]) i t) rfl R1 (small_one (by lia) (by lia) (by lia) (by lia)) (by simpa using rangeSize_nat 0 i) F1 N1 ⟨_, zq9 rfl rfl rfl rfl, rfl⟩ ?_ ?_
    · rintro j tj m₁ nx I2 oI2 h2 tk2 hj hne2 hJ9 F8 N8
      k_extra "y"
      refine ex1 hJ9 fun m' hJ9 => ?_
      refine an1 hJ9 fun e9_0 e9_1 => ?_
      iterate 2 clear hJ9
      subst e9_0
      subst e9_1
      k_extra "z"
      rw [Int.zero_add] at F8
      replace N8 : News zP9.2.2.2.1 zP9.2.2.2.2.1 h2 ((zP9.2.2.2.2.2.2.2.2.1, W.listOf (List.toArray zP9.2.2.2.2.2.2.2.2.2.2.2.1) zP9.2.2.2.2.2.2.2.2.2.2.2.2.2.2.2.1) :: (zP9.2.2.2.2.2.2.2.2.2.1, W.listOf (List.toArray zP9.2.2.2.2.2.2.2.2.2.2.2.2.1) zP9.2.2.2.2.2.2.2.2.2.2.2.2.2.2.2.2.1) :: ((zP9.2.2.2.2.2.2.2.2.2.2.2.2.2.2.2.2.2 ++ [(I, oI)]) ++ [(I2, oI2)])) := N8
      k_extra "y"
      refine ex2 (xW9 hss (List.getElem?_eq_getElem (show i < zP9.2.2.2.2.2.2.2.2.2.2.2.1.length by lia))) fun y ty hJ9 => ?_
      refine an1 hJ9 fun hy1 hy2 => ?_
      clear hJ9
      k_extra "z"
      k_extra "y"
      refine ex2 (xW9 hss (List.getElem?_eq_getElem (show j < zP9.2.2.2.2.2.2.2.2.2.2.2.1.length by lia))) fun x tx hJ9 => ?_
      refine an1 hJ9 fun hx1 hx2 => ?_
      clear hJ9
      k_extra "z"
      k_extra "y"
      refine ex2 (zt9 hrs (List.getElem?_eq_getElem (show i < zP9.2.2.2.2.2.2.2.2.2.2.2.2.1.length by lia))) fun b tb hJ9 => ?_
      refine an1 hJ9 fun hb1 hb2 => ?_
      clear hJ9
      k_extra "z"
      k_extra "y"
      refine ex2 (zt9 hrs (List.getElem?_eq_getElem (show j < zP9.2.2.2.2.2.2.2.2.2.2.2.2.1.length by lia))) fun a ta hJ9 => ?_
      refine an1 hJ9 fun ha1 ha2 => ?_
      clear hJ9
      k_extra "z"
      have hy : zP9.2.2.2.2.2.2.2.2.2.2.2.1[i]? = some (.str y ty) := by rw [List.getElem?_eq_getElem (show i < zP9.2.2.2.2.2.2.2.2.2.2.2.1.length by lia), hy1]
      have hx : zP9.2.2.2.2.2.2.2.2.2.2.2.1[j]? = some (.str x tx) := by rw [List.getElem?_eq_getElem (show j < zP9.2.2.2.2.2.2.2.2.2.2.2.1.length by lia), hx1]
      have hb : zP9.2.2.2.2.2.2.2.2.2.2.2.2.1[i]? = some (.int b tb) := by rw [List.getElem?_eq_getElem (show i < zP9.2.2.2.2.2.2.2.2.2.2.2.2.1.length by lia), hb1]
      have ha : zP9.2.2.2.2.2.2.2.2.2.2.2.2.1[j]? = some (.int a ta) := by rw [List.getElem?_eq_getElem (show j < zP9.2.2.2.2.2.2.2.2.2.2.2.2.1.length by lia), ha1]
      have hl := hlaw j i x y a b hj hx2 hy2 ha2 hb2
      clear F1 N1 R1 N7 hy1 hx1 hb1 ha1 hlaw
      k_extra "u"
      k_steps
      unfold zC9
      rename Fr _ _ _ _ => F9
      rename News _ _ _ _ => N9
      refine use0 (dB9 zP9.1 x y tx ty) B F9 N9 X T rfl (by first | exact limD (by assumption) (by decide) | lia) (by first | exact limU (by assumption) (by decide) | exact limV (by assumption) (by decide) | lia) trivial ?_
      rintro _ h3 tk3 F10 N10 _ ⟨t3, rfl⟩
      rw [hl]
      clear F9 N9
      k_extra "u"
      k_steps
      all_goals (
        rename Fr _ _ _ _ => F11
        rename News _ _ _ _ => N11
        first
        | exact ⟨_, _, _, _, rfl, F11, N11, hne2, _, zq9 rfl rfl rfl rfl, rfl⟩
        | (exfalso; exact absurd rfl (by assumption)))
    · rintro m₁ nx h tk hJ9 F8 N8
      k_extra "y"
      refine ex1 hJ9 fun m' hJ9 => ?_
      refine an1 hJ9 fun e9_0 e9_1 => ?_
      iterate 2 clear hJ9
      subst e9_0
      subst e9_1
      k_extra "z"
      k_extra "u"
      k_steps
      exact ix4 _ _ _ _ (⟨rfl, F8, N8, hne, ix1 _ (⟨zz9 rfl rfl rfl, rfl⟩)⟩)
  · rintro m₁ nx h tk hJ9 F7 N7
    k_extra "y"
    refine ex1 hJ9 fun m' hJ9 => ?_
    refine an1 hJ9 fun e9_0 e9_1 => ?_
    iterate 2 clear hJ9
    subst e9_0
    subst e9_1
    k_extra "z"
    exact k _ _ _ (yU9 F7 rfl rfl) N7
theorem jb9 (V dp un g L' fa cd s SL RK C svs rvs ss rs e f lg : _) : nY9 V dp un g L' fa cd s SL RK C svs rvs ss rs e f lg := H18 (by unfold zP9; rfl) @gA9 V dp un g L' fa cd s SL RK C svs rvs ss rs e f lg
end
section
theorem ln41 : True := by
  (k_with "subscriptTail Name Constant ref int" => (k_here; (with_reducible show wpAny _ _ (subscriptTail _ _ (Value.ref _) (Value.int _ _)) _ _ _); (k_dflt (refine vW9 (by k_asm) (by k_mem) rfl (by rfl) (by decide) ?_))))
  (k_with "subscriptTail Name Constant ref int" => (k_here; (with_reducible show wpAny _ _ (subscriptTail _ _ (Value.ref _) (Value.int _ _)) _ _ _); (k_dflt (refine vW9 (by k_asm) (by k_mem) rfl (by with_reducible assumption) (by decide) ?_))))
  trivial
noncomputable def tN9 (c5 : Int) (ns : List Int) (k : Nat) : Bool := decide (0 < c5) && decide (c5 ≤ ns.getD k 0)
theorem ln42 : True := by
  (k_with "call type:range" => (k_here; (with_reducible show wpAny _ _ (call (Value.type "range") [Value.int _ _]) _ _ _); k_dflt (refine' qL9 ?_ ?_ ?_; rotate_right 3; (· k_asm); (· k_asm)); intro _ _ _ _ _ _ _ l1; (try k_lt l1); (revert l1; intro _); (try k_sweep)))
  trivial
noncomputable def nX9 (V : Wd) (rest : List Stmt) (dp un : Nat) (gd : Option (List Code)) (g : Heap) (L' fa : Addr) (cd : Value) (s : Shared) (Q : Flow → Shared → Prop) (m' : Str → Option Value) (RL K : Addr) (rvs kvs : List Value) (ns ks : List Int) (c5 : Int) (n n6 : Nat) (oc ors : Obj) (lg : List (Addr × Obj)) : Prop := ∀ (st : Stmt) (sc : Scope) (hst : zS9 14 = st) (hsc : zM9 = sc) (A₁ : Around) (base : Heap) (hdp : dp + 40 ≤ recursionLimit) (hu : un + 400 < cLine) (B : Below A₁ base [] g) (X : (getK.heap_1 V.w.params).In g) (T : Top V.p V.loose V.mean V.mg V.mb g) (hrv : IntsAre rvs ns) (hn : ns.length = 13) (hks : IntsAre kvs ks) (hk6 : ks.length = 6) (h5 : ks[5]? = some c5) (hoc : oc.data = .cell (some (.ref K))) (hors : ors.data = .cell (some (.ref RL))) (F : Fr g L' s.heap m') (N : News g L' s.heap ((RL, W.listOf (List.toArray rvs) n) :: (K, W.listOf (List.toArray kvs) n6) :: (L' + 1 + 1 + 1, oc) :: (L' + 1 + 1 + 1 + 1 + 1, ors) :: lg)) (k : ∀ (ML : Addr) (ys : List Value) h' tk', ys = (List.range 8).map (fun k => Value.bool (tN9 c5 ns k)) → Fr g L' h' (fun y => if y = Str.ofString "more" then some (.ref ML) else m' y) → News g L' h' ((ML, W.listOf ys.toArray ys.length) :: (RL, W.listOf (List.toArray rvs) n) :: (K, W.listOf (List.toArray kvs) n6) :: (L' + 1 + 1 + 1, oc) :: (L' + 1 + 1 + 1 + 1 + 1, ors) :: lg) → wpAny (model prg V.w) (lawA sc L' fa cd dp un gd) (execs rest (zQ9 sc L' fa cd)) Q (fun _ _ => False) { s with heap := h', toks := tk' }), wpAny (model prg V.w) (lawA sc L' fa cd dp un gd) (execs (st :: rest) (zQ9 sc L' fa cd)) Q (fun _ _ => False) s
@[irreducible] noncomputable def xM9 := W24 nX9
theorem dz9 : A24 nX9 xM9 := by
  intro st sc hst hsc A₁ base hdp hu B X T hrv hn hks hk6 h5 hoc hors F N k
  have h2 := @id (zS9 14 = Stmt.Assign _ _ _) rfl
  rw [h2] at hst
  subst hst
  clear h2
  k_extra "w"
  have hrl : xM9.2.2.2.2.2.2.2.2.2.2.2.2.2.2.1.length = 13 := by rw [zN9 hrv]; exact hn
  have hkl : xM9.2.2.2.2.2.2.2.2.2.2.2.2.2.2.2.1.length = 6 := by rw [zN9 hks]; exact hk6
  k_extra "y"
  refine ex2 (zt9 hks (List.getElem?_eq_getElem (show 5 < xM9.2.2.2.2.2.2.2.2.2.2.2.2.2.2.2.1.length by lia))) fun z5 t5 hJ9 => ?_
  refine an1 hJ9 fun hz5 hz6 => ?_
  clear hJ9
  k_extra "z"
  have h5v : xM9.2.2.2.2.2.2.2.2.2.2.2.2.2.2.2.1[Int.toNat 5]? = some (.int xM9.2.2.2.2.2.2.2.2.2.2.2.2.2.2.2.2.2.2.1 t5) := by
    show xM9.2.2.2.2.2.2.2.2.2.2.2.2.2.2.2.1[5]? = _
    rw [List.getElem?_eq_getElem (show 5 < xM9.2.2.2.2.2.2.2.2.2.2.2.2.2.2.2.1.length by lia), hz5]
    rw [h5] at hz6
    rw [Option.some.inj hz6]
  clear hz5 hz6
  k_extra "v"
  k_extra "u"
  k_steps
  unfold zC9
  refine qD9 F rfl rfl rfl rfl (by decide) rfl (by decide) (by decide) rfl rfl ?_
  k_extra "u"
  k_steps
  unfold zC9
  rename Fr _ _ _ _ => F1
  rename News _ _ _ _ => N1
  refine xR9 (a := 0) (b := 8) (n := 8) (J := fun i ys => ys = (List.range i).map (fun k => Value.bool (tN9 xM9.2.2.2.2.2.2.2.2.2.2.2.2.2.2.2.2.2.2.1 xM9.2.2.2.2.2.2.2.2.2.2.2.2.2.2.2.2.1 k))) rfl (N1 _ (.head _)).1 rfl rfl (by rw [sizeLine_eq]; lia) F1 N1 rfl ?hlen ?turn ?fin
  case hlen => intro i ys h; rw [h, List.length_map, List.length_range]; exact Nat.le_refl _
  case turn =>
    intro g1 I hI1 i v ys C D2 ow oJ h tk E' hi' hP hJ hO F2 N2 hID hDC
    k_extra "y"
    refine ex2 (hO) fun oC mC hJ9 => ?_
    refine an2 hJ9 fun e9_0 hns hx => ?_
    clear hJ9
    try clear hO
    subst e9_0
    k_extra "z"
    obtain ⟨t, hv⟩ := hP
    rw [Int.zero_add] at hv
    subst hv
    dsimp only [led, List.cons_append, List.nil_append] at N2
    clear F1 N1
    k_extra "y"
    refine ex2 (zt9 hrv (List.getElem?_eq_getElem (show i < xM9.2.2.2.2.2.2.2.2.2.2.2.2.2.2.1.length by lia))) fun zi ti hJ9 => ?_
    refine an1 hJ9 fun hzi hzj => ?_
    clear hJ9
    k_extra "z"
    have hiv : xM9.2.2.2.2.2.2.2.2.2.2.2.2.2.2.1[i]? = some (.int zi ti) := by rw [List.getElem?_eq_getElem (show i < xM9.2.2.2.2.2.2.2.2.2.2.2.2.2.2.1.length by lia), hzi]
    have hgd : xM9.2.2.2.2.2.2.2.2.2.2.2.2.2.2.2.2.1.getD i 0 = zi := by rw [List.getD_eq_getElem?_getD, hzj]; rfl
    have hml : xM9.2.2.2.2.2.2.2.2.2.2.2.2.2.2.1.length ≤ 1000000 := by lia
    clear hzi
    simp only [LTest, List.foldr_cons, List.foldr_nil]
    k_extra "u"
    k_steps
    all_goals (
      rename Fr _ _ _ _ => F3
      rename News _ _ _ _ => N3
      rename_i q
      refine ix2 _ _ (⟨rfl, F3, N3, ?_⟩)
      rw [hJ, List.range_succ, List.map_append, List.map_cons, List.map_nil]
      congr 3
      unfold tN9
      rw [hgd]
      simp [q])
  case fin =>
    intro g1 ys hJ D2 h tk F2 N2 hlD
    exact k _ _ _ _ hJ F2 (qv9 N2)
theorem jZ9 (V rest dp un gd g L' fa cd s Q m' RL K rvs kvs ns ks c5 n n6 oc ors lg : _) : nX9 V rest dp un gd g L' fa cd s Q m' RL K rvs kvs ns ks c5 n n6 oc ors lg := H24 (by unfold xM9; rfl) @dz9 V rest dp un gd g L' fa cd s Q m' RL K rvs kvs ns ks c5 n n6 oc ors lg
end
section
theorem ln43 : True := by
  (k_with "subscriptTail Name Constant ref int" => (k_here; (with_reducible show wpAny _ _ (subscriptTail _ _ (Value.ref _) (Value.int _ _)) _ _ _); (k_dflt (refine vW9 (by k_asm) (by k_mem) rfl (by rfl) (by decide) ?_))))
  (k_with "subscriptTail Name BinOp ref int" => (k_here; (with_reducible show wpAny _ _ (subscriptTail _ _ (Value.ref _) (Value.int _ _)) _ _ _); (k_dflt (refine qO9 (by k_asm) (by k_mem) _ (by with_reducible assumption) (by with_reducible assumption) (by with_reducible assumption) ?_))))
  trivial
theorem gP9 {prog : Program} {w : World} {A : Around} {E : Value → Shared → Prop} {s : Shared} {h₀ : Heap} {L : Addr} {m : Str → Option Value} {news : List (Addr × Obj)} {a n : Int} {t u : Tok} {Q : Value → Shared → Prop} (F : Fr h₀ L s.heap m) (N : News h₀ L s.heap news)
    (h : ∀ l h' tk v', Fr h₀ L h' m → News h₀ L h' ((l, wP9 a n t u v') :: news) → (∀ p ∈ news, p.1 < l) → Q (.ref l) { s with heap := h', toks := tk }) :
    wpAny (model prog w) A (call (.type "range") [.int a t, .int n u]) Q E s :=
  call_range_2 (h _ _ _ _ (F.push _) (N.push F _) fun p hp => Heap.lt_size (N p hp).1)
theorem ln44 : True := by
  (k_with "call type:range" => (k_here; (with_reducible show wpAny _ _ (call (Value.type "range") [Value.int _ _, Value.int _ _]) _ _ _); k_dflt (refine' gP9 ?_ ?_ ?_; rotate_right 3; (· k_asm); (· k_asm)); intro _ _ _ _ _ _ l1; (try k_lt l1); (revert l1; intro _); (try k_sweep)))
  trivial
noncomputable def xl9 (x : Str) : List Str := x.cps.toList.map fun c => ⟨#[c]⟩
theorem tR9 {prog : Program} {w : World} {A : Around} {E : Value → Shared → Prop} {s : Shared} {h₀ : Heap} {L : Addr} {m : Str → Option Value} {news : List (Addr × Obj)} {x : Str} {t : Tok} {Q : Value → Shared → Prop} (F : Fr h₀ L s.heap m) (N : News h₀ L s.heap news) (hh : A.handled = none) (hsz : x.length ≤ 1000)
    (h : ∀ D vs n h' tk', Fr h₀ L h' m → News h₀ L h' ((D, W.listOf (List.toArray vs) n) :: news) → (∀ p ∈ news, p.1 < D) → StrsAre vs (xl9 x) → Q (.ref D) { s with heap := h', toks := tk' }) :
    wpAny (model prog w) A (call (.type "list") [.str x t]) Q E s := by
  refine call_list_str hh x t (hn := by rw [sizeLine_eq]; have : x.cps.size ≤ 1000 := hsz; lia) fun h' tk acc' c' hk hS' hacc => ?_
  refine h _ acc'.toList c' h' tk (F.keeps hk) (fun p hp => ?_) (fun p hp => Heap.lt_size (N p hp).1) (StrsAre.of_carried (carriedAll_of_get _ _ (by simp [hacc.1, xl9]) fun j v hv => ?_))
  · rcases List.mem_cons.mp hp with rfl | hp
    · refine ⟨by simpa using hS', Nat.ne_of_gt F.ns.lt, ?_⟩
      cases e : h₀.get? s.heap.objs.size with
      | none => rfl
      | some o => exact absurd (Heap.lt_size (F.keep _ _ e)) (Nat.lt_irrefl _)
    · exact ⟨hk _ _ (N p hp).1, (N p hp).2⟩
  · obtain ⟨c, u, hc, rfl⟩ := hacc.2 j v (by simpa using hv)
    exact ⟨.str ⟨#[c]⟩, by simp [xl9, hc], .str _ _⟩
theorem bQ9 {hh9 : Heap} {gg9 : Array GenState} {dd9 : Drawn} {tt9 : Nat} {oo9 : OsState} {prog : Program} {w : World} {A : Around} {E : Value → Shared → Prop}  {h₀ : Heap} {L : Addr} {m : Str → Option Value} {news : List (Addr × Obj)} {x : Str} {t : Tok} {Q : Value → Shared → Prop} (F : Fr h₀ L hh9 m) (N : News h₀ L hh9 news) (hh : A.handled = none) (hsz : x.length ≤ 1000)
    (h : ∀ D vs n h' tk', Fr h₀ L h' m → News h₀ L h' ((D, W.listOf (List.toArray vs) n) :: news) → (∀ p ∈ news, p.1 < D) → StrsAre vs (xl9 x) → Q (.ref D) ⟨h', gg9, dd9, tk', oo9⟩) :
    wpAny (model prog w) A (call (.type "list") [.str x t]) Q E ⟨hh9, gg9, dd9, tt9, oo9⟩ := tR9 (s := ⟨hh9, gg9, dd9, tt9, oo9⟩) F N hh hsz h
theorem ln45 : True := by
  (k_with "call type:list" => (k_here; (with_reducible show wpAny _ _ (call (Value.type _) [Value.str _ _]) _ _ _); (with_reducible refine' bQ9 ?_ ?_ rfl ?_ ?_; rotate_right 4; (· k_asm); (· k_asm); (· (with_reducible assumption))); (intro _ _ _ _ _ _ _ l1 _); (try k_lt l1); (revert l1; intro _); (try k_sweep)))
  trivial
noncomputable def J15 (SL ML C : Addr) (svs mvs : List Value) (e f : Nat) (lg : List (Addr × Obj)) (m : Str → Option Value) (nx : List (Addr × Obj)) : Prop :=
  ∃ m' : Str → Option Value, m = (fun y => if y = Str.ofString "stretches" then some (.ref SL) else if y = Str.ofString "more" then some (.ref ML) else if y = Str.ofString "cells" then some (.ref C) else m' y) ∧ nx = (SL, W.listOf (List.toArray svs) e) :: (ML, W.listOf (List.toArray mvs) f) :: lg
noncomputable def dueN (b0 b1 : Bool) : List Str × List Str := if b0 != b1 then (if b0 then ([Str.ofString "b"], [Str.ofString "a"]) else ([Str.ofString "a"], [Str.ofString "b"])) else ([], [])
theorem vC9 {vs : List Value} {c : Str} (h : StrsAre vs [c]) : ∃ t, vs = [.str c t] := by
  cases h with | cons _ t r => cases r; exact ⟨t, rfl⟩
theorem cI9 {g h : Heap} {L : Addr} {a b : Addr × Obj} {r : List (Addr × Obj)} (N : News g L h (b :: a :: r)) : News g L h [a, b] ∧ News g L h r :=
  ⟨fun p hp => N p (by simp only [List.mem_cons, List.not_mem_nil, or_false] at hp ⊢; rcases hp with h | h <;> simp [h]), fun p hp => N p (.tail _ (.tail _ hp))⟩
theorem cn9 {g h : Heap} {L : Addr} {a b c : Addr × Obj} {r : List (Addr × Obj)} (N : News g L h [a, b, c]) (N2 : News g L h r) : News g L h (a :: b :: c :: r) := fun p hp => by
  rcases List.mem_cons.mp hp with rfl | hp
  · exact N _ (.head _)
  rcases List.mem_cons.mp hp with rfl | hp
  · exact N _ (.tail _ (.head _))
  rcases List.mem_cons.mp hp with rfl | hp
  · exact N _ (.tail _ (.tail _ (.head _)))
  · exact N2 p hp
theorem nt9 {a b : Addr × Obj} {r : List (Addr × Obj)} (h1 : AllLt a.1 r) (h2 : AllLt b.1 r) : ∀ p ∈ r, ∀ q ∈ [a, b], p.1 ≠ q.1 := fun p hp q hq => by
  rcases List.mem_cons.mp hq with rfl | hq
  · exact Nat.ne_of_lt (qW9 h1 p hp)
  · rw [List.mem_singleton.mp hq]; exact Nat.ne_of_lt (qW9 h2 p hp)
noncomputable def nW9 (V : Wd) (dp un : Nat) (g : Heap) (L' fa : Addr) (cd : Value) (s : Shared) (SL ML C : Addr) (svs mvs : List Value) (ss : List Str) (mo : Nat → Bool) (e f : Nat) (lg : List (Addr × Obj)) : Prop := ∀ (st : Stmt) (sc : Scope) (hst : zS9 15 = st) (hsc : zM9 = sc) (rest : List Stmt) (gd : Option (List Code)) (A₁ : Around) (base : Heap) (Q : Flow → Shared → Prop) (hdp : dp + 40 ≤ recursionLimit) (hu : un + 400 < cLine) (B : Below A₁ base [] g) (X : (getK.heap_1 V.w.params).In g) (T : Top V.p V.loose V.mean V.mg V.mb g) (m' : Str → Option Value) (hss : StrsAre svs ss) (hmv : mvs = (List.range 8).map fun k => Value.bool (mo k)) (hs8 : ss.length = 8) (hs5 : ∀ x ∈ ss, x.length ≤ 1000) (hlaw : ∀ (k : Nat) (x y : Str), ss[k]? = some x → ss[k + 1]? = some y → vq9 (xl9 x).reverse (xl9 y) [] = dueN (mo k) (mo (k + 1))) (F : Fr g L' s.heap (fun y => if y = Str.ofString "stretches" then some (.ref SL) else if y = Str.ofString "more" then some (.ref ML) else if y = Str.ofString "cells" then some (.ref C) else m' y)) (N : News g L' s.heap ((SL, W.listOf (List.toArray svs) e) :: (ML, W.listOf (List.toArray mvs) f) :: lg)) (k : ∀ h' tk' (m' : Str → Option Value), Fr g L' h' (fun y => if y = Str.ofString "stretches" then some (.ref SL) else if y = Str.ofString "cells" then some (.ref C) else m' y) → News g L' h' ((SL, W.listOf (List.toArray svs) e) :: lg) → wpAny (model prg V.w) (lawA sc L' fa cd dp un gd) (execs rest (zQ9 sc L' fa cd)) Q (fun _ _ => False) { s with heap := h', toks := tk' }), wpAny (model prg V.w) (lawA sc L' fa cd dp un gd) (execs (st :: rest) (zQ9 sc L' fa cd)) Q (fun _ _ => False) s
@[irreducible] noncomputable def zX9 := W18 nW9
theorem dx9 : A18 nW9 zX9 := by
  intro st sc hst hsc rest gd A₁ base Q hdp hu B X T m' hss hmv hs8 hs5 hlaw F N k
  have h2 := @id (zS9 15 = Stmt.For _ _ _ _ _) rfl
  rw [h2] at hst
  subst hst
  clear h2
  k_extra "w"
  have hsl : zX9.2.2.2.2.2.2.2.2.2.2.2.1.length = 8 := by rw [zr9 hss]; exact hs8
  have hml : zX9.2.2.2.2.2.2.2.2.2.2.2.2.1.length = 8 := by rw [hmv, List.length_map, List.length_range]
  have hsm : zX9.2.2.2.2.2.2.2.2.2.2.2.1.length ≤ 1000000 := by lia
  have hmm : zX9.2.2.2.2.2.2.2.2.2.2.2.2.1.length ≤ 1000000 := by lia
  refine' let M9 : Model := _; (?_ : wpAny M9 _ _ _ _ _)
  (try (with_reducible refine' (?_ : wpAny M9 _ _ _ _ _)))
  k_steps
  unfold zC9
  rename Fr _ _ _ _ => F0
  rename News _ _ _ _ => N0
  have R0 := (N0 _ (.head _)).1
  replace N0 := zx9 N0
  refine xP9 (n := 7) (fun _ => J15 zX9.2.2.2.2.2.2.2.2.1 zX9.2.2.2.2.2.2.2.2.2.1 zX9.2.2.2.2.2.2.2.2.2.2.1 zX9.2.2.2.2.2.2.2.2.2.2.2.1 zX9.2.2.2.2.2.2.2.2.2.2.2.2.1 zX9.2.2.2.2.2.2.2.2.2.2.2.2.2.2.2.1 zX9.2.2.2.2.2.2.2.2.2.2.2.2.2.2.2.2.1 zX9.2.2.2.2.2.2.2.2.2.2.2.2.2.2.2.2.2) rfl R0 rfl rfl F0 N0 ⟨_, zz9 rfl rfl rfl, rfl⟩ ?_ ?_
  · rintro i t m₁ nx I oI h tk hi hne hJ9 F7 N7
    k_extra "y"
    refine ex1 hJ9 fun m' hJ9 => ?_
    refine an1 hJ9 fun e9_0 e9_1 => ?_
    iterate 2 clear hJ9
    subst e9_0
    subst e9_1
    k_extra "z"
    rw [show (1 : Int) + (i : Nat) = ((i + 1 : Nat) : Int) by lia] at F7
    have hz0 : ((i + 1 : Nat) : Int) - 1 = (i : Int) := by lia
    replace N7 : News zX9.2.2.2.1 zX9.2.2.2.2.1 h ((zX9.2.2.2.2.2.2.2.2.1, W.listOf (List.toArray zX9.2.2.2.2.2.2.2.2.2.2.2.1) zX9.2.2.2.2.2.2.2.2.2.2.2.2.2.2.2.1) :: (zX9.2.2.2.2.2.2.2.2.2.1, W.listOf (List.toArray zX9.2.2.2.2.2.2.2.2.2.2.2.2.1) zX9.2.2.2.2.2.2.2.2.2.2.2.2.2.2.2.2.1) :: (zX9.2.2.2.2.2.2.2.2.2.2.2.2.2.2.2.2.2 ++ [(I, oI)])) := N7
    k_extra "y"
    refine ex2 (xW9 hss (List.getElem?_eq_getElem (show i < zX9.2.2.2.2.2.2.2.2.2.2.2.1.length by lia))) fun x tx hJ9 => ?_
    refine an1 hJ9 fun hx1 hx2 => ?_
    clear hJ9
    k_extra "z"
    k_extra "y"
    refine ex2 (xW9 hss (List.getElem?_eq_getElem (show i + 1 < zX9.2.2.2.2.2.2.2.2.2.2.2.1.length by lia))) fun y ty hJ9 => ?_
    refine an1 hJ9 fun hy1 hy2 => ?_
    clear hJ9
    k_extra "z"
    have hy : zX9.2.2.2.2.2.2.2.2.2.2.2.1[i + 1]? = some (.str y ty) := by rw [List.getElem?_eq_getElem (show i + 1 < zX9.2.2.2.2.2.2.2.2.2.2.2.1.length by lia), hy1]
    have hx : zX9.2.2.2.2.2.2.2.2.2.2.2.1[i]? = some (.str x tx) := by rw [List.getElem?_eq_getElem (show i < zX9.2.2.2.2.2.2.2.2.2.2.2.1.length by lia), hx1]
    have hm0 : zX9.2.2.2.2.2.2.2.2.2.2.2.2.1[i]? = some (.bool (zX9.2.2.2.2.2.2.2.2.2.2.2.2.2.2.1 i)) := by rw [hmv, List.getElem?_map, List.getElem?_range (by lia)]; rfl
    have hm1 : zX9.2.2.2.2.2.2.2.2.2.2.2.2.1[i + 1]? = some (.bool (zX9.2.2.2.2.2.2.2.2.2.2.2.2.2.2.1 (i + 1))) := by rw [hmv, List.getElem?_map, List.getElem?_range (by lia)]; rfl
    have hl := hlaw i x y hx2 hy2
    have hxl : x.length ≤ 1000 := hs5 x (List.mem_of_getElem? hx2)
    have hyl : y.length ≤ 1000 := hs5 y (List.mem_of_getElem? hy2)
    revert hm0 hl
    induction (zX9.2.2.2.2.2.2.2.2.2.2.2.2.2.2.1 i) using gen1
    rename_i b0; intro hm0 hl
    revert hm1 hl
    induction (zX9.2.2.2.2.2.2.2.2.2.2.2.2.2.2.1 (i + 1)) using gen1
    rename_i b1; intro hm1 hl
    clear F0 N0 R0 hx1 hy1 hlaw hmv
    cases b0 <;> cases b1
    all_goals (
      (try (with_reducible refine' (?_ : wpAny M9 _ _ _ _ _)))
      k_steps
      unfold zC9
      rename Fr _ _ _ _ => F1
      rename News _ _ _ _ => N1
      rename_i D1 vs1 n1 h1 tk1 hs1 l1 _ D2 vs2 n2 h2 tk2 hs2 l2
      obtain ⟨No, Nr⟩ := cI9 N1
      refine jM9 (nl9 zX9.1 D1 D2 vs1 vs2 n1 n2 _ _ (Nat.ne_of_lt l2.1) hs1 hs2 (by simp only [xl9, List.length_map]; exact hxl) (by simp only [xl9, List.length_map]; exact hyl) _ hl) B F1 No Nr (nt9 l1 l2.2) X T rfl (by first | exact limD (by assumption) (by decide) | lia) (by first | exact limU (by assumption) (by decide) | exact limV (by assumption) (by decide) | lia) trivial ?_
      rintro v nx h3 tk3 F2 N2 N3 hJ9 p1 p2
      k_extra "y"
      refine ex6 hJ9 fun T1 M1 vm em va ea hJ9 => ?_
      refine an6 hJ9 fun e9_0 e9_1 hvm hva q1 q2 q3 => ?_
      iterate 2 clear hJ9
      subst e9_0
      subst e9_1
      k_extra "z"
      replace N2 := cn9 N2 N3
      clear F1 N1 No Nr N3 p1 p2 l1 l2 hs1 hs2 hl
      first
      | (replace hvm : StrsAre vm [] := hvm; replace hva : StrsAre va [] := hva; cases hvm; cases hva)
      | (replace hvm : StrsAre vm [Str.ofString "a"] := hvm; replace hva : StrsAre va [Str.ofString "b"] := hva; obtain ⟨_, rfl⟩ := vC9 hvm; obtain ⟨_, rfl⟩ := vC9 hva)
      | (replace hvm : StrsAre vm [Str.ofString "b"] := hvm; replace hva : StrsAre va [Str.ofString "a"] := hva; obtain ⟨_, rfl⟩ := vC9 hvm; obtain ⟨_, rfl⟩ := vC9 hva)
      (try (with_reducible refine' (?_ : wpAny M9 _ _ _ _ _)))
      k_steps
      rename Fr _ _ _ _ => F3
      rename News _ _ _ _ => N3
      refine ix4 _ _ _ _ (⟨rfl, F3, fun p hp => N3 p ?_, hne, ix1 _ (⟨zz9 rfl rfl rfl, rfl⟩)⟩)
      replace hp : p ∈ (zX9.2.2.2.2.2.2.2.2.1, W.listOf (List.toArray zX9.2.2.2.2.2.2.2.2.2.2.2.1) zX9.2.2.2.2.2.2.2.2.2.2.2.2.2.2.2.1) :: (zX9.2.2.2.2.2.2.2.2.2.1, W.listOf (List.toArray zX9.2.2.2.2.2.2.2.2.2.2.2.2.1) zX9.2.2.2.2.2.2.2.2.2.2.2.2.2.2.2.2.1) :: (zX9.2.2.2.2.2.2.2.2.2.2.2.2.2.2.2.2.2 ++ [(I, oI)]) := hp
      repeat (first | exact hp | refine List.Mem.tail _ ?_))
  · rintro m₁ nx h tk hJ9 F7 N7
    k_extra "y"
    refine ex1 hJ9 fun m' hJ9 => ?_
    refine an1 hJ9 fun e9_0 e9_1 => ?_
    iterate 2 clear hJ9
    subst e9_0
    subst e9_1
    k_extra "z"
    exact k _ _ _ (yU9 F7 rfl rfl) (qv9 N7)
theorem jY9 (V dp un g L' fa cd s SL ML C svs mvs ss mo e f lg : _) : nW9 V dp un g L' fa cd s SL ML C svs mvs ss mo e f lg := H18 (by unfold zX9; rfl) @dx9 V dp un g L' fa cd s SL ML C svs mvs ss mo e f lg
end
section
theorem tr9 (x : Int) {k : Int} (hk : 0 ≤ k) : x.fdiv k = x / k := Int.fdiv_eq_ediv_of_nonneg _ hk
theorem jX9 (V : Wd) (st : Stmt) (sc : Scope) (hst : zS9 16 = st) (hsc : zM9 = sc) (rest : List Stmt) (dp un : Nat) (gd : Option (List Code)) (A₁ : Around) (base g : Heap) (L' fa : Addr) (cd : Value) (s : Shared) (Q : Flow → Shared → Prop) 
    (hdp : dp + 40 ≤ recursionLimit) (hu : un + 400 < cLine) (B : Below A₁ base [] g) (X : (getK.heap_1 V.w.params).In g) (T : Top V.p V.loose V.mean V.mg V.mb g)
    (m' : Str → Option Value) (C : Addr) (e : Nat) (c0 c1 c2 c3 c4 c5 : Int) (t0 t1 t2 t3 t4 t5 : Tok) (h0 : 0 ≤ c5) (lg : List (Addr × Obj)) (v4 v7 : Option Value) (on oct : Obj) (hon : on.data = .cell v4) (hoct : oct.data = .cell v7) (hC4 : @Ne Nat C (L' + 1 + 1 + 1 + 1)) (hC7 : @Ne Nat C (L' + 1 + 1 + 1 + 1 + 1 + 1 + 1)) (hl4 : AllNe (L' + 1 + 1 + 1 + 1) lg) (hl7 : AllNe (L' + 1 + 1 + 1 + 1 + 1 + 1 + 1) lg)
    (F : Fr g L' s.heap (fun y => if y = Str.ofString "cells" then some (.ref C) else m' y)) (N : News g L' s.heap ((C, W.listOf [Value.int c0 t0, .int c1 t1, .int c2 t2, .int c3 t3, .int c4 t4, .int c5 t5].toArray e) :: (L' + 1 + 1 + 1 + 1, on) :: (L' + 1 + 1 + 1 + 1 + 1 + 1 + 1, oct) :: lg))
    (k : ∀ (cn n : Int) t t' on' oct' h' tk', 1 ≤ cn → cn ≤ 4 → 0 ≤ n → on'.data = .cell (some (.int n t)) → oct'.data = .cell (some (.int cn t')) → Fr g L' h' (fun y => if y = Str.ofString "cells" then some (.ref C) else m' y) → News g L' h' ((L' + 1 + 1 + 1 + 1, on') :: (L' + 1 + 1 + 1 + 1 + 1 + 1 + 1, oct') :: lg) → wpAny (model prg V.w) (lawA sc L' fa cd dp un gd) (execs rest (zQ9 sc L' fa cd)) Q (fun _ _ => False) { s with heap := h', toks := tk' }) :
    wpAny (model prg V.w) (lawA sc L' fa cd dp un gd) (execs (st :: rest) (zQ9 sc L' fa cd)) Q (fun _ _ => False) s := by
  have h2 := @id (zS9 16 = Stmt.Assign _ _ _) rfl
  rw [h2] at hst
  subst hst
  clear h2
  k_extra "w"
  obtain ⟨x, hx⟩ : ∃ x, c5.fmod 4 = x := ⟨_, rfl⟩
  obtain ⟨n, hn⟩ : ∃ x, c5.fdiv 4 = x := ⟨_, rfl⟩
  have bx : 0 ≤ x ∧ x < 4 := by rw [← hx]; exact ux9 _ (by decide)
  have bn : 0 ≤ n := by rw [← hn, tr9 _ (by decide)]; exact Int.ediv_nonneg (by assumption) (by decide)
  k_extra "v"
  k_extra "u"
  k_steps
  rename Fr _ _ _ _ => F1
  rename News _ _ _ _ => N1
  exact k (1 + x) n _ _ _ _ _ _ (by lia) (by lia) bn (by assumption) (by assumption) F1 (zx9 (zx9 N1))
end
section
theorem uf9 {α β : Type} (f : α → β) (l : List α) {i : Nat} {x : α} (h : l[i]? = some x) : (l.take (i + 1)).map f = (l.take i).map f ++ [f x] := by
  rw [List.take_add_one, h]; simp
noncomputable def nV9 (V : Wd) (rest : List Stmt) (dp un : Nat) (gd : Option (List Code)) (g : Heap) (L' fa : Addr) (cd : Value) (s : Shared) (Q : Flow → Shared → Prop) (m' : Str → Option Value) (K : Addr) (kvs : List Value) (ks : List Int) (n6 : Nat) (D Tn : Int) (cn : Nat) (od ot oc oct : Obj) (lg : List (Addr × Obj)) : Prop := ∀ (st : Stmt) (sc : Scope) (hst : zS9 17 = st) (hsc : zM9 = sc) (A₁ : Around) (base : Heap) (hdp : dp + 40 ≤ recursionLimit) (hu : un + 400 < cLine) (B : Below A₁ base [] g) (X : (getK.heap_1 V.w.params).In g) (T : Top V.p V.loose V.mean V.mg V.mb g) (hks : IntsAre kvs ks) (hk6 : ks.length = 6) (hc1 : 1 ≤ cn) (hc4 : cn ≤ 4) (tD tT tc : Tok) (hod : od.data = .cell (some (.int D tD))) (hot : ot.data = .cell (some (.int Tn tT))) (hoc : oc.data = .cell (some (.ref K))) (hoct : oct.data = .cell (some (.int (cn : Int) tc))) (F : Fr g L' s.heap m') (N : News g L' s.heap ((K, W.listOf (List.toArray kvs) n6) :: (L' + 1, od) :: (L' + 1 + 1, ot) :: (L' + 1 + 1 + 1, oc) :: (L' + 1 + 1 + 1 + 1 + 1 + 1 + 1, oct) :: lg)) (k : ∀ (HL : Addr) (hvs : List Value) (cs : List Int) h' tk', StrsAre hvs (cs.map fun c => wordS Tn D c cn) → cs.Perm (ks.take (cn + 1)) → cs.Pairwise (· ≤ ·) → Fr g L' h' (fun y => if y = Str.ofString "heads" then some (.ref HL) else m' y) → News g L' h' ((HL, W.listOf hvs.toArray hvs.length) :: (K, W.listOf (List.toArray kvs) n6) :: (L' + 1, od) :: (L' + 1 + 1, ot) :: (L' + 1 + 1 + 1, oc) :: (L' + 1 + 1 + 1 + 1 + 1 + 1 + 1, oct) :: lg) → wpAny (model prg V.w) (lawA sc L' fa cd dp un gd) (execs rest (zQ9 sc L' fa cd)) Q (fun _ _ => False) { s with heap := h', toks := tk' }), wpAny (model prg V.w) (lawA sc L' fa cd dp un gd) (execs (st :: rest) (zQ9 sc L' fa cd)) Q (fun _ _ => False) s
@[irreducible] noncomputable def xQ9 := W24 nV9
theorem dw9 : A24 nV9 xQ9 := by
  intro st sc hst hsc A₁ base hdp hu B X T hks hk6 hc1 hc4 tD tT tc hod hot hoc hoct F N k
  have h2 := @id (zS9 17 = Stmt.Assign _ _ _) rfl
  rw [h2] at hst
  subst hst
  clear h2
  k_extra "w"
  have hkl : xQ9.2.2.2.2.2.2.2.2.2.2.2.2.2.1.length = 6 := by rw [zN9 hks]; exact hk6
  k_extra "v"
  k_extra "u"
  k_steps
  unfold zC9
  refine qD9 F rfl rfl rfl rfl (by decide) rfl (by decide) (by decide) rfl rfl ?_
  k_extra "u"
  k_steps
  unfold zC9
  rename Fr _ _ _ _ => F1
  rename News _ _ _ _ => N1
  rename_i DS sv cs cc hh hI he hp ho hb hp0 l1 s1
  clear hb s1 hp0
  have hcl : cs.length ≤ 6 := by rw [he, List.length_take]; lia
  have hsvl : sv.length = cs.length := zN9 hI
  refine xV9 (J := fun i ys => StrsAre ys ((cs.take i).map fun c => wordS xQ9.2.2.2.2.2.2.2.2.2.2.2.2.2.2.2.2.2.1 xQ9.2.2.2.2.2.2.2.2.2.2.2.2.2.2.2.2.1 c xQ9.2.2.2.2.2.2.2.2.2.2.2.2.2.2.2.2.2.2.1)) rfl F1 N1 (.head _) (by rw [sizeLine_eq]; lia) .nil ?hlen ?turn ?fin
  case hlen => intro i ys h; rw [zr9 h, List.length_map, List.length_take]; exact Nat.min_le_left _ _
  case turn =>
    intro g1 I hI1 i v ys C D3 ow oJ h tk E' hi' hP hJ hO F2 N2 hID hDC
    k_extra "y"
    refine ex2 (hO) fun oC mC hJ9 => ?_
    refine an2 hJ9 fun e9_0 hns hx => ?_
    clear hJ9
    try clear hO
    subst e9_0
    k_extra "z"
    k_extra "y"
    refine ex2 (zt9 hI hP) fun z t1 hJ9 => ?_
    refine an1 hJ9 fun e9_0 hz => ?_
    clear hJ9
    subst e9_0
    k_extra "z"
    dsimp only [led, List.cons_append, List.nil_append] at N2
    clear F1 N1
    simp only [LTest, List.foldr_cons, List.foldr_nil]
    k_extra "u"
    k_steps
    unfold zC9
    rename Fr _ _ _ _ => F3
    rename News _ _ _ _ => N3
    refine use0 (uD9 xQ9.1 z xQ9.2.2.2.2.2.2.2.2.2.2.2.2.2.2.2.2.2.1 xQ9.2.2.2.2.2.2.2.2.2.2.2.2.2.2.2.2.1 xQ9.2.2.2.2.2.2.2.2.2.2.2.2.2.2.2.2.2.2.1 (by lia) _ _ _ _) B F3 N3 X T rfl (by first | exact limD (by assumption) (by decide) | lia) (by first | exact limU (by assumption) (by decide) | exact limV (by assumption) (by decide) | lia) trivial ?_
    rintro _ h4 tk4 F4 N4 _ ⟨t4, rfl⟩
    refine ix2 _ _ (⟨rfl, F4, N4, ?_⟩)
    rw [uf9 _ _ hz]
    exact zd9 hJ (.cons _ _ .nil)
  case fin =>
    intro g1 ys hJ D3 h tk F2 N2 hlD
    have hJ2 : StrsAre ys (cs.map fun c => wordS xQ9.2.2.2.2.2.2.2.2.2.2.2.2.2.2.2.2.2.1 xQ9.2.2.2.2.2.2.2.2.2.2.2.2.2.2.2.2.1 c xQ9.2.2.2.2.2.2.2.2.2.2.2.2.2.2.2.2.2.2.1) := by
      have := hJ
      rw [List.take_of_length_le (by rw [hsvl]; exact Nat.le_refl _)] at this
      exact this
    have hpp : cs.Perm (xQ9.2.2.2.2.2.2.2.2.2.2.2.2.2.2.1.take (xQ9.2.2.2.2.2.2.2.2.2.2.2.2.2.2.2.2.2.2.1 + 1)) := hp
    exact k _ _ _ _ _ hJ2 hpp ho F2 (qv9 (qv9 N2))
theorem jW9 (V rest dp un gd g L' fa cd s Q m' K kvs ks n6 D Tn cn od ot oc oct lg : _) : nV9 V rest dp un gd g L' fa cd s Q m' K kvs ks n6 D Tn cn od ot oc oct lg := H24 (by unfold xQ9; rfl) @dw9 V rest dp un gd g L' fa cd s Q m' K kvs ks n6 D Tn cn od ot oc oct lg
end
section
theorem tq9 (x : Int) {k : Int} (hk : 0 ≤ k) : x.fdiv k = x / k := Int.fdiv_eq_ediv_of_nonneg _ hk
theorem ln46 : True := by
  (k_with "call builtin:len" => (k_here; first | ((with_reducible show wpAny _ _ (call (Value.builtin "len") [Value.str _ _]) _ _ _); k_dflt (refine lenTo (by with_reducible assumption) (by lia) ?_); (intro _ _)) | ((with_reducible show wpAny _ _ (call (Value.builtin "len") [Value.ref _]) _ _ _); k_dflt (refine bR9 (by k_asm) (by k_mem) (by with_reducible assumption) (by lia) ?_); (intro _ _))))
  (k_with "subscriptTail Name BinOp ref int" => (k_here; (with_reducible show wpAny _ _ (subscriptTail _ _ (Value.ref _) (Value.int _ _)) _ _ _); (k_dflt (refine qO9 (by k_asm) (by k_mem) _ rfl (by with_reducible assumption) (by with_reducible assumption) ?_))))
  trivial
theorem jV9 (V : Wd) (st : Stmt) (sc : Scope) (hst : zS9 18 = st) (hsc : zM9 = sc) (rest : List Stmt) (dp un : Nat) (gd : Option (List Code)) (A₁ : Around) (base g : Heap) (L' fa : Addr) (cd : Value) (s : Shared) (Q : Flow → Shared → Prop) 
    (hdp : dp + 40 ≤ recursionLimit) (hu : un + 400 < cLine) (B : Below A₁ base [] g) (X : (getK.heap_1 V.w.params).In g) (T : Top V.p V.loose V.mean V.mg V.mb g)
    (m' : Str → Option Value) (HL : Addr) (e : Nat) (hvs : List Value) (hs : List Str) (hst2 : StrsAre hvs hs) (hh0 : hs ≠ []) (hh1 : hs.length ≤ 6) (lg : List (Addr × Obj)) (n : Int) (tn : Tok) (hn0 : 0 ≤ n) (v8 : Option Value) (on oh : Obj) (hon : on.data = .cell (some (.int n tn))) (hoh : oh.data = .cell v8) (hC4 : @Ne Nat HL (L' + 1 + 1 + 1 + 1)) (hC8 : @Ne Nat HL (L' + 1 + 1 + 1 + 1 + 1 + 1 + 1 + 1)) (hl4 : AllNe (L' + 1 + 1 + 1 + 1) lg) (hl8 : AllNe (L' + 1 + 1 + 1 + 1 + 1 + 1 + 1 + 1) lg)
    (F : Fr g L' s.heap (fun y => if y = Str.ofString "heads" then some (.ref HL) else m' y)) (N : News g L' s.heap ((HL, W.listOf (List.toArray hvs) e) :: (L' + 1 + 1 + 1 + 1, on) :: (L' + 1 + 1 + 1 + 1 + 1 + 1 + 1 + 1, oh) :: lg))
    (k : ∀ (i : Nat) (h : Str) (n : Int) t t' on' oh' h' tk', hs[i]? = some h → 0 ≤ n → on'.data = .cell (some (.int n t)) → oh'.data = .cell (some (.str h t')) → Fr g L' h' (fun y => if y = Str.ofString "heads" then some (.ref HL) else m' y) → News g L' h' ((HL, W.listOf (List.toArray hvs) e) :: (L' + 1 + 1 + 1 + 1, on') :: (L' + 1 + 1 + 1 + 1 + 1 + 1 + 1 + 1, oh') :: lg) → wpAny (model prg V.w) (lawA sc L' fa cd dp un gd) (execs rest (zQ9 sc L' fa cd)) Q (fun _ _ => False) { s with heap := h', toks := tk' }) :
    wpAny (model prg V.w) (lawA sc L' fa cd dp un gd) (execs (st :: rest) (zQ9 sc L' fa cd)) Q (fun _ _ => False) s := by
  have h2 := @id (zS9 18 = Stmt.Assign _ _ _) rfl
  rw [h2] at hst
  subst hst
  clear h2
  k_extra "w"
  have hlen : hvs.length = hs.length := zr9 hst2
  obtain ⟨c, hc⟩ : ∃ c, c = hs.length := ⟨_, rfl⟩
  have hc0 : 0 < c := by rw [hc]; exact List.length_pos_iff.mpr hh0
  rw [← hc] at hlen
  obtain ⟨x, hx⟩ : ∃ x, n.fmod 60 = x := ⟨_, rfl⟩
  have hcz : (c : Int) ≠ 0 := by lia
  have bx : 0 ≤ x.fmod (c : Int) ∧ x.fmod (c : Int) < (c : Int) := by rw [Int.fmod_eq_emod_of_nonneg _ (Int.natCast_nonneg _)]; exact ⟨Int.emod_nonneg _ hcz, Int.emod_lt_of_pos _ (by lia)⟩
  obtain ⟨i, hi⟩ : ∃ i : Nat, x.fmod (c : Int) = (i : Int) := Int.eq_ofNat_of_zero_le bx.1
  obtain ⟨n2, hn2⟩ : ∃ x, n.fdiv 60 = x := ⟨_, rfl⟩
  have bn : 0 ≤ n2 := by rw [← hn2, tq9 _ (by decide)]; exact Int.ediv_nonneg (by assumption) (by decide)
  have hil : i < hvs.length := by lia
  k_extra "y"
  refine ex2 (xW9 hst2 (List.getElem?_eq_getElem hil)) fun h th hJ9 => ?_
  refine an1 hJ9 fun hz hz2 => ?_
  clear hJ9
  k_extra "z"
  have hz3 : hvs[i]? = some (.str h th) := by rw [List.getElem?_eq_getElem hil, hz]
  have hkl : hvs.length ≤ 1000000 := by lia
  clear hz
  k_extra "v"
  k_extra "u"
  k_steps
  rename Fr _ _ _ _ => F1
  rename News _ _ _ _ => N1
  exact k i h n2 _ _ _ _ _ _ hz2 bn (by assumption) (by assumption) F1 (zx9 N1)
end
section
theorem ln47 : True := by
  (k_with "call builtin:len" => (k_here; (with_reducible show wpAny _ _ (call (Value.builtin "len") [Value.ref _]) _ _ _); (refine' lenL ?_ ?_ ?_ ?_; rotate_right 4; (· k_asm); (· k_mem); (· (first | assumption | ((simp only [List.size_toArray, List.length_replicate]); lia)))); (intro _ _); (try simp only [List.size_toArray, List.length_replicate]); (try dsimp only)))
  (k_with "call type:range" => (k_here; (with_reducible show wpAny _ _ (call (Value.type "range") [Value.int _ _]) _ _ _); k_dflt (refine' qL9 ?_ ?_ ?_; rotate_right 3; (· k_asm); (· k_asm)); intro _ _ _ _ _ _ _ l1; (try k_lt l1); (revert l1; intro _); (try k_sweep)))
  (k_with "subscriptTail Name BinOp ref int" => (k_here; (with_reducible show wpAny _ _ (subscriptTail _ _ (Value.ref _) (Value.int _ _)) _ _ _); (k_dflt (refine vW9 (by k_asm) (by k_mem) rfl (by rfl) (by decide) ?_))))
  trivial
noncomputable def nU9 (V : Wd) (rest : List Stmt) (dp un : Nat) (gd : Option (List Code)) (A₁ : Around) (g : Heap) (L' fa : Addr) (cd : Value) (s : Shared) (Q : Flow → Shared → Prop) (m' : Str → Option Value) (lg : List (Addr × Obj)) (n : Int) (on oct op : Obj) : Prop := ∀ (st : Stmt) (sc : Scope) (hst : zS9 19 = st) (hsc : zM9 = sc) (base : Heap) (hdp : dp + 40 ≤ recursionLimit) (hu : un + 400 < cLine) (B : Below A₁ base [] g) (X : (getK.heap_1 V.w.params).In g) (T : Top V.p V.loose V.mean V.mg V.mb g) (cn : Int) (tn tc : Tok) (hn0 : 0 ≤ n) (hc1 : 1 ≤ cn) (hc4 : cn ≤ 4) (v9 : Option Value) (hon : on.data = .cell (some (.int n tn))) (hoct : oct.data = .cell (some (.int cn tc))) (hop : op.data = .cell v9) (hl9 : AllNe (L' + 1 + 1 + 1 + 1 + 1 + 1 + 1 + 1 + 1) lg) (F : Fr g L' s.heap m') (N : News g L' s.heap ((L' + 1 + 1 + 1 + 1, on) :: (L' + 1 + 1 + 1 + 1 + 1 + 1 + 1, oct) :: (L' + 1 + 1 + 1 + 1 + 1 + 1 + 1 + 1 + 1, op) :: lg)) (k : ∀ (sa sb : Bool) (PO SO : Addr) (oP : Obj) t1 t2 op' h' tk', (sa || sb) = true → qX9 oP (zb9 sa sb cn.toNat) → op'.data = .cell (some (.ref PO)) → Fr g L' h' (fun y => if y = Str.ofString "stars" then some (.ref SO) else m' y) → News g L' h' ((PO, oP) :: (SO, tupO [.str (xc9 sa) t1, .str (xc9 sb) t2]) :: (L' + 1 + 1 + 1 + 1, on) :: (L' + 1 + 1 + 1 + 1 + 1 + 1 + 1, oct) :: (L' + 1 + 1 + 1 + 1 + 1 + 1 + 1 + 1 + 1, op') :: lg) → wpAny (model prg V.w) (lawA sc L' fa cd dp un gd) (execs rest (zQ9 sc L' fa cd)) Q (fun _ _ => False) { s with heap := h', toks := tk' }), wpAny (model prg V.w) (lawA sc L' fa cd dp un gd) (execs (st :: rest) (zQ9 sc L' fa cd)) Q (fun _ _ => False) s
@[irreducible] noncomputable def yl9 := W18 nU9
theorem dv9 : A18 nU9 yl9 := by
  intro st sc hst hsc base hdp hu B X T cn tn tc hn0 hc1 hc4 v9 hon hoct hop hl9 F N k
  have h2 := @id (zS9 19 = Stmt.Assign _ _ _) rfl
  rw [h2] at hst
  subst hst
  clear h2
  k_extra "w"
  have bx : yl9.2.2.2.2.2.2.2.2.2.2.2.2.2.2.1.fmod 3 = 0 ∨ yl9.2.2.2.2.2.2.2.2.2.2.2.2.2.2.1.fmod 3 = 1 ∨ yl9.2.2.2.2.2.2.2.2.2.2.2.2.2.2.1.fmod 3 = 2 := tri (ux9 _ (by decide)).1 (ux9 _ (by decide)).2
  obtain ⟨c, rfl⟩ := Int.eq_ofNat_of_zero_le (show 0 ≤ cn by lia)
  rcases bx with hx | hx | hx
  · k_steps
    rename Fr _ _ _ _ => F1
    rename News _ _ _ _ => N1
    refine k true true _ _ _ _ _ _ _ _ rfl ?_ (by assumption) F1 (News.pick N1 (.tail _ (.tail _ (.tail _ (.tail _ (.tail _ (.tail _ (.tail _ (.tail _ (.head _))))))))) (News.pick N1 (.tail _ (.tail _ (.tail _ (.tail _ (.head _))))) (fun p hp => N1 p (.tail _ (.tail _ (.tail _ (.tail _ (.tail _ (.tail _ (.tail _ (.tail _ (.tail _ hp))))))))))))
    rw [Int.toNat_natCast]; exact .inl ⟨_, _, _, _, rfl, by simp [zb9]; lia, by simp [zb9]⟩
  · k_steps
    rename Fr _ _ _ _ => F1
    rename News _ _ _ _ => N1
    refine k false true _ _ _ _ _ _ _ _ rfl ?_ (by assumption) F1 (News.pick N1 (.tail _ (.tail _ (.tail _ (.tail _ (.tail _ (.tail _ (.tail _ (.head _)))))))) (News.pick N1 (.tail _ (.tail _ (.tail _ (.head _)))) (fun p hp => N1 p (.tail _ (.tail _ (.tail _ (.tail _ (.tail _ (.tail _ (.tail _ (.tail _ (.tail _ hp))))))))))))
    rw [Int.toNat_natCast]; exact .inr ⟨_, _, _, rfl, rfl⟩
  · k_steps
    rename Fr _ _ _ _ => F1
    rename News _ _ _ _ => N1
    refine k true false _ _ _ _ _ _ _ _ rfl ?_ (by assumption) F1 (News.pick N1 (.tail _ (.tail _ (.tail _ (.tail _ (.tail _ (.tail _ (.head _))))))) (News.pick N1 (.tail _ (.tail _ (.head _))) (fun p hp => N1 p (.tail _ (.tail _ (.tail _ (.tail _ (.tail _ (.tail _ (.tail _ (.tail _ (.tail _ hp))))))))))))
    rw [Int.toNat_natCast]; exact .inr ⟨_, _, _, rfl, rfl⟩
theorem jU9 (V rest dp un gd A₁ g L' fa cd s Q m' lg n on oct op : _) : nU9 V rest dp un gd A₁ g L' fa cd s Q m' lg n on oct op := H18 (by unfold yl9; rfl) @dv9 V rest dp un gd A₁ g L' fa cd s Q m' lg n on oct op
end
section
noncomputable def wA9 (bz : List Int) (fb : List Bool) (k : Nat) (j : Int) : Bool := fb.getD ((bz.getD ((k : Int) + j).toNat 0) - 1).toNat false
noncomputable def dueW (bz : List Int) (fb : List Bool) (ps : List Int) (k : Nat) : Bool := !decide (ps.filter (wA9 bz fb k) = [])
theorem ln48 : True := by
  (k_with "subscriptTail Name BinOp ref int" => (k_here; (with_reducible show wpAny _ _ (subscriptTail _ _ (Value.ref _) (Value.int _ _)) _ _ _); (k_dflt (refine qO9 (by k_asm) (by k_mem) _ (by with_reducible assumption) (by with_reducible assumption) (by with_reducible assumption) ?_))))
  (k_with "compareOp NotEq ref ref" => (k_here; k_dflt (refine neI (by k_asm) (by k_mem) (by k_mem) (by with_reducible assumption) (by show _ + 64 < cLine; lia) ?_)))
  (k_with "call type:range" => (k_here; (with_reducible show wpAny _ _ (call (Value.type "range") [Value.int _ _]) _ _ _); k_dflt (refine' qL9 ?_ ?_ ?_; rotate_right 3; (· k_asm); (· k_asm)); intro _ _ _ _ _ _ _ l1; (try k_lt l1); (revert l1; intro _); (try k_sweep)))
  trivial
noncomputable def nP9 (V : Wd) (rest : List Stmt) (dp un : Nat) (gd : Option (List Code)) (A₁ : Around) (base g : Heap) (L' fa : Addr) (cd : Value) (s : Shared) (Q : Flow → Shared → Prop) (m' : Str → Option Value) (BL FL PO : Addr) (bvs fvs : List Value) (bz : List Int) (sa sb : Bool) (cn : Nat) (oP : Obj) (e f : Nat) (op ofi ob : Obj) (lg : List (Addr × Obj)) : Prop := ∀ (st : Stmt) (sc : Scope) (hst : zS9 24 = st) (hsc : zM9 = sc) (hdp : dp + 40 ≤ recursionLimit) (hu : un + 400 < cLine) (B : Below A₁ base [] g) (X : (getK.heap_1 V.w.params).In g) (T : Top V.p V.loose V.mean V.mg V.mb g) (fb : List Bool) (hbz : IntsAre bvs bz) (hb13 : bz.length = 13) (hfv : fvs = fb.map Value.bool) (hfl : fb.length ≤ 6) (hbb : ∀ z ∈ bz, 1 ≤ z ∧ z ≤ (fb.length : Int)) (hc4 : cn ≤ 4) (hPO : qX9 oP (zb9 sa sb cn)) (hop : op.data = .cell (some (.ref PO))) (hof : ofi.data = .cell (some (.ref FL))) (hob : ob.data = .cell (some (.ref BL))) (F : Fr g L' s.heap m') (N : News g L' s.heap ((PO, oP) :: (BL, W.listOf (List.toArray bvs) e) :: (FL, W.listOf (List.toArray fvs) f) :: (L' + 1 + 1 + 1 + 1 + 1 + 1 + 1 + 1 + 1, op) :: (L' + 1 + 1 + 1 + 1 + 1 + 1 + 1 + 1 + 1 + 1 + 1, ofi) :: (L' + 1 + 1 + 1 + 1 + 1 + 1 + 1 + 1 + 1 + 1 + 1 + 1, ob) :: lg)) (k : ∀ (DL : Addr) (ys : List Value) h' tk', ys = (List.range 8).map (fun k => Value.bool (dueW bz fb (zb9 sa sb cn) k)) → Fr g L' h' (fun y => if y = Str.ofString "due" then some (.ref DL) else m' y) → News g L' h' ((DL, W.listOf ys.toArray ys.length) :: (PO, oP) :: (BL, W.listOf (List.toArray bvs) e) :: (FL, W.listOf (List.toArray fvs) f) :: (L' + 1 + 1 + 1 + 1 + 1 + 1 + 1 + 1 + 1, op) :: (L' + 1 + 1 + 1 + 1 + 1 + 1 + 1 + 1 + 1 + 1 + 1, ofi) :: (L' + 1 + 1 + 1 + 1 + 1 + 1 + 1 + 1 + 1 + 1 + 1 + 1, ob) :: lg) → wpAny (model prg V.w) (lawA sc L' fa cd dp un gd) (execs rest (zQ9 sc L' fa cd)) Q (fun _ _ => False) { s with heap := h', toks := tk' }), wpAny (model prg V.w) (lawA sc L' fa cd dp un gd) (execs (st :: rest) (zQ9 sc L' fa cd)) Q (fun _ _ => False) s
@[irreducible] noncomputable def zc9 := W30 nP9
theorem dp9 : A30 nP9 zc9 := by
  intro st sc hst hsc hdp hu B X T fb hbz hb13 hfv hfl hbb hc4 hPO hop hof hob F N k
  have h2 := @id (zS9 24 = Stmt.Assign _ _ _) rfl
  rw [h2] at hst
  subst hst
  clear h2
  k_extra "w"
  have hbl : zc9.2.2.2.2.2.2.2.2.2.2.2.2.2.2.2.2.2.1.length = 13 := by rw [zN9 hbz]; exact hb13
  have hbm : zc9.2.2.2.2.2.2.2.2.2.2.2.2.2.2.2.2.2.1.length ≤ 1000000 := by lia
  have hfm : zc9.2.2.2.2.2.2.2.2.2.2.2.2.2.2.2.2.2.2.1.length ≤ 1000000 := by rw [hfv, List.length_map]; lia
  have hpm := @xp9 zc9.2.2.2.2.2.2.2.2.2.2.2.2.2.2.2.2.2.2.2.2.1 zc9.2.2.2.2.2.2.2.2.2.2.2.2.2.2.2.2.2.2.2.2.2.1 zc9.2.2.2.2.2.2.2.2.2.2.2.2.2.2.2.2.2.2.2.2.2.2.1 hc4
  have hp6 := qn9 zc9.2.2.2.2.2.2.2.2.2.2.2.2.2.2.2.2.2.2.2.2.1 zc9.2.2.2.2.2.2.2.2.2.2.2.2.2.2.2.2.2.2.2.2.2.1 zc9.2.2.2.2.2.2.2.2.2.2.2.2.2.2.2.2.2.2.2.2.2.2.1
  k_extra "v"
  k_extra "u"
  k_steps
  unfold zC9
  refine yC9 F rfl rfl rfl rfl ⟨fun _ _ => rfl, fun _ => rfl⟩ rfl (by decide) (by decide) rfl rfl ?_
  k_extra "u"
  k_steps
  unfold zC9
  rename Fr _ _ _ _ => F1
  rename News _ _ _ _ => N1
  refine xR9 (a := 0) (b := 8) (n := 8) (J := fun i ys => ys = (List.range i).map (fun k => Value.bool (dueW zc9.2.2.2.2.2.2.2.2.2.2.2.2.2.2.2.2.2.2.2.1 fb (zb9 zc9.2.2.2.2.2.2.2.2.2.2.2.2.2.2.2.2.2.2.2.2.1 zc9.2.2.2.2.2.2.2.2.2.2.2.2.2.2.2.2.2.2.2.2.2.1 zc9.2.2.2.2.2.2.2.2.2.2.2.2.2.2.2.2.2.2.2.2.2.2.1) k))) rfl (N1 _ (.head _)).1 rfl rfl (by rw [sizeLine_eq]; lia) F1 N1 rfl ?hlen ?turn ?fin
  case hlen => intro i ys h; rw [h, List.length_map, List.length_range]; exact Nat.le_refl _
  case turn =>
    intro g1 I hI1 i v ys C D3 ow oJ h tk E' hi' hP hJ hO F2 N2 hID hDC
    k_extra "y"
    refine ex2 (hO) fun oC oX hJ9 => ?_
    refine an2 hJ9 fun e9_0 hns hx => ?_
    clear hJ9
    try clear hO
    subst e9_0
    k_extra "z"
    obtain ⟨t, hv⟩ := hP
    rw [Int.zero_add] at hv
    subst hv
    dsimp only [led, List.cons_append, List.nil_append] at N2
    clear F1 N1
    simp only [LTest, List.foldr_cons, List.foldr_nil]
    k_extra "u"
    k_steps
    unfold zC9
    rename Fr _ _ _ _ => F3
    refine xj9 F3 rfl rfl (by decide) rfl (by decide) (by decide) ?_
    k_extra "u"
    k_steps
    unfold zC9
    rename Fr _ _ _ _ => F4
    rename News _ _ _ _ => N4
    refine wM9 (J := fun q ys => IntsAre ys (((zb9 zc9.2.2.2.2.2.2.2.2.2.2.2.2.2.2.2.2.2.2.2.2.1 zc9.2.2.2.2.2.2.2.2.2.2.2.2.2.2.2.2.2.2.2.2.2.1 zc9.2.2.2.2.2.2.2.2.2.2.2.2.2.2.2.2.2.2.2.2.2.2.1).take q).filter (wA9 zc9.2.2.2.2.2.2.2.2.2.2.2.2.2.2.2.2.2.2.2.1 fb i))) rfl F4 N4 (by k_mem) hPO (by lia) .nil ?hlen2 ?turn2 ?fin2
    case hlen2 => intro i ys h; rw [zN9 h]; exact Nat.le_trans (List.length_filter_le _ _) (by rw [List.length_take]; exact Nat.min_le_left _ _)
    case turn2 =>
      intro g2 I2 hI2 j v2 zs C4 D4 ow4 oJ4 h4 tk4 E4 hj hP4 hJ4 hO4 F5 N5 hID4 hDC4
      k_extra "y"
      refine ex2 (hO4) fun oC4 mC4 hJ9 => ?_
      refine an2 hJ9 fun e9_0 hns4 hx4 => ?_
      clear hJ9
      try clear hO4
      subst e9_0
      k_extra "z"
      k_extra "y"
      refine ex2 (hP4) fun kz tz hJ9 => ?_
      refine an1 hJ9 fun hkz e9_0 => ?_
      clear hJ9
      try clear hP4
      subst e9_0
      k_extra "z"
      dsimp only [led, List.cons_append, List.nil_append] at N5
      obtain ⟨hk0, hk5⟩ := hpm hkz
      obtain ⟨p, hp⟩ : ∃ p : Nat, (i : Int) + kz = (p : Int) := ⟨((i : Int) + kz).toNat, (Int.toNat_of_nonneg (by lia)).symm⟩
      k_extra "y"
      refine ex2 (zt9 hbz (List.getElem?_eq_getElem (show p < zc9.2.2.2.2.2.2.2.2.2.2.2.2.2.2.2.2.2.1.length by lia))) fun z tz2 hJ9 => ?_
      refine an1 hJ9 fun hz1 hz2 => ?_
      clear hJ9
      k_extra "z"
      have hbv : zc9.2.2.2.2.2.2.2.2.2.2.2.2.2.2.2.2.2.1[p]? = some (.int z tz2) := by rw [List.getElem?_eq_getElem (show p < zc9.2.2.2.2.2.2.2.2.2.2.2.2.2.2.2.2.2.1.length by lia), hz1]
      have hzb := hbb z (List.mem_of_getElem? hz2)
      obtain ⟨q, hq⟩ : ∃ q : Nat, z - 1 = (q : Int) := ⟨(z - 1).toNat, (Int.toNat_of_nonneg (by lia)).symm⟩
      obtain ⟨fv, hfv1⟩ : ∃ fv, fb[q]? = some fv := ⟨_, List.getElem?_eq_getElem (show q < fb.length by lia)⟩
      have hfv2 : zc9.2.2.2.2.2.2.2.2.2.2.2.2.2.2.2.2.2.2.1[q]? = some (.bool fv) := by rw [hfv, List.getElem?_map, hfv1]; rfl
      have hde : wA9 zc9.2.2.2.2.2.2.2.2.2.2.2.2.2.2.2.2.2.2.2.1 fb i kz = fv := by
        unfold wA9
        rw [hp, Int.toNat_natCast, List.getD_eq_getElem?_getD (l := zc9.2.2.2.2.2.2.2.2.2.2.2.2.2.2.2.2.2.2.2.1), hz2, Option.getD_some, hq, Int.toNat_natCast, List.getD_eq_getElem?_getD, hfv1, Option.getD_some]
      clear F4 N4 hz1 hpm hbb
      simp only [LTest, List.foldr_cons, List.foldr_nil]
      k_extra "u"
      k_steps
      · rename Fr _ _ _ _ => F6
        rename News _ _ _ _ => N6
        rename_i q
        refine ix2 _ _ (⟨rfl, F6, N6, ?_⟩)
        rw [zv9 _ _ hkz, if_pos (hde.trans q)]
        exact zs9 hJ4 _ _
      · rename Fr _ _ _ _ => F6
        rename News _ _ _ _ => N6
        rename_i q
        refine ix2 _ _ (⟨rfl, F6, N6, ?_⟩)
        rw [zv9 _ _ hkz, if_neg (by rw [hde, q]; decide), List.append_nil]
        exact hJ4
    case fin2 =>
      intro g2 zs hJ4 D4 h4 tk4 F5 N5 hlD
      have hJ5 : IntsAre zs ((zb9 zc9.2.2.2.2.2.2.2.2.2.2.2.2.2.2.2.2.2.2.2.2.1 zc9.2.2.2.2.2.2.2.2.2.2.2.2.2.2.2.2.2.2.2.2.2.1 zc9.2.2.2.2.2.2.2.2.2.2.2.2.2.2.2.2.2.2.2.2.2.2.1).filter (wA9 zc9.2.2.2.2.2.2.2.2.2.2.2.2.2.2.2.2.2.2.2.1 fb i)) := by
        have := hJ4
        rw [List.take_of_length_le (Nat.le_refl _)] at this
        exact this
      have hge : dueW zc9.2.2.2.2.2.2.2.2.2.2.2.2.2.2.2.2.2.2.2.1 fb (zb9 zc9.2.2.2.2.2.2.2.2.2.2.2.2.2.2.2.2.2.2.2.2.1 zc9.2.2.2.2.2.2.2.2.2.2.2.2.2.2.2.2.2.2.2.2.2.1 zc9.2.2.2.2.2.2.2.2.2.2.2.2.2.2.2.2.2.2.2.2.2.2.1) i = !decide ((zb9 zc9.2.2.2.2.2.2.2.2.2.2.2.2.2.2.2.2.2.2.2.2.1 zc9.2.2.2.2.2.2.2.2.2.2.2.2.2.2.2.2.2.2.2.2.2.1 zc9.2.2.2.2.2.2.2.2.2.2.2.2.2.2.2.2.2.2.2.2.2.2.1).filter (wA9 zc9.2.2.2.2.2.2.2.2.2.2.2.2.2.2.2.2.2.2.2.1 fb i) = []) := rfl
      clear F4 N4 hJ4
      k_lt hlD
      k_extra "u"
      k_steps
      rename Fr _ _ _ _ => F6
      rename News _ _ _ _ => N6
      refine ix2 _ _ (⟨rfl, F6, (fun p hp => N6 p (.tail _ (.tail _ hp))), ?_⟩)
      rw [hJ, List.range_succ, List.map_append, List.map_cons, List.map_nil, hge]
  case fin =>
    intro g1 ys hJ D3 h tk F2 N2 hlD
    exact k _ _ _ _ hJ F2 (qv9 N2)
theorem jP9 (V rest dp un gd A₁ base g L' fa cd s Q m' BL FL PO bvs fvs bz sa sb cn oP e f op ofi ob lg : _) : nP9 V rest dp un gd A₁ base g L' fa cd s Q m' BL FL PO bvs fvs bz sa sb cn oP e f op ofi ob lg := H30 (by unfold zc9; rfl) @dp9 V rest dp un gd A₁ base g L' fa cd s Q m' BL FL PO bvs fvs bz sa sb cn oP e f op ofi ob lg
end
section
theorem xb9 : ∀ row : List Tk, (flat row).length ≤ 6 * row.length
  | [] => Nat.le_refl _
  | tk :: r => by
    have h1 := xb9 r
    have h2 : tk.text.length ≤ 6 := by
      cases tk with
      | br n c => cases n <;> simp [Tk.text]
      | rng n => cases n <;> simp [Tk.text]
      | _ => simp [Tk.text]
    simp only [flat, List.flatMap_cons, List.length_append, List.length_cons] at h1 ⊢
    lia
theorem ql9 : ∀ bs : List Bool, CarriedAll (bs.map Value.bool) (bs.map PyData.bool)
  | [] => .nil
  | b :: r => .cons (.bool b) (ql9 r)
theorem dZ9 : ∀ bs : List Bool, PyData.canLayAll0 (bs.map PyData.bool) = true
  | [] => rfl
  | _ :: r => by simp [PyData.canLayAll0, PyData.canLay0, dZ9 r]
theorem wq9 : ∀ bs : List Bool, PyData.depthAll (bs.map PyData.bool) = 0
  | [] => rfl
  | _ :: r => by simp [PyData.depthAll, PyData.depth, wq9 r]
theorem uR9 (bs : List Bool) : SeqAt.shaped (.list (bs.map PyData.bool)) = true := by
  simp [SeqAt.shaped, PyData.canLay0, PyData.depth, dZ9, wq9]
theorem nB9 : ∀ bs : List Bool, PySem.Spec.sameAll (bs.map PyData.bool) (bs.map PyData.bool) = true
  | [] => by simp [PySem.Spec.sameAll]
  | a :: r => by
    simp only [List.map_cons, PySem.Spec.sameAll, nB9 r]
    cases a <;> rfl
theorem eqB {prog : Program} {w : World} {A : Around} {E : Value → Shared → Prop} {s : Shared} {a b : Addr} {bs : List Bool} {Q : Value → Shared → Prop}
    (ha : s.heap.IsList a (bs.map Value.bool).toArray) (hb : s.heap.IsList b (bs.map Value.bool).toArray) (hu : A.units + 64 < cLine) (h : Q (.bool true) s) :
    wpAny (model prog w) A (compareOp .Eq (.ref a) (.ref b)) Q E s :=
  eq_dataH_same (reads_newData ha (ql9 bs)) (reads_newData hb (ql9 bs)) (uR9 _) (uR9 _) hu (SeqAt.noMix_of_shape (.list .bool) rfl _ _ (list_map_has fun _ => rfl) (list_map_has fun _ => rfl)) (by
    rw [show PySem.Spec.same (.list (bs.map PyData.bool)) (.list (bs.map PyData.bool)) = true from by simp only [PySem.Spec.same]; exact nB9 bs]
    exact h)
theorem cm9 {g h : Heap} {L : Addr} {a b c : Addr × Obj} {nx lg : List (Addr × Obj)} (N : News g L h nx) (N2 : News g L h (a :: b :: c :: lg)) : News g L h (a :: b :: c :: (nx ++ lg)) := fun p hp => by
  rcases List.mem_cons.mp hp with rfl | hp
  · exact N2 _ (.head _)
  rcases List.mem_cons.mp hp with rfl | hp
  · exact N2 _ (.tail _ (.head _))
  rcases List.mem_cons.mp hp with rfl | hp
  · exact N2 _ (.tail _ (.tail _ (.head _)))
  rcases List.mem_append.mp hp with hp | hp
  · exact N p hp
  · exact N2 p (.tail _ (.tail _ (.tail _ hp)))
theorem ns9 (sa sb : Bool) (row : List Tk) : (xc9 sa ++ patOf row) ++ xc9 sb = patOf (zJ9 sa ++ row ++ zJ9 sb) := by
  apply Str.ext'
  rw [Str.cps_append, Str.cps_append]
  have h1 : (Str.ofString "*").cps = #[42] := by decide +kernel
  have h0 : (Str.ofString "").cps = #[] := by decide +kernel
  cases sa <;> cases sb <;> simp [xc9, zJ9, patOf, flat, Tk.text, h1, h0]
theorem ln49 : True := by
  (k_with "compareOp Eq ref ref" => (k_here; refine zK9 ?_))
  (k_with "binaryOp Add str str" => (k_here; (with_reducible refine addS (by with_reducible assumption) ?_); (intro _ _)))
  trivial
theorem jO9 (V : Wd) (st : Stmt) (sc : Scope) (hst : zS9 25 = st) (hsc : zM9 = sc) (rest : List Stmt) (dp un : Nat) (gd : Option (List Code)) (A₁ : Around) (base g : Heap) (L' fa : Addr) (cd : Value) (s : Shared) (Q : Flow → Shared → Prop) 
    (hdp : dp + 40 ≤ recursionLimit) (hu : un + 400 < cLine) (B : Below A₁ base [] g) (X : (getK.heap_1 V.w.params).In g) (T : Top V.p V.loose V.mean V.mg V.mb g)
    (m' : Str → Option Value) (SL SO DL : Addr) (svs : List Value) (ss : List Str) (hss : StrsAre svs ss) (hs8 : ss.length = 8) (hs5 : ∀ x ∈ ss, x.length = 5) (e f : Nat) (sa sb : Bool) (hor : (sa || sb) = true) (row : List Tk) (hrow : ∀ t ∈ row, t ≠ Tk.star) (hne : row ≠ []) (hlen : row.length ≤ 4) (t1 t2 tr : Tok) (dvs : List Value) (hdv : dvs = (ss.map (xt9 sa sb row)).map Value.bool) (lg : List (Addr × Obj))
    (hG : AllBare s.gens) (h99 : ∀ p ∈ (SL, W.listOf (List.toArray svs) e) :: (SO, tupO [.str (xc9 sa) t1, .str (xc9 sb) t2]) :: (DL, W.listOf (List.toArray dvs) f) :: lg, p.1 ≠ 99) (hSO : @Ne Nat SO SL) (hSD : @Ne Nat DL SL) (hSl : AllNe SL lg)
    (F : Fr g L' s.heap (fun y => if y = Str.ofString "stretches" then some (.ref SL) else if y = Str.ofString "stars" then some (.ref SO) else if y = Str.ofString "row" then some (.str (patOf row) tr) else if y = Str.ofString "due" then some (.ref DL) else m' y)) (N : News g L' s.heap ((99, tabObj #[]) :: (SL, W.listOf (List.toArray svs) e) :: (SO, tupO [.str (xc9 sa) t1, .str (xc9 sb) t2]) :: (DL, W.listOf (List.toArray dvs) f) :: lg))
    (k : ∀ h' tk' gn m2 nx, AllBare gn → TabInv 99 nx → Fr g L' h' m2 → News g L' h' (nx ++ lg) → Q (.ret (.bool true)) { s with heap := h', toks := tk', gens := gn }) :
    wpAny (model prg V.w) (lawA sc L' fa cd dp un gd) (execs (st :: rest) (zQ9 sc L' fa cd)) Q (fun _ _ => False) s := by
  have h2 := @id (zS9 25 = Stmt.Return _ _) rfl
  rw [h2] at hst
  subst hst
  clear h2
  k_extra "w"
  have hz1 : (xc9 sa).length + (patOf row).length ≤ sizeLine := by
    have h1 : (xc9 sa).length ≤ 1 := by cases sa <;> decide
    have h2 : (patOf row).length ≤ 6 * row.length := by
      have := xb9 row
      show (flat row).toArray.size ≤ _
      simpa using this
    rw [sizeLine_eq]; lia
  have hz2 : (xc9 sa ++ patOf row).length + (xc9 sb).length ≤ sizeLine := by
    have h1 : (xc9 sa).length ≤ 1 := by cases sa <;> decide
    have h3 : (xc9 sb).length ≤ 1 := by cases sb <;> decide
    have h2 : (patOf row).length ≤ 6 * row.length := by
      have := xb9 row
      show (flat row).toArray.size ≤ _
      simpa using this
    rw [sizeLine_eq, Str.length_append]; lia
  k_extra "v"
  k_extra "u"
  k_steps
  unfold zC9
  rename Fr _ _ _ _ => F1
  rename News _ _ _ _ => N1
  rw [ns9]
  refine dL9 (cD9 V row sa sb hor hrow hne hlen _) B F1 (fun p hp => N1 p (List.mem_singleton.mp hp ▸ .head _)) (zx9 N1) (fun p hp q hq => by rw [List.mem_singleton.mp hq]; exact h99 p hp) X T rfl (by first | exact limD (by assumption) (by decide) | lia) (by first | exact limU (by assumption) (by decide) | exact limV (by assumption) (by decide) | lia) hG trivial ?_
  rintro v nx h2 tk2 gn F2 N2 N3 hJ9 hs1 hs2 hgn
  k_extra "y"
  refine ex1 hJ9 fun t3 hJ9 => ?_
  refine an1 hJ9 fun e9_0 htab => ?_
  iterate 2 clear hJ9
  subst e9_0
  k_extra "z"
  clear F1 N1
  have N4 : News g L' h2 ((SL, W.listOf (List.toArray svs) e) :: (SO, tupO [.str (xc9 sa) t1, .str (xc9 sb) t2]) :: (DL, W.listOf (List.toArray dvs) f) :: (nx ++ lg)) := cm9 N2 N3
  clear N2 N3
  k_extra "u"
  k_steps
  unfold zC9
  rename Fr _ _ _ _ => F5
  rename News _ _ _ _ => N5
  refine xn9 (cS9 V row sa sb hor hrow hne hlen t3 svs ss e SL hss hs5 hs8) B F5 (fun p hp => N5 p (List.mem_singleton.mp hp ▸ .head _)) (zx9 N5) (fun p hp q hq => ?sep) X T rfl (by first | exact limD (by assumption) (by decide) | lia) (by first | exact limU (by assumption) (by decide) | exact limV (by assumption) (by decide) | lia) trivial ?_
  case sep =>
    rw [List.mem_singleton.mp hq]
    rcases List.mem_cons.mp hp with rfl | hp
    · exact hSO
    rcases List.mem_cons.mp hp with rfl | hp
    · exact hSD
    rcases List.mem_append.mp hp with hp | hp
    · exact Ne.symm (hs1 p hp).1
    · exact AllNe.at _ hSl p hp
  rintro _ _ h6 tk6 F6 N6 N7 hJ9 hs3 hs4
  k_extra "y"
  refine ex2 hJ9 fun RD n6 hJ9 => ?_
  refine an1 hJ9 fun e9_0 e9_1 => ?_
  iterate 2 clear hJ9
  subst e9_0
  subst e9_1
  k_extra "z"
  have N8 : News g L' h6 ((RD, W.listOf ((ss.map (xt9 sa sb row)).map Value.bool).toArray n6) :: (SO, tupO [.str (xc9 sa) t1, .str (xc9 sb) t2]) :: (DL, W.listOf (List.toArray dvs) f) :: (nx ++ lg)) := fun p hp => by
    rcases List.mem_cons.mp hp with rfl | hp
    · exact N6 _ (.head _)
    · exact N7 p hp
  clear F5 N5 N6 N7 hs3 hs4
  k_extra "u"
  k_steps
  unfold zC9
  rename Fr _ _ _ _ => F9
  rename News _ _ _ _ => N9
  refine eqB ⟨_, (N9 _ (.head _)).1, rfl, _, rfl⟩ (hdv ▸ ⟨_, (N9 _ (.tail _ (.tail _ (.head _)))).1, rfl, _, rfl⟩) (by show un + 64 < cLine; lia) ?_
  k_extra "u"
  k_steps
  exact k _ _ _ _ _ hgn htab F9 (zx9 (zx9 (zx9 N9)))
end
section
section
variable {T D : Int}
theorem dY9 (hT0 : 0 ≤ T) (hT1 : T < D) (k : Nat) : 0 ≤ cutN T D k ∧ cutN T D k < D := by
  induction k with
  | zero => exact ⟨Int.le_refl _, Int.lt_of_le_of_lt hT0 hT1⟩
  | succ k ih => exact jL9 hT0 hT1 ih
theorem oc1 (x c T : Int) : x - (c - T) = x - c + T := by rw [Int.sub_eq_add_neg, Int.neg_sub, Int.sub_eq_add_neg, Int.sub_eq_add_neg, Int.add_comm T, Int.add_assoc]
theorem oc2 (x c T D : Int) : x - (c - T + D) = x - c + T - D := by rw [← Int.sub_sub, oc1]
theorem tJ9 {c T D x : Int} (hT0 : 0 ≤ T) (hT1 : T < D) (h0 : 0 ≤ x) (h1 : x < D) :
    (T ≤ c ∧ c ≤ x ∧ c - T ≤ x ∧ ¬ D ≤ x - c + T) ∨ (T ≤ c ∧ ¬ c ≤ x ∧ (D ≤ x - c + D + T ↔ c - T ≤ x)) ∨ (¬ T ≤ c ∧ c ≤ x ∧ (D ≤ x - c + T ↔ c - T + D ≤ x)) ∨ (¬ T ≤ c ∧ ¬ c ≤ x ∧ D ≤ x - c + D + T ∧ ¬ c - T + D ≤ x) := by
  have i1 : c - T ≤ x ↔ 0 ≤ x - c + T := by rw [← oc1]; exact Int.sub_nonneg.symm
  have i2 : c - T + D ≤ x ↔ D ≤ x - c + T := by rw [← @Int.sub_nonneg (x - c + T), ← oc2]; exact Int.sub_nonneg.symm
  have i3 : D ≤ x - c + D + T ↔ 0 ≤ x - c + T := by
    rw [Int.add_right_comm]
    exact ⟨fun h => Int.not_lt.mp fun q => absurd h (Int.not_le.mpr (wV9 q)), fun h => Int.le_add_of_nonneg_left h⟩
  by_cases a : T ≤ c <;> by_cases b : c ≤ x
  · exact .inl ⟨a, b, Int.le_trans (Int.sub_le_self c hT0) b, fun h => absurd (Int.le_trans h (Int.le_trans (Int.le_of_eq (oc1 x c T).symm) (Int.sub_le_self x (Int.sub_nonneg_of_le a)))) (Int.not_le.mpr h1)⟩
  · exact .inr (.inl ⟨a, b, i3.trans i1.symm⟩)
  · exact .inr (.inr (.inl ⟨a, b, i2.symm⟩))
  · exact .inr (.inr (.inr ⟨a, b, i3.mpr (i1.mp (Int.le_trans (Int.sub_nonpos_of_le (Int.le_of_lt (Int.not_le.mp a))) h0)),
      fun h => absurd (i2.mp h) (Int.not_le.mpr (Int.lt_trans (wV9 (Int.sub_neg_of_lt (Int.not_le.mp b))) hT1))⟩))
theorem tH9 (hT0 : 0 ≤ T) (hT1 : T < D) {x : Int} (h0 : 0 ≤ x) (h1 : x < D) (k : Nat) : orb T D x k = if cutN T D k ≤ x then x - cutN T D k else x - cutN T D k + D := by
  induction k with
  | zero => exact ((if_pos h0).trans (Int.sub_zero x)).symm
  | succ k ih =>
    rw [bK9, tz9, ih]
    rcases tJ9 (c := cutN T D k) hT0 hT1 h0 h1 with ⟨a, b, c, d⟩ | ⟨a, b, c⟩ | ⟨a, b, c⟩ | ⟨a, b, c, d⟩
    · rw [if_pos a, if_pos b, if_neg d, if_pos c, oc1]
    · rw [if_pos a, if_neg b]
      by_cases d : cutN T D k - T ≤ x
      · rw [if_pos (c.mpr d), if_pos d, oc1, Int.add_right_comm, Int.add_sub_cancel]
      · rw [if_neg (fun h => d (c.mp h)), if_neg d, oc1, Int.add_right_comm]
    · rw [if_neg a, if_pos b]
      by_cases d : cutN T D k - T + D ≤ x
      · rw [if_pos (c.mpr d), if_pos d, oc2]
      · rw [if_neg (fun h => d (c.mp h)), if_neg d, oc2, Int.sub_add_cancel]
    · rw [if_neg a, if_neg b, if_pos c, if_neg d, oc2, Int.sub_add_cancel, Int.add_right_comm, Int.add_sub_cancel]
noncomputable def letB (u i j : Bool) : Nat := if i then (if u then 97 else if j then 98 else 97) else (if u then (if j then 98 else 97) else 98)
theorem hj9 {p q : Prop} [Decidable p] [Decidable q] (h : p ↔ q) : (if p then 98 else 97) = (if decide q = true then 98 else 97) := by
  by_cases a : q
  · rw [if_pos (h.mpr a), if_pos (decide_eq_true a)]
  · rw [if_neg (fun x => a (h.mp x)), if_neg (fun x => a (of_decide_eq_true x))]
theorem tS9 (hT0 : 0 ≤ T) (hT1 : T < D) {x : Int} (h0 : 0 ≤ x) (h1 : x < D) (k : Nat) :
    letN T D x k = letB (decide (T ≤ cutN T D k)) (decide (cutN T D k ≤ x)) (decide (cutN T D (k + 1) ≤ x)) := by
  unfold letN
  rw [tH9 hT0 hT1 h0 h1 k, tz9]
  rcases tJ9 (c := cutN T D k) hT0 hT1 h0 h1 with ⟨a, b, c, d⟩ | ⟨a, b, c⟩ | ⟨a, b, c⟩ | ⟨a, b, c, d⟩
  · rw [if_pos b, if_neg d, decide_eq_true a, decide_eq_true b]; rfl
  · rw [if_neg b, if_pos a, decide_eq_true a, decide_eq_false b]; exact hj9 c
  · rw [if_pos b, if_neg a, decide_eq_false a, decide_eq_true b]; exact hj9 c
  · rw [if_neg b, if_pos c, decide_eq_false a, decide_eq_false b]; rfl
theorem jE9 (k : Nat) (h : T ≤ cutN T D k) : cutN T D (k + 1) = cutN T D k - T := if_pos h
theorem hs9 (hT0 : 0 ≤ T) {x : Int} (k : Nat) (h : T ≤ cutN T D k) (hx : cutN T D k ≤ x) : cutN T D (k + 1) ≤ x := by
  rw [jE9 k h]; exact Int.le_trans (Int.sub_le_self _ hT0) hx
theorem ht9 (hT1 : T < D) {x : Int} (k : Nat) (h : ¬ T ≤ cutN T D k) (hx : ¬ cutN T D k ≤ x) : ¬ cutN T D (k + 1) ≤ x := by
  have e : cutN T D (k + 1) = cutN T D k - T + D := if_neg h
  rw [e, ← Int.sub_nonneg, oc2, Int.sub_nonneg]
  exact Int.not_le.mpr (Int.lt_trans (wV9 (Int.sub_neg_of_lt (Int.not_le.mp hx))) hT1)
noncomputable def lets (T D x : Int) (k n : Nat) : List Nat := (List.range' k n).map (letN T D x)
theorem uE9 (x : Int) (k n : Nat) : lets T D x k (n + 1) = letN T D x k :: lets T D x (k + 1) n := rfl
theorem xC9 (x : Int) (n : Nat) : xK9 T D x n = lets T D x 0 n := by
  unfold xK9 lets; rw [List.range_eq_range']
theorem yQ9 (hT0 : 0 ≤ T) (hT1 : T < D) {x y : Int} (h0 : 0 ≤ x) (hxy : x ≤ y) (h1 : y < D) (n k : Nat) (hk : cutN T D k ≤ x ↔ cutN T D k ≤ y) :
    ((∀ i, i ≤ n → (cutN T D (k + i) ≤ x ↔ cutN T D (k + i) ≤ y)) ∧ lets T D x k n = lets T D y k n) ∨
    ((∃ i, i ≤ n ∧ ¬ cutN T D (k + i) ≤ x ∧ cutN T D (k + i) ≤ y) ∧ lets T D x k n < lets T D y k n) := by
  induction n generalizing k with
  | zero => exact .inl ⟨fun i hi => by rw [Nat.le_zero.mp hi]; exact hk, rfl⟩
  | succ n ih =>
    have ex := tS9 hT0 hT1 h0 (Int.lt_of_le_of_lt hxy h1) k
    have ey := tS9 hT0 hT1 (Int.le_trans h0 hxy) h1 k
    rw [uE9, uE9]
    by_cases hj : cutN T D (k + 1) ≤ x ↔ cutN T D (k + 1) ≤ y
    · have el : letN T D x k = letN T D y k := by rw [ex, ey, decide_eq_decide.mpr hk, decide_eq_decide.mpr hj]
      rcases ih (k + 1) hj with ⟨a, b⟩ | ⟨⟨i, hi, a⟩, b⟩
      · refine .inl ⟨fun i hi => ?_, by rw [el, b]⟩
        cases i with
        | zero => exact hk
        | succ i => have := a i (Nat.le_of_succ_le_succ hi); rw [Nat.succ_add_eq_add_succ] at this; exact this
      · refine .inr ⟨⟨i + 1, Nat.succ_le_succ hi, ?_⟩, ?_⟩
        · rw [Nat.succ_add_eq_add_succ] at a; exact a
        · rw [el]; exact List.cons_lt_cons_iff.mpr (.inr ⟨rfl, b⟩)
    · have hx : ¬ cutN T D (k + 1) ≤ x := fun h => hj ⟨fun _ => Int.le_trans h hxy, fun _ => h⟩
      have hy : cutN T D (k + 1) ≤ y := Decidable.byContradiction fun h => hj ⟨fun q => absurd q hx, fun q => absurd q h⟩
      refine .inr ⟨⟨1, Nat.succ_le_succ (Nat.zero_le n), hx, hy⟩, List.cons_lt_cons_iff.mpr (.inl ?_)⟩
      rw [ex, ey]
      have hu1 := @hs9 T D hT0 x k
      have hu2 := @ht9 T D hT1 y k
      rw [decide_eq_false hx, decide_eq_true hy, show decide (cutN T D k ≤ x) = decide (cutN T D k ≤ y) from decide_eq_decide.mpr hk]
      by_cases a : T ≤ cutN T D k <;> by_cases b : cutN T D k ≤ y
      · exact absurd (hu1 a (hk.mpr b)) hx
      · rw [decide_eq_true a, decide_eq_false b]; decide
      · rw [decide_eq_false a, decide_eq_true b]; decide
      · exact absurd hy (hu2 a b)
noncomputable def xH9 (T D : Int) (n : Nat) (x : Int) : Nat := ((cutL T D n).filter fun c => decide (c ≤ x)).length
theorem gm9 {p q : Int → Bool} {l : List Int} (h : ∀ c ∈ l, p c = true → q c = true) (c : Int) (hc : c ∈ l) (h1 : p c = false) (h2 : q c = true) : (l.filter p).length < (l.filter q).length := by
  have e : l.filter p = (l.filter q).filter p := by
    rw [List.filter_filter]
    refine List.filter_congr fun d hd => ?_
    cases hp : p d with
    | false => rfl
    | true => rw [h d hd hp]; rfl
  rw [e]
  exact List.length_filter_lt_length_iff_exists.mpr ⟨c, List.mem_filter.mpr ⟨hc, h2⟩, by rw [h1]; exact Bool.false_ne_true⟩
theorem cz9 {n : Nat} {x y : Int} (h : ∀ i, i ≤ n → (cutN T D i ≤ x ↔ cutN T D i ≤ y)) : xH9 T D n x = xH9 T D n y := by
  unfold xH9
  congr 1
  refine List.filter_congr fun c hc => ?_
  obtain ⟨i, hi, rfl⟩ := List.mem_map.mp hc
  have := h i (Nat.le_of_lt_succ (List.mem_range.mp hi))
  simp only [this]
theorem cx9 {n : Nat} {x y : Int} (hxy : x ≤ y) (h : ∃ i, i ≤ n ∧ ¬ cutN T D i ≤ x ∧ cutN T D i ≤ y) : xH9 T D n x < xH9 T D n y := by
  k_extra "y"
  refine ex1 (h) fun i hJ9 => ?_
  refine an2 hJ9 fun hi a b => ?_
  clear hJ9
  try clear h
  k_extra "z"
  exact gm9 (fun c _ hc => decide_eq_true (Int.le_trans (of_decide_eq_true hc) hxy)) _ (List.mem_map_of_mem (List.mem_range.mpr (Nat.lt_succ_of_le hi))) (decide_eq_false a) (decide_eq_true b)
theorem yp9 (hT0 : 0 ≤ T) (hT1 : T < D) {x y : Int} (hx0 : 0 ≤ x) (hx1 : x < D) (hy0 : 0 ≤ y) (hy1 : y < D) (n : Nat) : (xK9 T D x n < xK9 T D y n) ↔ xH9 T D n x < xH9 T D n y := by
  rw [xC9, xC9]
  rcases Int.le_total x y with h | h
  · rcases yQ9 hT0 hT1 hx0 h hy1 n 0 ⟨fun _ => hy0, fun _ => hx0⟩ with ⟨a, b⟩ | ⟨a, b⟩
    · simp only [Nat.zero_add] at a
      rw [b, cz9 a]
      exact ⟨fun h => absurd h (List.lt_irrefl _), fun h => absurd h (Nat.lt_irrefl _)⟩
    · simp only [Nat.zero_add] at a
      exact ⟨fun _ => cx9 h a, fun _ => b⟩
  · rcases yQ9 hT0 hT1 hy0 h hx1 n 0 ⟨fun _ => hx0, fun _ => hy0⟩ with ⟨a, b⟩ | ⟨a, b⟩
    · simp only [Nat.zero_add] at a
      rw [b, cz9 a]
      exact ⟨fun h => absurd h (List.lt_irrefl _), fun h => absurd h (Nat.lt_irrefl _)⟩
    · simp only [Nat.zero_add] at a
      exact ⟨fun h2 => absurd h2 (List.lt_asymm b), fun h2 => absurd (cx9 h a) (Nat.lt_asymm h2)⟩
end
end
section
theorem cr9 {cs : List Int} (o : cs.Pairwise (· ≤ ·)) {x : Int} (b : Nat) (h : (cs.filter fun c => decide (c ≤ x)).length = b + 1) : ∃ z, cs[b]? = some z ∧ z ≤ x ∧ ∀ c ∈ cs, c ≤ x → c ≤ z := by
  induction cs generalizing b with
  | nil => cases h
  | cons c cs ih =>
    have o1 := (List.pairwise_cons.mp o).1
    have o2 := (List.pairwise_cons.mp o).2
    by_cases hc : c ≤ x
    · rw [List.filter_cons_of_pos (p := fun c => decide (c ≤ x)) (decide_eq_true hc), List.length_cons] at h
      cases b with
      | zero =>
        have hn : cs.filter (fun c => decide (c ≤ x)) = [] := List.eq_nil_of_length_eq_zero (Nat.succ.inj h)
        refine ix1 c (⟨rfl, hc, fun d hd hdx => ?_⟩)
        rcases List.mem_cons.mp hd with e | hd
        · exact Int.le_of_eq e
        · exact absurd (hn ▸ List.mem_filter.mpr ⟨hd, decide_eq_true hdx⟩) List.not_mem_nil
      | succ b =>
        refine (ih o2 b (Nat.succ.inj h)).elim fun z q => ⟨z, q.1, q.2.1, fun d hd hdx => ?_⟩
        rcases List.mem_cons.mp hd with e | hd
        · rw [e]; exact o1 z (List.mem_of_getElem? q.1)
        · exact q.2.2 d hd hdx
    · have hn : (c :: cs).filter (fun c => decide (c ≤ x)) = [] := List.filter_eq_nil_iff.mpr fun d hd q => by
        refine hc (Int.le_trans ?_ (of_decide_eq_true q))
        rcases List.mem_cons.mp hd with e | hd
        · exact Int.le_of_eq e.symm
        · exact o1 d hd
      rw [hn] at h; cases h
theorem mv1 (x c T D : Int) : D ≤ x - c + T ↔ c ≤ x + T - D := by constructor <;> intro h <;> lia
theorem mv2 (x c T D : Int) : D ≤ x - c + D + T ↔ c ≤ x + T := by constructor <;> intro h <;> lia
section
variable {T D : Int}
theorem gW9 (hT0 : 0 ≤ T) (hT1 : T < D) {z x : Int} (n : Nat) (h0 : 0 ≤ z) (hzx : z ≤ x) (h1 : x < D) (h : ∀ i, i ≤ n → cutN T D i ≤ x → cutN T D i ≤ z) : xK9 T D z n = xK9 T D x n := by
  rw [xC9, xC9]
  rcases yQ9 hT0 hT1 h0 hzx h1 n 0 ⟨fun _ => Int.le_trans h0 hzx, fun _ => h0⟩ with ⟨_, b⟩ | ⟨⟨i, hi, a, b⟩, _⟩
  · exact b
  · rw [Nat.zero_add] at a b
    exact absurd (h i hi b) a
theorem yM9 {n : Nat} {x : Int} (h0 : 0 ≤ x) : 0 < xH9 T D n x := by
  refine List.length_pos_iff.mpr fun h => ?_
  have : (0 : Int) ∈ (cutL T D n).filter fun c => decide (c ≤ x) := List.mem_filter.mpr ⟨List.mem_map.mpr ⟨0, List.mem_range.mpr (Nat.succ_pos _), rfl⟩, by simpa using h0⟩
  rw [h] at this; cases this
theorem gf9 (hT0 : 0 ≤ T) (hT1 : T < D) {n : Nat} {cs : List Int} (hp : cs.Perm (cutL T D n)) (o : cs.Pairwise (· ≤ ·)) {x : Int} (h0 : 0 ≤ x) (h1 : x < D) :
    ∃ z, cs[xH9 T D n x - 1]? = some z ∧ xK9 T D z n = xK9 T D x n := by
  have hr := @yM9 T D n x h0
  have hl : (cs.filter fun c => decide (c ≤ x)).length = xH9 T D n x := (hp.filter _).length_eq
  obtain ⟨z, hz, hzx, hall⟩ := cr9 o (x := x) (xH9 T D n x - 1) (hl.trans (Nat.sub_add_cancel hr).symm)
  have hz0 : 0 ≤ z := by
    have hm := hp.mem_iff.mp (List.mem_of_getElem? hz)
    obtain ⟨i, _, rfl⟩ := List.mem_map.mp hm
    exact (dY9 hT0 hT1 i).1
  exact ⟨z, hz, gW9 hT0 hT1 n hz0 hzx h1 fun i hi h => hall _ (hp.mem_iff.mpr (List.mem_map_of_mem (List.mem_range.mpr (Nat.lt_succ_of_le hi)))) h⟩
theorem gO9 (n : Nat) (x : Int) : xH9 T D n x ≤ n + 1 := by
  unfold xH9
  exact Nat.le_trans (List.length_filter_le _ _) (by rw [vG9]; exact Nat.le_refl _)
theorem yO9 (x : Int) (i : Nat) : ∀ j, orb T D x (i + j) = orb T D (orb T D x i) j
  | 0 => rfl
  | j + 1 => by
    show orb T D x (i + j + 1) = _
    rw [bK9, bK9, yO9 x i j]
theorem tT9 (x : Int) (i j : Nat) : letN T D x (i + j) = letN T D (orb T D x i) j := by
  unfold letN; rw [yO9]
theorem wX9 (x : Int) (i n : Nat) : lets T D x i n = xK9 T D (orb T D x i) n := by
  rw [xC9]
  unfold lets
  refine List.ext_getElem (by simp) fun j h1 h2 => ?_
  simp only [List.getElem_map, List.getElem_range', Nat.one_mul, Nat.zero_add]
  exact tT9 x i j
theorem uA9 (hT0 : 0 ≤ T) (hT1 : T < D) {x : Int} (h0 : 0 ≤ x) (h1 : x < D) (j : Nat) : 0 ≤ orb T D x j ∧ orb T D x j < D := by
  induction j with
  | zero => exact ⟨h0, h1⟩
  | succ j ih => exact hL9 hT0 hT1 ih
theorem gX9 (x : Int) (j : Nat) : letN T D x j = 97 ∨ letN T D x j = 98 := by
  unfold letN; split <;> simp
noncomputable def vl9 (T D x : Int) : Bool := decide (0 < cutN T D 5) && decide (cutN T D 5 ≤ x)
theorem bN9 (hT0 : 0 ≤ T) (hT1 : T < D) {x : Int} (h0 : 0 ≤ x) (h1 : x < D) :
    (vl9 T D x = vl9 T D (orb T D x 1) ∧ letN T D x 0 = letN T D x 5) ∨ (vl9 T D x = true ∧ vl9 T D (orb T D x 1) = false ∧ letN T D x 0 = 98 ∧ letN T D x 5 = 97) ∨
    (vl9 T D x = false ∧ vl9 T D (orb T D x 1) = true ∧ letN T D x 0 = 97 ∧ letN T D x 5 = 98) := by
  have e := tH9 hT0 hT1 h0 h1 5
  have c := dY9 hT0 hT1 5
  have o1 : orb T D x 1 = if D ≤ x + T then x + T - D else x + T := rfl
  have l0 : letN T D x 0 = if D ≤ x + T then 98 else 97 := rfl
  have l5 : letN T D x 5 = if D ≤ orb T D x 5 + T then 98 else 97 := rfl
  unfold vl9
  rw [l5, l0, o1, e]
  clear l5 l0 o1 e
  generalize cutN T D 5 = c5 at *
  simp only [← Bool.decide_and]
  by_cases a : D ≤ x + T <;> by_cases b : c5 ≤ x
  · simp only [if_pos a, if_pos b]
    by_cases d : D ≤ x - c5 + T
    · refine .inl ⟨decide_eq_decide.mpr ⟨fun h => ⟨h.1, (mv1 x c5 T D).mp d⟩, fun h => ⟨h.1, b⟩⟩, by rw [if_pos d]⟩
    · refine .inr (.inl ⟨decide_eq_true ⟨Int.not_le.mp fun q => d ((mv1 x c5 T D).mpr (Int.le_trans q (Int.sub_nonneg_of_le a))), b⟩, decide_eq_false fun h => d ((mv1 x c5 T D).mpr h.2), trivial, by rw [if_neg d]⟩)
  · simp only [if_pos a, if_neg b]
    refine .inl ⟨decide_eq_decide.mpr ⟨fun h => absurd h.2 b, fun h => absurd (Int.le_trans h.2 (Int.sub_right_le_of_le_add (Int.add_le_add_left (Int.le_of_lt hT1) x))) b⟩, by rw [if_pos ((mv2 x c5 T D).mpr (Int.le_trans (Int.le_of_lt c.2) a))]⟩
  · simp only [if_neg a, if_pos b]
    refine .inl ⟨decide_eq_decide.mpr ⟨fun h => ⟨h.1, Int.le_trans b (Int.le_add_of_nonneg_right hT0)⟩, fun h => ⟨h.1, b⟩⟩, by rw [if_neg (fun q => a (Int.sub_nonneg.mp (Int.le_trans c.1 ((mv1 x c5 T D).mp q))))]⟩
  · simp only [if_neg a, if_neg b]
    by_cases d : D ≤ x - c5 + D + T
    · refine .inr (.inr ⟨decide_eq_false fun h => b h.2, decide_eq_true ⟨Int.lt_of_le_of_lt h0 (Int.not_le.mp b), (mv2 x c5 T D).mp d⟩, trivial, by rw [if_pos d]⟩)
    · refine .inl ⟨decide_eq_decide.mpr ⟨fun h => absurd h.2 b, fun h => absurd ((mv2 x c5 T D).mpr h.2) d⟩, by rw [if_neg d]⟩
end
end
section
theorem qd9 (r T D : Int) : ∀ k, rotN r T D k = orb T D r k
  | 0 => rfl
  | k + 1 => by
    show (if D ≤ rotN r T D k + T then rotN r T D k + T - D else rotN r T D k + T) = _
    rw [qd9 r T D k]; rfl
theorem wW9 (r T D : Int) (n : Nat) : ltW r T D n = wordS T D r n := by
  unfold ltW wordS xK9
  congr 2
  refine List.map_congr_left fun j _ => ?_
  unfold ltN letN
  rw [qd9]
theorem vJ9 (T D x : Int) (n : Nat) : (wordS T D x n).length = n := by
  show (xK9 T D x n).toArray.size = n
  simp [xK9]
theorem vs9 (T D x : Int) (n : Nat) : (wordS T D x n).cps.toList = xK9 T D x n := rfl
theorem tb9 (l : List Nat) (i c : Nat) (h : l[i]? = some c) : Txt.item ⟨l.toArray⟩ (i : Int) = ⟨#[c]⟩ := by
  have hlt : i < l.length := (List.getElem?_eq_some_iff.mp h).1
  unfold Txt.item Txt.charAt
  have e : seqIndex? (i : Int) (⟨l.toArray⟩ : Str).length = some i := by
    have h0 : ¬ (i : Int) < 0 := Int.not_lt.mpr (Int.natCast_nonneg i)
    have h1 : (decide (0 ≤ (i : Int)) && decide ((i : Int) < (l.length : Int))) = true := by rw [decide_eq_true (Int.natCast_nonneg i), decide_eq_true (Int.ofNat_lt.mpr hlt)]; rfl
    unfold seqIndex?
    simp only [if_neg h0]
    exact if_pos h1
  rw [e]
  simp [h]
theorem yq9 {T D x : Int} {n i : Nat} (h : i < n) : Txt.item (wordS T D x n) (i : Int) = ⟨#[letN T D x i]⟩ :=
  tb9 _ i _ (by unfold xK9; rw [List.getElem?_map, List.getElem?_range h]; rfl)
theorem qS9 {r T D : Int} {k : Nat} (hk : k ≤ 7) : strN (ltW r T D 12) k = wordS T D (orb T D r k) 5 := by
  rw [wW9]
  unfold strN wordS
  rw [xZ9, ← wX9]
  have hl : (xK9 T D r 12).length = 12 := by simp [xK9]
  rw [hl]
  have e1 : sLo 12 (some (k : Int)) = k := (ct9 12 k).trans (Nat.min_eq_left (Nat.le_trans hk (by decide)))
  have e2 : sHi 12 (some ((k : Int) + 5)) = k + 5 := (cv9 12 (k + 5)).trans (Nat.min_eq_left (Nat.add_le_add_right hk 5))
  rw [e1, e2, Nat.add_sub_cancel_left]
  congr 2
  rw [xC9]
  unfold lets
  rw [← List.map_drop, ← List.map_take]
  congr 1
  refine List.ext_getElem (by simp; lia) fun j h1 h2 => ?_
  simp
theorem cl9 {r T D : Int} {k : Nat} (hk : k ≤ 7) : (strN (ltW r T D 12) k).length = 5 := by rw [qS9 hk, vJ9]
section
variable {r T D : Int} (hT0 : 0 ≤ T) (hT1 : T < D) (h0 : 0 ≤ r) (h1 : r < D)
include hT0 hT1 h0 h1
theorem gZ9 {rs : List Int} (hrs : rs = (((List.range 13).map (rotN r T D)).take 8).map fun x => (((cutL T D 5).filter fun c => decide (c ≤ x)).length : Int)) :
    ∀ (j k : Nat) (x y : Str) (a b : Int), j < k → ((List.range 8).map (strN (ltW r T D 12)))[j]? = some x → ((List.range 8).map (strN (ltW r T D 12)))[k]? = some y → rs[j]? = some a → rs[k]? = some b →
      b2i (decide (y.cps.toList < x.cps.toList)) - b2i (decide (x.cps.toList < y.cps.toList)) = b2i (decide (b < a)) - b2i (decide (a < b)) := by
  intro j k x y a b _ hx hy ha hb
  have key : ∀ (i : Nat) (z : Str) (c : Int), ((List.range 8).map (strN (ltW r T D 12)))[i]? = some z → rs[i]? = some c → z = wordS T D (orb T D r i) 5 ∧ c = (xH9 T D 5 (orb T D r i) : Int) := by
    intro i z c hz hc
    have hi : i < 8 := by
      have := (List.getElem?_eq_some_iff.mp hz).1
      simpa using this
    rw [List.getElem?_map, List.getElem?_range hi] at hz
    rw [hrs, List.getElem?_map, List.getElem?_take_of_lt hi, List.getElem?_map, List.getElem?_range (by lia)] at hc
    refine ⟨?_, ?_⟩
    · rw [← Option.some.inj hz, qS9 (by lia)]
    · rw [← Option.some.inj hc, qd9]; rfl
  obtain ⟨rfl, rfl⟩ := key j x a hx ha
  obtain ⟨rfl, rfl⟩ := key k y b hy hb
  have oj := uA9 hT0 hT1 h0 h1 j
  have ok := uA9 hT0 hT1 h0 h1 k
  rw [vs9, vs9]
  have e1 := yp9 hT0 hT1 ok.1 ok.2 oj.1 oj.2 5
  have e2 := yp9 hT0 hT1 oj.1 oj.2 ok.1 ok.2 5
  have c1 : ((xH9 T D 5 (orb T D r k) : Int) < (xH9 T D 5 (orb T D r j) : Int)) ↔ xH9 T D 5 (orb T D r k) < xH9 T D 5 (orb T D r j) := Int.ofNat_lt
  have c2 : ((xH9 T D 5 (orb T D r j) : Int) < (xH9 T D 5 (orb T D r k) : Int)) ↔ xH9 T D 5 (orb T D r j) < xH9 T D 5 (orb T D r k) := Int.ofNat_lt
  rw [decide_eq_decide.mpr (e1.trans c1.symm), decide_eq_decide.mpr (e2.trans c2.symm)]
noncomputable def sgn (b : Bool) : Str := ⟨#[ab b]⟩
omit hT0 hT1 h0 h1 in
theorem bx9 : ∀ b0 b1 b2 b3 b4 b5 : Bool, vq9 ([b0, b1, b2, b3, b4].map sgn).reverse ([b1, b2, b3, b4, b5].map sgn) [] = if b0 = b5 then ([], []) else if b0 = true then ([Str.ofString "b"], [Str.ofString "a"]) else ([Str.ofString "a"], [Str.ofString "b"]) := by
  decide +kernel
omit hT0 hT1 h0 h1 in
theorem xs9 (x : Int) (j : Nat) : ∃ b, letN T D x j = ab b := by
  rcases @gX9 T D x j with h | h
  · exact ⟨false, h⟩
  · exact ⟨true, h⟩
theorem bT9 {mo : Nat → Bool} (hmo : ∀ k, k < 8 → mo k = vl9 T D (orb T D r k)) :
    ∀ (k : Nat) (x y : Str), ((List.range 8).map (strN (ltW r T D 12)))[k]? = some x → ((List.range 8).map (strN (ltW r T D 12)))[k + 1]? = some y → vq9 (xl9 x).reverse (xl9 y) [] = dueN (mo k) (mo (k + 1)) := by
  intro k x y hx hy
  have hk : k + 1 < 8 := by
    have := (List.getElem?_eq_some_iff.mp hy).1
    simpa using this
  rw [List.getElem?_map, List.getElem?_range (by lia)] at hx
  rw [List.getElem?_map, List.getElem?_range hk] at hy
  rw [← Option.some.inj hx, ← Option.some.inj hy, qS9 (by lia), qS9 (by lia), hmo k (by lia), hmo (k + 1) hk]
  have ox := uA9 hT0 hT1 h0 h1 k
  rw [yO9 r k 1]
  generalize orb T D r k = z at ox ⊢
  obtain ⟨b0, e0⟩ := @xs9 T D z 0
  obtain ⟨b1, e1⟩ := @xs9 T D z 1
  obtain ⟨b2, e2⟩ := @xs9 T D z 2
  obtain ⟨b3, e3⟩ := @xs9 T D z 3
  obtain ⟨b4, e4⟩ := @xs9 T D z 4
  obtain ⟨b5, e5⟩ := @xs9 T D z 5
  have w0 : xl9 (wordS T D z 5) = [b0, b1, b2, b3, b4].map sgn := by
    show (xK9 T D z 5).map (fun c => (⟨#[c]⟩ : Str)) = _
    rw [xC9]
    show [(⟨#[letN T D z 0]⟩ : Str), ⟨#[letN T D z 1]⟩, ⟨#[letN T D z 2]⟩, ⟨#[letN T D z 3]⟩, ⟨#[letN T D z 4]⟩] = _
    rw [e0, e1, e2, e3, e4]; rfl
  have w1 : xl9 (wordS T D (orb T D z 1) 5) = [b1, b2, b3, b4, b5].map sgn := by
    show (xK9 T D (orb T D z 1) 5).map (fun c => (⟨#[c]⟩ : Str)) = _
    rw [← wX9]
    show [(⟨#[letN T D z 1]⟩ : Str), ⟨#[letN T D z 2]⟩, ⟨#[letN T D z 3]⟩, ⟨#[letN T D z 4]⟩, ⟨#[letN T D z 5]⟩] = _
    rw [e1, e2, e3, e4, e5]; rfl
  rw [w0, w1, bx9]
  unfold dueN
  have hm := bN9 hT0 hT1 ox.1 ox.2
  rw [e0, e5] at hm
  rcases hm with ⟨h, q⟩ | ⟨h, h', q, q'⟩ | ⟨h, h', q, q'⟩
  · rw [h]
    have : b0 = b5 := by cases b0 <;> cases b5 <;> first | rfl | (exact absurd q (by decide))
    rw [if_pos this]; simp
  · rw [h, h']
    have g0 : b0 = true := by cases b0 <;> first | rfl | (exact absurd q (by decide))
    have g5 : b5 = false := by cases b5 <;> first | rfl | (exact absurd q' (by decide))
    rw [g0, g5]; rfl
  · rw [h, h']
    have g0 : b0 = false := by cases b0 <;> first | rfl | (exact absurd q (by decide))
    have g5 : b5 = true := by cases b5 <;> first | rfl | (exact absurd q' (by decide))
    rw [g0, g5]; rfl
end
end
section
theorem cg9 : ∀ b c : Bool, ∀ z ∈ ([0, 1, 2, 3, 4, 5, 6, 7] : List Int), (((qf9 (cE9 z b)).map fun c => (⟨#[c]⟩ : Str)).contains (⟨#[ab c]⟩ : Str)) = !(decide (z < 5) && !((⟨#[ab c]⟩ : Str) == ⟨#[ab b]⟩)) := by
  decide +kernel
theorem np9 (z : Int) (b : Bool) : cE9 z b ≠ Tk.star := by
  unfold cE9
  (repeat' split) <;> exact fun h => nomatch h
theorem hm9 {z : Int} (h0 : 0 ≤ z) (h1 : z < 8) : z ∈ ([0, 1, 2, 3, 4, 5, 6, 7] : List Int) := by
  have : z = 0 ∨ z = 1 ∨ z = 2 ∨ z = 3 ∨ z = 4 ∨ z = 5 ∨ z = 6 ∨ z = 7 := oct h0 h1
  rcases this with rfl | rfl | rfl | rfl | rfl | rfl | rfl | rfl <;> decide
theorem gw9 (T D x : Int) (n : Nat) : ∃ bs : List Bool, bs.length = n ∧ xK9 T D x n = bs.map ab := by
  induction n with
  | zero => exact ⟨[], rfl, rfl⟩
  | succ n ih =>
    k_extra "y"
    refine ex1 (ih) fun bs hJ9 => ?_
    refine an1 hJ9 fun hl e => ?_
    clear hJ9
    try clear ih
    k_extra "z"
    obtain ⟨b, eb⟩ := @xs9 T D x n
    exact ⟨bs ++ [b], by simp [hl], by rw [vt9, e, eb]; simp⟩
section
variable {T D : Int}
theorem gx9 {bs : List Bool} {kz : List Int} (hbk : bs.length = kz.length) (hk8 : ∀ k ∈ kz, 0 ≤ k ∧ k < 8) {y x : Int} {j i : Nat} (hij : j + i < 5) (hi : i < kz.length) (hx : x = orb T D y j) :
    vr9 (xN9 bs kz) (wordS T D y 5) (j : Int) i = fitN ⟨(bs.map ab).toArray⟩ (wordS T D x kz.length) kz i := by
  obtain ⟨z, hz⟩ : ∃ z, kz[i]? = some z := ⟨_, List.getElem?_eq_getElem hi⟩
  obtain ⟨b, hb⟩ : ∃ b, bs[i]? = some b := ⟨_, List.getElem?_eq_getElem (by lia)⟩
  have hr : (xN9 bs kz)[i]? = some (cE9 z b) := by unfold xN9; rw [List.getElem?_zipWith, hb, hz]
  have hz8 := hk8 z (List.mem_of_getElem? hz)
  obtain ⟨c, hc⟩ := @xs9 T D x i
  have e1 : Txt.item (wordS T D y 5) ((j : Int) + (i : Int)) = ⟨#[ab c]⟩ := by
    rw [show (j : Int) + (i : Int) = ((j + i : Nat) : Int) from rfl, yq9 hij, tT9, ← hx, hc]
  have e2 : Txt.item (wordS T D x kz.length) (i : Int) = ⟨#[ab c]⟩ := by rw [yq9 hi, hc]
  have e3 : Txt.item (⟨(bs.map ab).toArray⟩ : Str) (i : Int) = ⟨#[ab b]⟩ := tb9 _ i _ (by rw [List.getElem?_map, hb]; rfl)
  unfold vr9 fitN
  rw [e1, e2, e3, List.getD_eq_getElem?_getD, hr, Option.getD_some, List.getD_eq_getElem?_getD, hz, Option.getD_some, cg9 b c z (hm9 hz8.1 hz8.2), Bool.not_not]
theorem bh9 {bs : List Bool} {kz : List Int} (hbk : bs.length = kz.length) (hk8 : ∀ k ∈ kz, 0 ≤ k ∧ k < 8) {y x : Int} {j : Nat} (hij : j + kz.length ≤ 5) (hx : x = orb T D y j) :
    qU9 (xN9 bs kz) (wordS T D y 5) (j : Int) = fitW ⟨(bs.map ab).toArray⟩ kz kz.length (wordS T D x kz.length) := by
  have hrl : (xN9 bs kz).length = kz.length := by unfold xN9; rw [List.length_zipWith, hbk, Nat.min_self]
  unfold qU9 fitW
  rw [hrl]
  congr 2
  congr 1
  refine List.filter_congr fun i hi => ?_
  exact gx9 hbk hk8 (by have := List.mem_range.mp hi; lia) (List.mem_range.mp hi) hx
variable {r : Int} (hT0 : 0 ≤ T) (hT1 : T < D) (h0 : 0 ≤ r) (h1 : r < D)
include hT0 hT1 h0 h1
theorem tV9 {bs : List Bool} {kz : List Int} (hbk : bs.length = kz.length) (hk8 : ∀ k ∈ kz, 0 ≤ k ∧ k < 8) (hk4 : kz.length ≤ 4) (sa sb : Bool) {cs : List Int} (hp : cs.Perm (cutL T D kz.length)) (ho : cs.Pairwise (· ≤ ·)) {fb : List Bool} {bz : List Int}
    (hfb : fb = (cs.map fun c => wordS T D c kz.length).map (fitW ⟨(bs.map ab).toArray⟩ kz kz.length)) (hbz : bz = ((List.range 13).map (rotN r T D)).map fun x => (((cutL T D kz.length).filter fun c => decide (c ≤ x)).length : Int)) (k : Nat) (hk : k < 8) :
    xt9 sa sb (xN9 bs kz) (strN (ltW r T D 12) k) = dueW bz fb (zb9 sa sb kz.length) k := by
  have hrl : (xN9 bs kz).length = kz.length := by unfold xN9; rw [List.length_zipWith, hbk, Nat.min_self]
  unfold xt9 dueW
  rw [hrl, qS9 (by lia)]
  congr 2
  congr 1
  refine List.filter_congr fun j hj => ?_
  obtain ⟨q, hq⟩ := List.getElem?_of_mem hj
  obtain ⟨hj0, hj5⟩ := xp9 hk4 hq
  obtain ⟨i, rfl⟩ := Int.eq_ofNat_of_zero_le hj0
  have ok := uA9 hT0 hT1 h0 h1 (k + i)
  obtain ⟨z, hz, hzw⟩ := gf9 hT0 hT1 hp ho ok.1 ok.2
  rw [bh9 hbk hk8 (x := orb T D r (k + i)) (by lia) (yO9 r k i)]
  unfold wA9
  have hb : bz[(((k : Nat) : Int) + ((i : Nat) : Int)).toNat]? = some (xH9 T D kz.length (orb T D r (k + i)) : Int) := by
    rw [show (((k : Nat) : Int) + ((i : Nat) : Int)).toNat = k + i from rfl, hbz, List.getElem?_map, List.getElem?_map, List.getElem?_range (by lia)]
    show some _ = some _
    rw [qd9]; rfl
  have hr := @yM9 T D kz.length (orb T D r (k + i)) ok.1
  rw [List.getD_eq_getElem?_getD (l := bz), hb, Option.getD_some, show ((xH9 T D kz.length (orb T D r (k + i)) : Int) - 1).toNat = xH9 T D kz.length (orb T D r (k + i)) - 1 from Int.toNat_sub _ 1, List.getD_eq_getElem?_getD, hfb, List.getElem?_map, List.getElem?_map, hz]
  show _ = fitW _ kz kz.length (wordS T D z kz.length)
  unfold wordS
  rw [hzw]
omit hT0 hT1 h0 h1 in
theorem dG9 {n : Nat} {bz : List Int} (hT0 : 0 ≤ T) (hT1 : T < D) (h0 : 0 ≤ r) (h1 : r < D) (hbz : bz = ((List.range 13).map (rotN r T D)).map fun x => (((cutL T D n).filter fun c => decide (c ≤ x)).length : Int)) : ∀ z ∈ bz, 1 ≤ z ∧ z ≤ ((n + 1 : Nat) : Int) := by
  intro z hz
  rw [hbz] at hz
  obtain ⟨x, hx, rfl⟩ := List.mem_map.mp hz
  obtain ⟨j, _, rfl⟩ := List.mem_map.mp hx
  have o := uA9 hT0 hT1 h0 h1 j
  rw [qd9]
  have a := @yM9 T D n (orb T D r j) o.1
  have b := @gO9 T D n (orb T D r j)
  unfold xH9 at a b
  lia
end
theorem bU9 (n : Int) (k : Nat) : 0 ≤ vm9 n k ∧ vm9 n k < 8 := by
  unfold vm9
  rw [Int.fmod_eq_emod_of_nonneg _ (by decide)]
  exact ⟨Int.emod_nonneg _ (by decide), Int.emod_lt_of_pos _ (by decide)⟩
theorem wp9 (T D : Int) {n : Nat} (h : n ≤ 5) : (cutL T D 5).take (n + 1) = cutL T D n := by
  unfold cutL
  rw [← List.map_take]
  congr 1
  rw [List.take_range, Nat.min_eq_left (by lia)]
end
section
noncomputable def kd (o : Obj) : Nat := o.data.ctorIdx
theorem kdC {o : Obj} {v : Option Value} (h : o.data = .cell v) : kd o = 6 := by unfold kd; rw [h]; rfl
theorem kdL {its : Array Value} {n : Nat} : kd (W.listOf its n) ≠ 6 := by show (2 : Nat) ≠ 6; decide
theorem kdU {vs : List Value} : kd (tupO vs) ≠ 6 := by show (2 : Nat) ≠ 6; decide
theorem kdT {ps : Array Value} : kd (tabObj ps) ≠ 6 := by show (9 : Nat) ≠ 6; decide
theorem kdP {o : Obj} {ks : List Int} (h : qX9 o ks) : kd o ≠ 6 := by
  rcases h with ⟨b, t, u, v, rfl, _⟩ | ⟨x, t, k, rfl, _⟩
  · show (9 : Nat) ≠ 6; decide
  · exact kdL
theorem kd3 {tb : List (Addr × Obj)} (h : Tab0 tb) : ∀ p ∈ tb, kd p.2 = 9 := by
  rcases h with rfl | ⟨c1, o1, vs1, t1, c2, o2, vs2, t2, rfl, h1, _, h2, _⟩
  · intro p hp
    rcases List.mem_cons.mp hp with rfl | hp
    · rfl
    · rw [List.mem_singleton.mp hp]; rfl
  · intro p hp
    rcases List.mem_cons.mp hp with rfl | hp
    · rfl
    rcases List.mem_cons.mp hp with rfl | hp
    · show kd o1 = 9; unfold kd; rw [h1]; rfl
    rcases List.mem_cons.mp hp with rfl | hp
    · rfl
    rw [List.mem_singleton.mp hp]; show kd o2 = 9; unfold kd; rw [h2]; rfl
section
variable {g h : Heap} {L : Addr} {l : List (Addr × Obj)} {a b : Addr} {o1 o2 : Obj}
theorem neO (N : News g L h l) (m1 : (a, o1) ∈ l) (m2 : (b, o2) ∈ l) (hne : o1 ≠ o2) : @Ne Nat a b := fun e => by
  have h1 := (N _ m1).1
  have h2 := (N _ m2).1
  have e' : a = b := e
  subst e'
  exact hne (Option.some.inj (h1.symm.trans h2))
theorem neK (N : News g L h l) (m1 : (a, o1) ∈ l) (m2 : (b, o2) ∈ l) (hne : kd o1 ≠ kd o2) : @Ne Nat a b := neO N m1 m2 fun e => hne (by rw [e])
theorem neC (N : News g L h l) (m1 : (a, o1) ∈ l) (m2 : (b, o2) ∈ l) (h1 : kd o1 ≠ 6) {v : Option Value} (h2 : o2.data = .cell v) : @Ne Nat a b := neK N m1 m2 (by rw [kdC h2]; exact h1)
theorem neT (N : News g L h l) {tb : List (Addr × Obj)} (hT : Tab0 tb) (hs : ∀ p ∈ tb, p ∈ l) (m2 : (b, o2) ∈ l) {k : Nat} (h2 : kd o2 = k) (hk : k ≠ 9) : AllNe b tb :=
  AllNe.of fun p hp => neK N (hs p hp) m2 (by rw [kd3 hT p hp, h2]; exact Ne.symm hk)
theorem ne99 (N : News g L h l) {tb : List (Addr × Obj)} (hT : Tab0 tb) (hs : ∀ p ∈ tb, p ∈ l) (m : (99, tabObj #[]) ∈ l) : ∀ p ∈ tb, p.1 ≠ 99 := by
  intro p hp
  rcases hT with rfl | ⟨c1, o1, vs1, t1, c2, o2, vs2, t2, rfl, h1, h1', h2, h2', _⟩
  · rcases List.mem_cons.mp hp with rfl | hp
    · show (47 : Nat) ≠ 99; decide
    · rw [List.mem_singleton.mp hp]; show (54 : Nat) ≠ 99; decide
  · rcases List.mem_cons.mp hp with rfl | hp
    · show (47 : Nat) ≠ 99; decide
    rcases List.mem_cons.mp hp with rfl | hp
    · refine neO N (hs _ (.tail _ (.head _))) m fun e => ?_
      subst e
      cases h1
      simp at h1'
    rcases List.mem_cons.mp hp with rfl | hp
    · show (54 : Nat) ≠ 99; decide
    rw [List.mem_singleton.mp hp]
    refine neO N (hs _ (.tail _ (.tail _ (.tail _ (.head _))))) m fun e => ?_
    subst e
    cases h2
    simp at h2'
end
theorem qC9 {B : Int → Prop} {vs : List Value} {ks : List Int} {n : Nat} (h : IntsAre vs ks) (hl : ks.length = n + 1) (hb : ∀ z ∈ ks, B z) : ∃ c t vs' ks', vs = .int c t :: vs' ∧ B c ∧ IntsAre vs' ks' ∧ ks'.length = n ∧ ∀ z ∈ ks', B z := by
  cases h with
  | nil => cases hl
  | cons c t h => exact ⟨c, t, _, _, rfl, hb _ (.head _), h, Nat.succ.inj hl, fun z hz => hb z (.tail _ hz)⟩
theorem cA9 {l r s : List Value} {a : Value} (h : l = a :: r) (k : r = s) : l = a :: s := h.trans (congrArg (List.cons a) k)
theorem hM9 {l : List Value} {ks : List Int} (h : IntsAre l ks) (k : ks.length = 0) : l = [] := by cases h with | nil => rfl | cons c t h => cases k
theorem bA9 {vs : List Value} {ms : List Int} (h : IntsAre vs (ms ++ [987654321, 4210, 0, 1001, 10, 247686].drop ms.length)) (hl : ms.length ≤ 6) (hb : ∀ z ∈ ms, 0 ≤ z ∧ z < 10 ^ 36) :
    ∃ (c0 c1 c2 c3 c4 c5 : Int) (t0 t1 t2 t3 t4 t5 : Tok), vs = [Value.int c0 t0, .int c1 t1, .int c2 t2, .int c3 t3, .int c4 t4, .int c5 t5] ∧ 0 ≤ c0 ∧ c0 < 10 ^ 36 ∧ 0 ≤ c1 ∧ 0 ≤ c2 ∧ c2 < 10 ^ 36 ∧ 0 ≤ c4 ∧ c4 < 10 ^ 36 ∧ 0 ≤ c5 := by
  refine zh9 fun G hG => ?_
  have hb2 : ∀ z ∈ ms ++ [987654321, 4210, 0, 1001, 10, 247686].drop ms.length, 0 ≤ z ∧ z < 10 ^ 36 := fun z hz => by
    rcases List.mem_append.mp hz with hz | hz
    · exact hb z hz
    · have := List.mem_of_mem_drop hz
      simp only [List.mem_cons, List.not_mem_nil, or_false] at this
      rcases this with rfl | rfl | rfl | rfl | rfl | rfl <;> decide
  have hl2 : (ms ++ [987654321, 4210, 0, 1001, 10, 247686].drop ms.length).length = 6 := by
    rw [List.length_append, List.length_drop]; exact Nat.add_sub_of_le hl
  refine ex4 (qC9 (B := fun z => 0 ≤ z ∧ z < 10 ^ 36) h hl2 hb2) fun c0 t0 v0 k0 h0 => an4 h0 fun e0 b0 i0 l0 m0 => ?_
  refine ex4 (qC9 (B := fun z => 0 ≤ z ∧ z < 10 ^ 36) i0 l0 m0) fun c1 t1 v1 k1 h1 => an4 h1 fun e1 b1 i1 l1 m1 => ?_
  refine ex4 (qC9 (B := fun z => 0 ≤ z ∧ z < 10 ^ 36) i1 l1 m1) fun c2 t2 v2 k2 h2 => an4 h2 fun e2 b2 i2 l2 m2 => ?_
  refine ex4 (qC9 (B := fun z => 0 ≤ z ∧ z < 10 ^ 36) i2 l2 m2) fun c3 t3 v3 k3 h3 => an4 h3 fun e3 b3 i3 l3 m3 => ?_
  refine ex4 (qC9 (B := fun z => 0 ≤ z ∧ z < 10 ^ 36) i3 l3 m3) fun c4 t4 v4 k4 h4 => an4 h4 fun e4 b4 i4 l4 m4 => ?_
  refine ex4 (qC9 (B := fun z => 0 ≤ z ∧ z < 10 ^ 36) i4 l4 m4) fun c5 t5 v5 k5 h5 => an4 h5 fun e5 b5 i5 l5 m5 => ?_
  exact hG (ix12 c0 c1 c2 c3 c4 c5 t0 t1 t2 t3 t4 t5 ⟨cA9 e0 (cA9 e1 (cA9 e2 (cA9 e3 (cA9 e4 (cA9 e5 (hM9 i5 l5)))))), b0.1, b0.2, b1.1, b2.1, b2.2, b4.1, b4.2, b5.1⟩)
theorem hd9 {ns : List Int} : ∀ z ∈ (ns.take 6).map (· % 10 ^ 36), 0 ≤ z ∧ z < 10 ^ 36 := fun z hz => by
  obtain ⟨x, _, rfl⟩ := List.mem_map.mp hz
  exact ⟨Int.emod_nonneg _ (by decide), Int.emod_lt_of_pos _ (by decide)⟩
theorem neSB {svs dvs : List Value} {ss : List Str} {bs : List Bool} {e f : Nat} (h : StrsAre svs ss) (h8 : ss.length = 8) (hd : dvs = bs.map Value.bool) : W.listOf dvs.toArray f ≠ W.listOf svs.toArray e := fun q => by
  have q2 : Data.seq dvs.toArray f = Data.seq svs.toArray e := congrArg Obj.data q
  injection q2 with q3 q4
  have q5 : dvs = svs := by simpa using q3
  cases h with
  | nil => cases h8
  | cons y t r =>
    rw [hd] at q5
    cases bs with
    | nil => cases q5
    | cons b r => cases q5
theorem neUL {vs its : List Value} {e : Nat} : tupO vs ≠ W.listOf its.toArray e := fun q => by
  have q2 : (Value.type "tuple") = .type "list" := congrArg Obj.cls q
  injection q2 with q3
  revert q3; decide
theorem gt9 : vS9 = [zS9 0, zS9 1, zS9 2, zS9 3, zS9 4, zS9 5, zS9 6, zS9 7, zS9 8, zS9 9, zS9 10, zS9 11, zS9 12, zS9 13, zS9 14, zS9 15, zS9 16, zS9 17, zS9 18, zS9 19, zS9 20, zS9 21, zS9 22, zS9 23, zS9 24, zS9 25] := by
  exact @rfl (List Stmt) vS9
end
section
theorem zB9 {l : Nat} {p : Addr × Obj} {r : List (Addr × Obj)} (h : @Ne Nat p.1 l) (t : AllNe l r) : AllNe l (p :: r) := ⟨h, t⟩
theorem nK9 {l : Nat} : AllNe l [] := trivial
theorem gR9 {g h : Heap} {L : Addr} {a b : List (Addr × Obj)} (x : News g L h a) (y : News g L h b) : News g L h (a ++ b) := fun p hp => (List.mem_append.mp hp).elim (x p) (y p)
theorem kdL3 {its : Array Value} {n : Nat} : kd (W.listOf its n) ≠ 9 := by show (2 : Nat) ≠ 9; decide
theorem neQ {g h : Heap} {L : Addr} {l tb : List (Addr × Obj)} {a : Addr} {o : Obj} {p : Addr × Obj} (N : News g L h l) (hT : Tab0 tb) (hs : ∀ p ∈ tb, p ∈ l) (hp : p ∈ tb) (m : (a, o) ∈ l) (hk : kd o ≠ 9) : @Ne Nat a p.1 := neK N m (hs p hp) (by rw [kd3 hT p hp]; exact hk)
theorem qP9 {a : Addr × Obj} {r : List (Addr × Obj)} (h : a.1 ≠ 99) (t : ∀ p ∈ r, p.1 ≠ 99) : ∀ p ∈ a :: r, p.1 ≠ 99 := fun p hp => by
  rcases List.mem_cons.mp hp with rfl | hp
  · exact h
  · exact t p hp
theorem hf9 {α β γ : Type} {f : α → β → γ} {t : γ} {a : List α} {b : List β} (h : t ∈ List.zipWith f a b) : ∃ x y, t = f x y := by
  induction a generalizing b with
  | nil => cases h
  | cons x a ih => cases b with
    | nil => cases h
    | cons y b => rcases List.mem_cons.mp h with e | h
                  · exact ⟨x, y, e⟩
                  · exact ih h
noncomputable def uV9 (V : Wd) (dp un : Nat) (gd : Option (List Code)) (A₁ : Around) (base g : Heap) (L' fa : Addr) (cd : Value) (s : Shared) (Q : Flow → Shared → Prop) (a : Addr) (vs : List Value) (ns : List Int) (tb0 : List (Addr × Obj)) (o1 o2 o3 o4 o5 o6 o7 o8 : Obj) : Prop := ∀ (hdp : dp + 40 ≤ recursionLimit) (hu : un + 400 < cLine) (B : Below A₁ base [] g) (X : (getK.heap_1 V.w.params).In g) (Tp : Top V.p V.loose V.mean V.mg V.mb g) (m' : Str → Option Value) (hl : g.IsList a vs.toArray) (hi : IntsAre vs ns) (h63 : ns.length ≤ 63) (htb0 : Tab0 tb0) (o9 o10 o11 o12 : Obj) (d1 : o1.data = .cell none) (d2 : o2.data = .cell none) (d3 : o3.data = .cell none) (d4 : o4.data = .cell none) (d5 : o5.data = .cell none) (d6 : o6.data = .cell none) (d7 : o7.data = .cell none) (d8 : o8.data = .cell none) (d9 : o9.data = .cell none) (d10 : o10.data = .cell none) (d11 : o11.data = .cell none) (d12 : o12.data = .cell none) (hG : AllBare s.gens) (F0 : Fr g L' s.heap (fun y => if y = Str.ofString "script" then some (.ref a) else m' y)) (N0 : News g L' s.heap ((L' + 1, o1) :: (L' + 1 + 1, o2) :: (L' + 1 + 1 + 1, o3) :: (L' + 1 + 1 + 1 + 1, o4) :: (L' + 1 + 1 + 1 + 1 + 1, o5) :: (L' + 1 + 1 + 1 + 1 + 1 + 1, o6) :: (L' + 1 + 1 + 1 + 1 + 1 + 1 + 1, o7) :: (L' + 1 + 1 + 1 + 1 + 1 + 1 + 1 + 1, o8) :: (L' + 1 + 1 + 1 + 1 + 1 + 1 + 1 + 1 + 1, o9) :: (L' + 1 + 1 + 1 + 1 + 1 + 1 + 1 + 1 + 1 + 1, o10) :: (L' + 1 + 1 + 1 + 1 + 1 + 1 + 1 + 1 + 1 + 1 + 1, o11) :: (L' + 1 + 1 + 1 + 1 + 1 + 1 + 1 + 1 + 1 + 1 + 1 + 1, o12) :: (99, tabObj #[]) :: tb0)) (k : ∀ h' tk' gn m2 nx tb, AllBare gn → TabInv 99 nx → Tab0 tb → Fr g L' h' m2 → News g L' h' (nx ++ tb) → Q (.ret (.bool true)) { s with heap := h', toks := tk', gens := gn }), wpAny (model prg V.w) (lawA zM9 L' fa cd dp un gd) (execs vS9 (zQ9 zM9 L' fa cd)) Q (fun _ _ => False) s
@[irreducible] noncomputable def zA9 := W24 uV9
theorem cP9 : A24 uV9 zA9 := by
  intro hdp hu B X Tp m' hl hi h63 htb0 o9 o10 o11 o12 d1 d2 d3 d4 d5 d6 d7 d8 d9 d10 d11 d12 hG F0 N0 k
  rw [gt9]
  refine st_0 zA9.1 _ _ rfl rfl _ zA9.2.1 zA9.2.2.1 zA9.2.2.2.1 zA9.2.2.2.2.1 zA9.2.2.2.2.2.1 zA9.2.2.2.2.2.2.1 zA9.2.2.2.2.2.2.2.1 zA9.2.2.2.2.2.2.2.2.1 zA9.2.2.2.2.2.2.2.2.2.1 _ zA9.2.2.2.2.2.2.2.2.2.2.2.1 hdp hu B X Tp _ zA9.2.2.2.2.2.2.2.2.2.2.2.2.1 zA9.2.2.2.2.2.2.2.2.2.2.2.2.2.1 zA9.2.2.2.2.2.2.2.2.2.2.2.2.2.2.1 hl hi h63 _ F0 N0 ?_
  rintro C0 cv0 h0 tk0 m1 F1 N1 lt1 hi1
  show wpAny _ _ _ _ _ { zA9.2.2.2.2.2.2.2.2.2.2.1 with heap := h0, toks := tk0 }
  have hle1 : ((zA9.2.2.2.2.2.2.2.2.2.2.2.2.2.2.1.take 6).map (· % 10 ^ 36)).length ≤ 6 := by rw [List.length_map, List.length_take]; lia
  refine st_1 zA9.1 _ _ rfl rfl _ zA9.2.1 zA9.2.2.1 zA9.2.2.2.1 zA9.2.2.2.2.1 zA9.2.2.2.2.2.1 zA9.2.2.2.2.2.2.1 zA9.2.2.2.2.2.2.2.1 zA9.2.2.2.2.2.2.2.2.1 zA9.2.2.2.2.2.2.2.2.2.1 _ zA9.2.2.2.2.2.2.2.2.2.2.2.1 hdp hu B X Tp _ _ _ _ _ hi1 hle1 _ F1 N1 ?_
  rintro C cv e1 h1 tk1 m2 F2 N2 lt2 hi2
  show wpAny _ _ _ _ _ { zA9.2.2.2.2.2.2.2.2.2.2.1 with heap := h1, toks := tk1 }
  obtain ⟨z0, z1, z2, z3, z4, z5, y0, y1, y2, y3, y4, y5, rfl, b0, b0', b1, b2, b2', b4, b4', b5⟩ := bA9 hi2 hle1 hd9
  clear hi1 hi2 lt1 N0 F0 F1 N1
  refine st_2 zA9.1 _ _ rfl rfl _ zA9.2.1 zA9.2.2.1 zA9.2.2.2.1 zA9.2.2.2.2.1 zA9.2.2.2.2.2.1 zA9.2.2.2.2.2.2.1 zA9.2.2.2.2.2.2.2.1 zA9.2.2.2.2.2.2.2.2.1 zA9.2.2.2.2.2.2.2.2.2.1 _ zA9.2.2.2.2.2.2.2.2.2.2.2.1 hdp hu B X Tp _ C e1 z0 z1 z2 z3 z4 z5 y0 y1 y2 y3 y4 y5 b0 b0' b1 _ zA9.2.2.2.2.2.2.2.2.2.2.2.2.2.2.2.2.1 d1 (neC N2 (.head _) (.tail _ (.head _)) kdL d1) (zB9 (neL 2 1 rfl) (zB9 (neL 3 1 rfl) (zB9 (neL 4 1 rfl) (zB9 (neL 5 1 rfl) (zB9 (neL 6 1 rfl) (zB9 (neL 7 1 rfl) (zB9 (neL 8 1 rfl) (zB9 (neL 9 1 rfl) (zB9 (neL 10 1 rfl) (zB9 (neL 11 1 rfl) (zB9 (neL 12 1 rfl) (zB9 (neC N2 (memI 13 rfl) (.tail _ (.head _)) kdT d1) (neT N2 htb0 (memD 14 rfl) (.tail _ (.head _)) (kdC d1) (by decide)))))))))))))) F2 (News.sel N2 14 [0, 1, 2, 3, 4, 5, 6, 7, 8, 9, 10, 11, 12, 13] rfl) ?_
  rintro D tD o1a h2 tk2 hD2 hDb e1d F3 N3
  show wpAny _ _ _ _ _ { zA9.2.2.2.2.2.2.2.2.2.2.1 with heap := h2, toks := tk2 }
  clear F2 N2
  refine st_3 zA9.1 _ _ rfl rfl _ zA9.2.1 zA9.2.2.1 zA9.2.2.2.1 zA9.2.2.2.2.1 zA9.2.2.2.2.2.1 zA9.2.2.2.2.2.2.1 zA9.2.2.2.2.2.2.2.1 zA9.2.2.2.2.2.2.2.2.1 zA9.2.2.2.2.2.2.2.2.2.1 _ zA9.2.2.2.2.2.2.2.2.2.2.2.1 hdp hu B X Tp _ C e1 z0 z1 z2 z3 z4 z5 y0 y1 y2 y3 y4 y5 b2 b2' _ D hD2 hDb tD o1a zA9.2.2.2.2.2.2.2.2.2.2.2.2.2.2.2.2.2.1 e1d d2 (neC N3 (.head _) (memI 2 rfl) kdL d2) (zB9 (neL 3 2 rfl) (zB9 (neL 4 2 rfl) (zB9 (neL 5 2 rfl) (zB9 (neL 6 2 rfl) (zB9 (neL 7 2 rfl) (zB9 (neL 8 2 rfl) (zB9 (neL 9 2 rfl) (zB9 (neL 10 2 rfl) (zB9 (neL 11 2 rfl) (zB9 (neL 12 2 rfl) (zB9 (neC N3 (memI 13 rfl) (memI 2 rfl) kdT d2) (neT N3 htb0 (memD 14 rfl) (memI 2 rfl) (kdC d2) (by decide))))))))))))) F3 (News.sel N3 14 [0, 1, 2, 3, 4, 5, 6, 7, 8, 9, 10, 11, 12, 13] rfl) ?_
  rintro Tn tT o2a h3 tk3 hT0 hT1 e2d F4 N4
  show wpAny _ _ _ _ _ { zA9.2.2.2.2.2.2.2.2.2.2.1 with heap := h3, toks := tk3 }
  clear F3 N3
  refine st_4 zA9.1 _ _ rfl rfl _ zA9.2.1 zA9.2.2.1 zA9.2.2.2.1 zA9.2.2.2.2.1 zA9.2.2.2.2.2.1 zA9.2.2.2.2.2.2.1 zA9.2.2.2.2.2.2.2.1 zA9.2.2.2.2.2.2.2.2.1 zA9.2.2.2.2.2.2.2.2.2.1 _ zA9.2.2.2.2.2.2.2.2.2.2.2.1 hdp hu B X Tp _ C e1 z0 z1 z2 z3 z4 z5 y0 y1 y2 y3 y4 y5 _ D hD2 hDb tD o1a e1d F4 (News.sel N4 14 [0, 1, 2, 3, 4, 5, 6, 7, 8, 9, 10, 11, 12, 13] rfl) ?_
  rintro wh tw h4 tk4 hwb F5 N5
  show wpAny _ _ _ _ _ { zA9.2.2.2.2.2.2.2.2.2.2.1 with heap := h4, toks := tk4 }
  clear F4 N4
  refine st_5 zA9.1 _ _ rfl rfl _ zA9.2.1 zA9.2.2.1 zA9.2.2.2.1 zA9.2.2.2.2.1 zA9.2.2.2.2.2.1 zA9.2.2.2.2.2.2.1 zA9.2.2.2.2.2.2.2.1 zA9.2.2.2.2.2.2.2.2.1 zA9.2.2.2.2.2.2.2.2.2.1 _ zA9.2.2.2.2.2.2.2.2.2.2.2.1 hdp hu B X Tp _ _ D Tn tD tT o1a o2a zA9.2.2.2.2.2.2.2.2.2.2.2.2.2.2.2.2.2.2.1 e1d e2d d3 (zB9 (neC N5 (.head _) (memI 3 rfl) kdL d3) (zB9 (neL 4 3 rfl) (zB9 (neL 5 3 rfl) (zB9 (neL 6 3 rfl) (zB9 (neL 7 3 rfl) (zB9 (neL 8 3 rfl) (zB9 (neL 9 3 rfl) (zB9 (neL 10 3 rfl) (zB9 (neL 11 3 rfl) (zB9 (neL 12 3 rfl) (zB9 (neC N5 (memI 13 rfl) (memI 3 rfl) kdT d3) (neT N5 htb0 (memD 14 rfl) (memI 3 rfl) (kdC d3) (by decide))))))))))))) F5 (News.sel N5 14 [1, 2, 3, 0, 4, 5, 6, 7, 8, 9, 10, 11, 12, 13] rfl) ?_
  rintro K kvs n6 o3a h5 tk5 hks e3d hKn F6 N6
  show wpAny _ _ _ _ _ { zA9.2.2.2.2.2.2.2.2.2.2.1 with heap := h5, toks := tk5 }
  clear F5 N5
  have hk6 : (cutL Tn D 5).length = 6 := vG9 _ _ _
  refine st_6 zA9.1 _ _ rfl rfl _ zA9.2.1 zA9.2.2.1 zA9.2.2.2.1 zA9.2.2.2.2.1 zA9.2.2.2.2.2.1 zA9.2.2.2.2.2.2.1 zA9.2.2.2.2.2.2.2.1 zA9.2.2.2.2.2.2.2.2.1 zA9.2.2.2.2.2.2.2.2.2.1 _ zA9.2.2.2.2.2.2.2.2.2.2.2.1 hdp hu B X Tp _ C e1 z0 z1 z2 z3 z4 z5 y0 y1 y2 y3 y4 y5 b4 b4' _ zA9.2.2.2.2.2.2.2.2.2.2.2.2.2.2.2.2.2.2.2.1 d4 (neC N6 (memI 4 rfl) (memI 5 rfl) kdL d4) (zB9 (neC N6 (.head _) (memI 5 rfl) kdL d4) (zB9 (neL 1 4 rfl) (zB9 (neL 2 4 rfl) (zB9 (neL 3 4 rfl) (zB9 (neL 5 4 rfl) (zB9 (neL 6 4 rfl) (zB9 (neL 7 4 rfl) (zB9 (neL 8 4 rfl) (zB9 (neL 9 4 rfl) (zB9 (neL 10 4 rfl) (zB9 (neL 11 4 rfl) (zB9 (neL 12 4 rfl) (zB9 (neC N6 (memI 14 rfl) (memI 5 rfl) kdT d4) (neT N6 htb0 (memD 15 rfl) (memI 5 rfl) (kdC d4) (by decide))))))))))))))) (qh9 F6 rfl ) (News.sel N6 15 [4, 5, 0, 1, 2, 3, 6, 7, 8, 9, 10, 11, 12, 13, 14] rfl) ?_
  rintro nu tn o4a h6 tk6 hn0 hn1 e4d F7 N7
  show wpAny _ _ _ _ _ { zA9.2.2.2.2.2.2.2.2.2.2.1 with heap := h6, toks := tk6 }
  clear F6 N6
  refine st_7 zA9.1 _ _ rfl rfl _ zA9.2.1 zA9.2.2.1 zA9.2.2.2.1 zA9.2.2.2.2.1 zA9.2.2.2.2.2.1 zA9.2.2.2.2.2.2.1 zA9.2.2.2.2.2.2.2.1 zA9.2.2.2.2.2.2.2.2.1 zA9.2.2.2.2.2.2.2.2.2.1 _ zA9.2.2.2.2.2.2.2.2.2.2.2.1 hdp hu B X Tp _ _ D hD2 hDb tD o1a e1d nu tn hn0 hn1 o4a e4d F7 (News.sel N7 15 [3, 1, 0, 2, 4, 5, 6, 7, 8, 9, 10, 11, 12, 13, 14] rfl) ?_
  rintro r0 tr0 h7 tk7 hr00 hr01 F8 N8
  show wpAny _ _ _ _ _ { zA9.2.2.2.2.2.2.2.2.2.2.1 with heap := h7, toks := tk7 }
  clear F7 N7
  refine st_8 zA9.1 _ _ rfl rfl _ zA9.2.1 zA9.2.2.1 zA9.2.2.2.1 zA9.2.2.2.2.1 zA9.2.2.2.2.2.1 zA9.2.2.2.2.2.2.1 zA9.2.2.2.2.2.2.2.1 zA9.2.2.2.2.2.2.2.2.1 zA9.2.2.2.2.2.2.2.2.2.1 _ zA9.2.2.2.2.2.2.2.2.2.2.2.1 hdp hu B X Tp _ C K e1 n6 z0 z1 z2 z3 z4 z5 y0 y1 y2 y3 y4 y5 b4 _ D hD2 hDb tD o1a e1d nu r0 tn tr0 hn0 o4a o3a e4d e3d kvs _ hks hk6 hr00 hr01 (yU9 F8 rfl rfl ) (News.sel N8 15 [2, 3, 0, 5, 1, 4, 6, 7, 8, 9, 10, 11, 12, 13, 14] rfl) ?_
  rintro r tr h8 tk8 hr0 hr1 F9 N9
  show wpAny _ _ _ _ _ { zA9.2.2.2.2.2.2.2.2.2.2.1 with heap := h8, toks := tk8 }
  clear F8 N8
  refine st_9 zA9.1 _ _ rfl rfl _ zA9.2.1 zA9.2.2.1 zA9.2.2.2.1 zA9.2.2.2.2.1 zA9.2.2.2.2.2.1 zA9.2.2.2.2.2.2.1 zA9.2.2.2.2.2.2.2.1 zA9.2.2.2.2.2.2.2.2.1 zA9.2.2.2.2.2.2.2.2.2.1 _ zA9.2.2.2.2.2.2.2.2.2.2.2.1 hdp hu B X Tp _ _ r tr zA9.2.2.2.2.2.2.2.2.2.2.2.2.2.2.2.2.2.2.2.2.1 zA9.2.2.2.2.2.2.2.2.2.2.2.2.2.2.2.2.2.2.2.2.2.1 d5 d6 (zB9 (neC N9 (.head _) (memI 6 rfl) kdL d5) (zB9 (neC N9 (.tail _ (.head _)) (memI 6 rfl) kdL d5) (zB9 (neL 1 5 rfl) (zB9 (neL 3 5 rfl) (zB9 (neL 4 5 rfl) (zB9 (neL 2 5 rfl) (zB9 (neL 7 5 rfl) (zB9 (neL 8 5 rfl) (zB9 (neL 9 5 rfl) (zB9 (neL 10 5 rfl) (zB9 (neL 11 5 rfl) (zB9 (neL 12 5 rfl) (zB9 (neC N9 (memI 14 rfl) (memI 6 rfl) kdT d5) (neT N9 htb0 (memD 15 rfl) (memI 6 rfl) (kdC d5) (by decide))))))))))))))) (zB9 (neC N9 (.head _) (memI 7 rfl) kdL d6) (zB9 (neC N9 (.tail _ (.head _)) (memI 7 rfl) kdL d6) (zB9 (neL 1 6 rfl) (zB9 (neL 3 6 rfl) (zB9 (neL 4 6 rfl) (zB9 (neL 2 6 rfl) (zB9 (neL 7 6 rfl) (zB9 (neL 8 6 rfl) (zB9 (neL 9 6 rfl) (zB9 (neL 10 6 rfl) (zB9 (neL 11 6 rfl) (zB9 (neL 12 6 rfl) (zB9 (neC N9 (memI 14 rfl) (memI 7 rfl) kdT d6) (neT N9 htb0 (memD 15 rfl) (memI 7 rfl) (kdC d6) (by decide))))))))))))))) (qh9 F9 rfl ) (News.sel N9 15 [6, 7, 0, 1, 2, 3, 4, 5, 8, 9, 10, 11, 12, 13, 14] rfl) ?_
  rintro RL nR tl0 o5a o6a h9 tk9 e5d e6d ltR F10 N10
  show wpAny _ _ _ _ _ { zA9.2.2.2.2.2.2.2.2.2.2.1 with heap := h9, toks := tk9 }
  clear F9 N9
  refine jf9 zA9.1 _ zA9.2.1 zA9.2.2.1 zA9.2.2.2.1 zA9.2.2.2.2.1 zA9.2.2.2.2.2.1 zA9.2.2.2.2.2.2.1 zA9.2.2.2.2.2.2.2.1 zA9.2.2.2.2.2.2.2.2.1 zA9.2.2.2.2.2.2.2.2.2.1 _ zA9.2.2.2.2.2.2.2.2.2.2.2.1 C _ RL wh tr tT tw tD o1a o5a o2a _ _ rfl rfl hdp hu B X Tp _ zA9.2.2.2.2.2.2.2.2.2.2.2.2.2.2.2.1 htb0 nR r Tn tl0 D hD2 hDb e1d o6a e5d e6d e2d hr0 hr1 hT0 hT1 hwb (fun p hp => (zB9 (neQ N10 htb0 (memD 16 rfl) hp (.head _) kdL3) (zB9 (neQ N10 htb0 (memD 16 rfl) hp (memI 2 rfl) (by rw [kdC e6d]; decide)) (zB9 (neQ N10 htb0 (memD 16 rfl) hp (.tail _ (.head _)) (by rw [kdC e5d]; decide)) (zB9 (neQ N10 htb0 (memD 16 rfl) hp (memI 5 rfl) (by rw [kdC e1d]; decide)) (zB9 (neQ N10 htb0 (memD 16 rfl) hp (memI 8 rfl) (by rw [kdC e2d]; decide)) (zB9 (neQ N10 htb0 (memD 16 rfl) hp (memI 3 rfl) kdL3) (zB9 (neQ N10 htb0 (memD 16 rfl) hp (memI 4 rfl) kdL3) (zB9 (neQ N10 htb0 (memD 16 rfl) hp (memI 6 rfl) (by rw [kdC e3d]; decide)) (zB9 (neQ N10 htb0 (memD 16 rfl) hp (memI 7 rfl) (by rw [kdC e4d]; decide)) (zB9 (neQ N10 htb0 (memD 16 rfl) hp (memI 9 rfl) (by rw [kdC d7]; decide)) (zB9 (neQ N10 htb0 (memD 16 rfl) hp (memI 10 rfl) (by rw [kdC d8]; decide)) (zB9 (neQ N10 htb0 (memD 16 rfl) hp (memI 11 rfl) (by rw [kdC d9]; decide)) (zB9 (neQ N10 htb0 (memD 16 rfl) hp (memI 12 rfl) (by rw [kdC d10]; decide)) (zB9 (neQ N10 htb0 (memD 16 rfl) hp (memI 13 rfl) (by rw [kdC d11]; decide)) (zB9 (neQ N10 htb0 (memD 16 rfl) hp (memI 14 rfl) (by rw [kdC d12]; decide)) (zB9 (Ne.symm (ne99 N10 htb0 (memD 16 rfl) (memI 15 rfl) p hp)) nK9))))))))))))))))) (zB9 (neC N10 (memI 3 rfl) (memI 2 rfl) kdL e6d) (zB9 (neC N10 (memI 4 rfl) (memI 2 rfl) kdL e6d) (zB9 (neL 3 6 rfl) (zB9 (neL 4 6 rfl) (zB9 (neL 7 6 rfl) (zB9 (neL 8 6 rfl) (zB9 (neL 9 6 rfl) (zB9 (neL 10 6 rfl) (zB9 (neL 11 6 rfl) (zB9 (neL 12 6 rfl) (zB9 (neC N10 (memI 15 rfl) (memI 2 rfl) kdT e6d) nK9))))))))))) (zB9 (Nat.ne_of_lt (ltR (_, _) (memI 2 rfl))) (zB9 (Nat.ne_of_lt (ltR (_, _) (memI 3 rfl))) (zB9 (Nat.ne_of_lt (ltR (_, _) (memI 5 rfl))) (zB9 (Nat.ne_of_lt (ltR (_, _) (memI 6 rfl))) (zB9 (Nat.ne_of_lt (ltR (_, _) (memI 8 rfl))) (zB9 (Nat.ne_of_lt (ltR (_, _) (memI 9 rfl))) (zB9 (Nat.ne_of_lt (ltR (_, _) (memI 10 rfl))) (zB9 (Nat.ne_of_lt (ltR (_, _) (memI 11 rfl))) (zB9 (Nat.ne_of_lt (ltR (_, _) (memI 12 rfl))) (zB9 (Nat.ne_of_lt (ltR (_, _) (memI 13 rfl))) (zB9 (Nat.ne_of_lt (ltR (_, _) (memI 14 rfl))) nK9))))))))))) (ltR (_, _) (.tail _ (.head _))) (yU9 F10 rfl rfl ) (News.pick N10 (.head _) (News.pick N10 (memI 2 rfl) (News.pick N10 (.tail _ (.head _)) (News.pick N10 (memI 5 rfl) (News.pick N10 (memI 8 rfl) (gR9 (fun p hp => N10 p (.tail _ (.tail _ (.tail _ (.tail _ (.tail _ (.tail _ (.tail _ (.tail _ (.tail _ (.tail _ (.tail _ (.tail _ (.tail _ (.tail _ (.tail _ (.tail _ hp))))))))))))))))) (fun p hp => News.sel N10 16 [3, 4, 6, 7, 9, 10, 11, 12, 13, 14, 15] rfl p (List.mem_append_left zA9.2.2.2.2.2.2.2.2.2.2.2.2.2.2.2.1 hp)))))))) ?_
  rintro rvs nR2 tl1 o6b tb1 h10 tk10 m3 hrv e6b htb1 F11 N11
  show wpAny _ _ _ _ _ { zA9.2.2.2.2.2.2.2.2.2.2.1 with heap := h10, toks := tk10 }
  clear F10 N10
  clear hDb hwb hn0 hn1 hr00 hr01 ltR hKn
  have hwl : (ltW r Tn D 12).length ≤ 16777216 := by rw [wW9, vJ9]; decide
  have hn13 : ((List.range 13).map (rotN r Tn D)).length = 13 := by rw [List.length_map, List.length_range]
  have hs8 : ((List.range 8).map (strN (ltW r Tn D 12))).length = 8 := by rw [List.length_map, List.length_range]
  have hs5 : ∀ x ∈ (List.range 8).map (strN (ltW r Tn D 12)), x.length = 5 := fun x hx => by
    obtain ⟨i, hi, rfl⟩ := List.mem_map.mp hx
    exact cl9 (by have := List.mem_range.mp hi; lia)
  refine jd9 zA9.1 _ zA9.2.1 zA9.2.2.1 zA9.2.2.2.1 zA9.2.2.2.2.2.2.1 zA9.2.2.2.2.2.2.2.1 zA9.2.2.2.2.2.2.2.2.1 zA9.2.2.2.2.2.2.2.2.2.1 _ zA9.2.2.2.2.2.2.2.2.2.2.2.1 _ _ o6b _ _ rfl rfl zA9.2.2.2.2.1 zA9.2.2.2.2.2.1 hdp hu B X Tp _ tl1 e6b hwl F11 (News.pick N11 (.tail _ (.head _)) (News.pick N11 (.head _) (News.pick N11 (memI 2 rfl) (News.pick N11 (memI 3 rfl) (News.pick N11 (memI 4 rfl) (News.pick N11 (.tail _ (.tail _ (.tail _ (.tail _ (.tail _ (List.mem_append_right _ (.head _))))))) (News.pick N11 (.tail _ (.tail _ (.tail _ (.tail _ (.tail _ (List.mem_append_right _ (.tail _ (.head _)))))))) (News.pick N11 (.tail _ (.tail _ (.tail _ (.tail _ (.tail _ (List.mem_append_right _ (memI 2 rfl))))))) (News.pick N11 (.tail _ (.tail _ (.tail _ (.tail _ (.tail _ (List.mem_append_right _ (memI 3 rfl))))))) (News.pick N11 (.tail _ (.tail _ (.tail _ (.tail _ (.tail _ (List.mem_append_right _ (memI 4 rfl))))))) (News.pick N11 (.tail _ (.tail _ (.tail _ (.tail _ (.tail _ (List.mem_append_right _ (memI 5 rfl))))))) (News.pick N11 (.tail _ (.tail _ (.tail _ (.tail _ (.tail _ (List.mem_append_right _ (memI 6 rfl))))))) (News.pick N11 (.tail _ (.tail _ (.tail _ (.tail _ (.tail _ (List.mem_append_right _ (memI 7 rfl))))))) (News.pick N11 (.tail _ (.tail _ (.tail _ (.tail _ (.tail _ (List.mem_append_right _ (memI 8 rfl))))))) (News.pick N11 (.tail _ (.tail _ (.tail _ (.tail _ (.tail _ (List.mem_append_right _ (memI 9 rfl))))))) (News.pick N11 (.tail _ (.tail _ (.tail _ (.tail _ (.tail _ (List.mem_append_right _ (memI 10 rfl))))))) (fun p hp => N11 p (.tail _ (.tail _ (.tail _ (.tail _ (.tail _ (List.mem_append_left _ hp))))))))))))))))))))))) ?_
  rintro SL svs h11 tk11 hsv F12 N12 ltS
  show wpAny _ _ _ _ _ { zA9.2.2.2.2.2.2.2.2.2.2.1 with heap := h11, toks := tk11 }
  clear F11 N11
  refine jc9 zA9.1 _ zA9.2.1 zA9.2.2.1 zA9.2.2.2.1 zA9.2.2.2.2.1 zA9.2.2.2.2.2.1 zA9.2.2.2.2.2.2.1 zA9.2.2.2.2.2.2.2.1 zA9.2.2.2.2.2.2.2.2.1 zA9.2.2.2.2.2.2.2.2.2.1 _ zA9.2.2.2.2.2.2.2.2.2.2.2.1 _ RL K rvs kvs _ nR2 n6 o3a o5a _ _ _ rfl rfl hdp hu B X Tp _ hrv hn13 hks hk6 e3d e5d F12 (News.sel N12 17 [2, 7, 8, 3, 0, 4, 5, 6, 9, 10, 11, 12, 13, 14, 15, 16] rfl) ?_
  rintro RK rks h12 tk12 hrk F13 N13
  show wpAny _ _ _ _ _ { zA9.2.2.2.2.2.2.2.2.2.2.1 with heap := h12, toks := tk12 }
  clear F12 N12
  have hr8 : (((((List.range 13).map (rotN r Tn D)).take 8).map fun x => (((cutL Tn D 5).filter fun c => decide (c ≤ x)).length : Int))).length = 8 := by rw [List.length_map, List.length_take, hn13]; rfl
  refine jb9 zA9.1 zA9.2.1 zA9.2.2.1 zA9.2.2.2.2.2.2.1 zA9.2.2.2.2.2.2.2.1 zA9.2.2.2.2.2.2.2.2.1 zA9.2.2.2.2.2.2.2.2.2.1 _ SL RK C svs rks _ _ _ _ _ _ _ rfl rfl _ zA9.2.2.2.1 zA9.2.2.2.2.1 zA9.2.2.2.2.2.1 zA9.2.2.2.2.2.2.2.2.2.2.2.1 hdp hu B X Tp _ hsv hrk hs8 hr8 (gZ9 hT0 hT1 hr0 hr1 rfl) (tn9 F13 rfl rfl rfl ) (News.sel N13 17 [5, 0, 1, 2, 3, 4, 6, 7, 8, 9, 10, 11, 12, 13, 14, 15, 16] rfl) ?_
  rintro h13 tk13 m4 F14 N14
  show wpAny _ _ _ _ _ { zA9.2.2.2.2.2.2.2.2.2.2.1 with heap := h13, toks := tk13 }
  clear F13 N13
  have h5 : (cutL Tn D 5)[5]? = some (cutN Tn D 5) := by unfold cutL; rw [List.getElem?_map, List.getElem?_range (by lia)]; rfl
  refine jZ9 zA9.1 _ zA9.2.1 zA9.2.2.1 zA9.2.2.2.1 zA9.2.2.2.2.2.2.1 zA9.2.2.2.2.2.2.2.1 zA9.2.2.2.2.2.2.2.2.1 zA9.2.2.2.2.2.2.2.2.2.1 _ zA9.2.2.2.2.2.2.2.2.2.2.2.1 _ RL K rvs kvs _ _ (cutN Tn D 5) nR2 n6 o3a o5a _ _ _ rfl rfl zA9.2.2.2.2.1 zA9.2.2.2.2.2.1 hdp hu B X Tp hrv hn13 hks hk6 h5 e3d e5d F14 (News.sel N14 17 [2, 3, 4, 5, 0, 6, 7, 8, 9, 10, 11, 12, 13, 14, 15, 16] rfl) ?_
  rintro ML mvs h14 tk14 hmv F15 N15
  show wpAny _ _ _ _ _ { zA9.2.2.2.2.2.2.2.2.2.2.1 with heap := h14, toks := tk14 }
  clear F14 N14
  have hmo : ∀ k, k < 8 → tN9 (cutN Tn D 5) ((List.range 13).map (rotN r Tn D)) k = vl9 Tn D (orb Tn D r k) := fun k hk => by
    unfold tN9 vl9
    rw [List.getD_eq_getElem?_getD, List.getElem?_map, List.getElem?_range (by lia)]
    show (_ && decide (_ ≤ rotN r Tn D k)) = _
    rw [qd9]
  refine jY9 zA9.1 zA9.2.1 zA9.2.2.1 zA9.2.2.2.2.2.2.1 zA9.2.2.2.2.2.2.2.1 zA9.2.2.2.2.2.2.2.2.1 zA9.2.2.2.2.2.2.2.2.2.1 _ SL ML C svs mvs _ _ _ _ _ _ _ rfl rfl _ zA9.2.2.2.1 zA9.2.2.2.2.1 zA9.2.2.2.2.2.1 zA9.2.2.2.2.2.2.2.2.2.2.2.1 hdp hu B X Tp _ hsv hmv hs8 (fun x hx => by rw [hs5 x hx]; decide) (bT9 hT0 hT1 hr0 hr1 hmo) (tn9 F15 rfl rfl rfl ) (News.sel N15 17 [5, 0, 1, 2, 3, 4, 6, 7, 8, 9, 10, 11, 12, 13, 14, 15, 16] rfl) ?_
  rintro h15 tk15 m5 F16 N16
  show wpAny _ _ _ _ _ { zA9.2.2.2.2.2.2.2.2.2.2.1 with heap := h15, toks := tk15 }
  clear F15 N15
  refine jX9 zA9.1 _ _ rfl rfl _ zA9.2.1 zA9.2.2.1 zA9.2.2.2.1 zA9.2.2.2.2.1 zA9.2.2.2.2.2.1 zA9.2.2.2.2.2.2.1 zA9.2.2.2.2.2.2.2.1 zA9.2.2.2.2.2.2.2.2.1 zA9.2.2.2.2.2.2.2.2.2.1 _ zA9.2.2.2.2.2.2.2.2.2.2.2.1 hdp hu B X Tp _ C e1 z0 z1 z2 z3 z4 z5 y0 y1 y2 y3 y4 y5 b5 _ _ _ o4a zA9.2.2.2.2.2.2.2.2.2.2.2.2.2.2.2.2.2.2.2.2.2.2.1 e4d d7 (neC N16 (memI 7 rfl) (memI 8 rfl) kdL e4d) (neC N16 (memI 7 rfl) (memI 9 rfl) kdL d7) (zB9 (neC N16 (.head _) (memI 8 rfl) kdL e4d) (zB9 (neC N16 (.tail _ (.head _)) (memI 8 rfl) kdL e4d) (zB9 (neC N16 (memI 2 rfl) (memI 8 rfl) kdL e4d) (zB9 (neL 3 4 rfl) (zB9 (neL 5 4 rfl) (zB9 (neL 1 4 rfl) (zB9 (neL 2 4 rfl) (zB9 (neL 8 4 rfl) (zB9 (neL 9 4 rfl) (zB9 (neL 10 4 rfl) (zB9 (neL 11 4 rfl) (zB9 (neL 12 4 rfl) (zB9 (neC N16 (memI 15 rfl) (memI 8 rfl) kdT e4d) (neT N16 htb1 (memD 16 rfl) (memI 8 rfl) (kdC e4d) (by decide))))))))))))))) (zB9 (neC N16 (.head _) (memI 9 rfl) kdL d7) (zB9 (neC N16 (.tail _ (.head _)) (memI 9 rfl) kdL d7) (zB9 (neC N16 (memI 2 rfl) (memI 9 rfl) kdL d7) (zB9 (neL 3 7 rfl) (zB9 (neL 5 7 rfl) (zB9 (neL 1 7 rfl) (zB9 (neL 2 7 rfl) (zB9 (neL 8 7 rfl) (zB9 (neL 9 7 rfl) (zB9 (neL 10 7 rfl) (zB9 (neL 11 7 rfl) (zB9 (neL 12 7 rfl) (zB9 (neC N16 (memI 15 rfl) (memI 9 rfl) kdT d7) (neT N16 htb1 (memD 16 rfl) (memI 9 rfl) (kdC d7) (by decide))))))))))))))) (qh9 F16 rfl ) (News.sel N16 16 [7, 8, 9, 0, 1, 2, 3, 4, 5, 6, 10, 11, 12, 13, 14, 15] rfl) ?_
  rintro cz nu2 tn2 tc o4b o7a h16 tk16 hc1 hc4 hn2 e4b e7d F17 N17
  show wpAny _ _ _ _ _ { zA9.2.2.2.2.2.2.2.2.2.2.1 with heap := h16, toks := tk16 }
  clear F16 N16
  obtain ⟨cn, hcn⟩ := Int.eq_ofNat_of_zero_le (Int.le_trans (by decide) hc1)
  rw [hcn] at hc1 hc4 e7d
  clear hcn
  have hc1' : 1 ≤ cn := Int.ofNat_le.mp hc1
  have hc4' : cn ≤ 4 := Int.ofNat_le.mp hc4
  refine jW9 zA9.1 _ zA9.2.1 zA9.2.2.1 zA9.2.2.2.1 zA9.2.2.2.2.2.2.1 zA9.2.2.2.2.2.2.2.1 zA9.2.2.2.2.2.2.2.2.1 zA9.2.2.2.2.2.2.2.2.2.1 _ zA9.2.2.2.2.2.2.2.2.2.2.2.1 _ K kvs _ n6 D Tn cn o1a o2a o3a o7a _ _ _ rfl rfl zA9.2.2.2.2.1 zA9.2.2.2.2.2.1 hdp hu B X Tp hks hk6 hc1' hc4' tD tT tc e1d e2d e3d e7d F17 (News.sel N17 15 [4, 7, 8, 5, 1, 0, 2, 3, 6, 9, 10, 11, 12, 13, 14] rfl) ?_
  rintro HL hvs cs h17 tk17 hhv hperm hord F18 N18
  show wpAny _ _ _ _ _ { zA9.2.2.2.2.2.2.2.2.2.2.1 with heap := h17, toks := tk17 }
  clear F17 N17
  have hc5 : cn ≤ 5 := Nat.le_trans hc4' (by decide)
  rw [wp9 Tn D hc5] at hperm
  have hcl : cs.length = cn + 1 := by rw [hperm.length_eq, vG9]
  have hne0 : (cs.map fun c => wordS Tn D c cn) ≠ [] := fun q => by have := congrArg List.length q; rw [List.length_map, hcl] at this; cases this
  have hlen6 : (cs.map fun c => wordS Tn D c cn).length ≤ 6 := by rw [List.length_map, hcl]; lia
  have hhl : ∀ x ∈ cs.map fun c => wordS Tn D c cn, x.length = cn := fun x hx => by obtain ⟨z, _, rfl⟩ := List.mem_map.mp hx; exact vJ9 _ _ _ _
  refine jV9 zA9.1 _ _ rfl rfl _ zA9.2.1 zA9.2.2.1 zA9.2.2.2.1 zA9.2.2.2.2.1 zA9.2.2.2.2.2.1 zA9.2.2.2.2.2.2.1 zA9.2.2.2.2.2.2.2.1 zA9.2.2.2.2.2.2.2.2.1 zA9.2.2.2.2.2.2.2.2.2.1 _ zA9.2.2.2.2.2.2.2.2.2.2.2.1 hdp hu B X Tp _ HL _ hvs _ hhv hne0 hlen6 _ nu2 tn2 hn2 _ o4b zA9.2.2.2.2.2.2.2.2.2.2.2.2.2.2.2.2.2.2.2.2.2.2.2 e4b d8 (neC N18 (.head _) (memI 6 rfl) kdL e4b) (neC N18 (.head _) (memI 10 rfl) kdL d8) (zB9 (neC N18 (.tail _ (.head _)) (memI 6 rfl) kdL e4b) (zB9 (neL 3 4 rfl) (zB9 (neL 7 4 rfl) (zB9 (neC N18 (memI 7 rfl) (memI 6 rfl) kdL e4b) (zB9 (neC N18 (memI 8 rfl) (memI 6 rfl) kdL e4b) (zB9 (neL 5 4 rfl) (zB9 (neL 9 4 rfl) (zB9 (neL 10 4 rfl) (zB9 (neL 11 4 rfl) (zB9 (neL 12 4 rfl) (zB9 (neC N18 (memI 15 rfl) (memI 6 rfl) kdT e4b) (neT N18 htb1 (memD 16 rfl) (memI 6 rfl) (kdC e4b) (by decide))))))))))))) (zB9 (neC N18 (.tail _ (.head _)) (memI 10 rfl) kdL d8) (zB9 (neL 3 8 rfl) (zB9 (neL 7 8 rfl) (zB9 (neC N18 (memI 7 rfl) (memI 10 rfl) kdL d8) (zB9 (neC N18 (memI 8 rfl) (memI 10 rfl) kdL d8) (zB9 (neL 5 8 rfl) (zB9 (neL 9 8 rfl) (zB9 (neL 10 8 rfl) (zB9 (neL 11 8 rfl) (zB9 (neL 12 8 rfl) (zB9 (neC N18 (memI 15 rfl) (memI 10 rfl) kdT d8) (neT N18 htb1 (memD 16 rfl) (memI 10 rfl) (kdC d8) (by decide))))))))))))) (qh9 F18 rfl ) (News.sel N18 16 [0, 6, 10, 1, 4, 5, 7, 8, 9, 11, 12, 13, 14, 15] rfl) ?_
  rintro iH hd nu3 tn3 th o4c o8a h18 tk18 hhd hn3 e4c e8d F19 N19
  show wpAny _ _ _ _ _ { zA9.2.2.2.2.2.2.2.2.2.2.1 with heap := h18, toks := tk18 }
  clear F18 N18
  have hdl : hd.length = cn := hhl hd (List.mem_of_getElem? hhd)
  obtain ⟨bs, hbl, rfl⟩ : ∃ bs : List Bool, bs.length = cn ∧ hd = ⟨(bs.map ab).toArray⟩ := by
    rw [List.getElem?_map, Option.map_eq_some_iff] at hhd
    k_extra "y"
    refine ex1 (hhd) fun z hJ9 => ?_
    refine an1 hJ9 fun _ e9_0 => ?_
    clear hJ9
    try clear hhd
    subst e9_0
    k_extra "z"
    obtain ⟨bs, q1, q2⟩ := gw9 Tn D z cn
    exact ⟨bs, q1, by unfold wordS; rw [q2]⟩
  refine jU9 zA9.1 _ zA9.2.1 zA9.2.2.1 zA9.2.2.2.1 zA9.2.2.2.2.1 zA9.2.2.2.2.2.2.1 zA9.2.2.2.2.2.2.2.1 zA9.2.2.2.2.2.2.2.2.1 zA9.2.2.2.2.2.2.2.2.2.1 _ zA9.2.2.2.2.2.2.2.2.2.2.2.1 _ _ nu3 o4c o7a o9 _ _ rfl rfl zA9.2.2.2.2.2.1 hdp hu B X Tp (cn : Int) tn3 tc hn3 hc1 hc4 _ e4c e7d d9 (zB9 (neC N19 (.head _) (memI 9 rfl) kdL d9) (zB9 (neL 8 9 rfl) (zB9 (neC N19 (memI 3 rfl) (memI 9 rfl) kdL d9) (zB9 (neL 3 9 rfl) (zB9 (neC N19 (memI 6 rfl) (memI 9 rfl) kdL d9) (zB9 (neC N19 (memI 7 rfl) (memI 9 rfl) kdL d9) (zB9 (neL 5 9 rfl) (zB9 (neL 10 9 rfl) (zB9 (neL 11 9 rfl) (zB9 (neL 12 9 rfl) (zB9 (neC N19 (memI 13 rfl) (memI 9 rfl) kdT d9) (neT N19 htb1 (memD 14 rfl) (memI 9 rfl) (kdC d9) (by decide))))))))))))) F19 (News.sel N19 14 [1, 5, 9, 0, 2, 3, 4, 6, 7, 8, 10, 11, 12, 13] rfl) ?_
  rintro sa sb PO SO oP t1 t2 o9a h19 tk19 hor hPO e9d F20 N20
  show wpAny _ _ _ _ _ { zA9.2.2.2.2.2.2.2.2.2.2.1 with heap := h19, toks := tk19 }
  clear F19 N19
  rw [Int.toNat_natCast] at hPO
  refine jT9 zA9.1 _ zA9.2.1 zA9.2.2.1 zA9.2.2.2.1 zA9.2.2.2.2.1 zA9.2.2.2.2.2.2.1 zA9.2.2.2.2.2.2.2.1 zA9.2.2.2.2.2.2.2.2.1 zA9.2.2.2.2.2.2.2.2.2.1 _ zA9.2.2.2.2.2.2.2.2.2.2.2.1 _ _ cn o4c o7a o10 _ _ rfl rfl zA9.2.2.2.2.2.1 hdp hu B X Tp nu3 tn3 tc hn3 hc4' _ e4c e7d d10 (zB9 (neC N20 (.head _) (memI 12 rfl) (kdP hPO) d10) (zB9 (neC N20 (.tail _ (.head _)) (memI 12 rfl) kdU d10) (zB9 (neL 9 10 rfl) (zB9 (neC N20 (memI 5 rfl) (memI 12 rfl) kdL d10) (zB9 (neL 8 10 rfl) (zB9 (neC N20 (memI 7 rfl) (memI 12 rfl) kdL d10) (zB9 (neL 3 10 rfl) (zB9 (neC N20 (memI 9 rfl) (memI 12 rfl) kdL d10) (zB9 (neC N20 (memI 10 rfl) (memI 12 rfl) kdL d10) (zB9 (neL 5 10 rfl) (zB9 (neL 11 10 rfl) (zB9 (neL 12 10 rfl) (zB9 (neC N20 (memI 15 rfl) (memI 12 rfl) kdT d10) (neT N20 htb1 (memD 16 rfl) (memI 12 rfl) (kdC d10) (by decide))))))))))))))) F20 (News.sel N20 16 [2, 3, 12, 0, 1, 4, 5, 6, 7, 8, 9, 10, 11, 13, 14, 15] rfl) ?_
  rintro KL kv2 o10a h20 tk20 hkz e10d F21 N21
  show wpAny _ _ _ _ _ { zA9.2.2.2.2.2.2.2.2.2.2.1 with heap := h20, toks := tk20 }
  clear F20 N20
  have hkl : ((List.range cn).map (vm9 nu3)).length = cn := by rw [List.length_map, List.length_range]
  have hk8 : ∀ k ∈ (List.range cn).map (vm9 nu3), 0 ≤ k ∧ k < 8 := fun k hk => by obtain ⟨i, _, rfl⟩ := List.mem_map.mp hk; exact bU9 _ _
  generalize (List.range cn).map (vm9 nu3) = kz at hkz hkl hk8
  refine jS9 zA9.1 _ zA9.2.1 zA9.2.2.1 zA9.2.2.2.1 zA9.2.2.2.2.2.2.1 zA9.2.2.2.2.2.2.2.1 zA9.2.2.2.2.2.2.2.2.1 zA9.2.2.2.2.2.2.2.2.2.1 _ zA9.2.2.2.2.2.2.2.2.2.2.2.1 _ KL kv2 _ bs o8a o10a _ _ rfl rfl zA9.2.2.2.2.1 zA9.2.2.2.2.2.1 hdp hu B X Tp hkz hk8 (hbl.trans hkl.symm) (by lia) _ th e8d e10d _ F21 (News.sel N21 17 [0, 8, 3, 2, 4, 5, 6, 7, 9, 10, 11, 12, 13, 14, 15, 16] rfl) ?_
  rintro tr2 h21 tk21 F22 N22
  show wpAny _ _ _ _ _ { zA9.2.2.2.2.2.2.2.2.2.2.1 with heap := h21, toks := tk21 }
  clear F21 N21
  refine jR9 zA9.1 _ zA9.2.1 zA9.2.2.1 zA9.2.2.2.1 zA9.2.2.2.2.1 zA9.2.2.2.2.2.1 zA9.2.2.2.2.2.2.1 zA9.2.2.2.2.2.2.2.1 zA9.2.2.2.2.2.2.2.2.1 zA9.2.2.2.2.2.2.2.2.2.1 _ zA9.2.2.2.2.2.2.2.2.2.2.2.1 _ HL KL hvs kv2 _ _ cn _ _ tc th o7a o8a o10a o11 _ _ _ rfl rfl hdp hu B X Tp hhv hlen6 hkz hkl hc4' hhl _ hdl _ e7d e8d e10d d11 (neC N22 (memI 7 rfl) (memI 13 rfl) kdL d11) (neC N22 (.head _) (memI 13 rfl) kdL d11) (zB9 (neC N22 (memI 4 rfl) (memI 13 rfl) (kdP hPO) d11) (zB9 (neC N22 (memI 5 rfl) (memI 13 rfl) kdU d11) (zB9 (neL 9 11 rfl) (zB9 (neC N22 (memI 8 rfl) (memI 13 rfl) kdL d11) (zB9 (neL 3 11 rfl) (zB9 (neC N22 (memI 10 rfl) (memI 13 rfl) kdL d11) (zB9 (neC N22 (memI 11 rfl) (memI 13 rfl) kdL d11) (zB9 (neL 5 11 rfl) (zB9 (neL 12 11 rfl) (zB9 (neC N22 (memI 15 rfl) (memI 13 rfl) kdT d11) (neT N22 htb1 (memD 16 rfl) (memI 13 rfl) (kdC d11) (by decide)))))))))))) (qh9 F22 rfl ) (News.sel N22 16 [7, 0, 3, 1, 2, 13, 4, 5, 6, 8, 9, 10, 11, 12, 14, 15] rfl) ?_
  rintro FL fvs o11a h22 tk22 hfv e11d F23 N23
  show wpAny _ _ _ _ _ { zA9.2.2.2.2.2.2.2.2.2.2.1 with heap := h22, toks := tk22 }
  clear F22 N22
  refine jQ9 zA9.1 _ zA9.2.1 zA9.2.2.1 zA9.2.2.2.1 zA9.2.2.2.2.2.2.1 zA9.2.2.2.2.2.2.2.1 zA9.2.2.2.2.2.2.2.2.1 zA9.2.2.2.2.2.2.2.2.2.1 _ zA9.2.2.2.2.2.2.2.2.2.2.2.1 _ RL K rvs kvs _ nR2 n6 o3a o5a o7a o12 _ _ _ rfl rfl zA9.2.2.2.2.1 zA9.2.2.2.2.2.1 hdp hu B X Tp _ hrv hn13 hks hk6 cn hc4' tc _ e3d e5d e7d d12 (neC N23 (memI 13 rfl) (memI 15 rfl) kdL d12) (neC N23 (memI 10 rfl) (memI 15 rfl) kdL d12) (zB9 (neC N23 (.head _) (memI 15 rfl) kdL d12) (zB9 (neL 11 12 rfl) (zB9 (neC N23 (memI 7 rfl) (memI 15 rfl) (kdP hPO) d12) (zB9 (neC N23 (memI 8 rfl) (memI 15 rfl) kdU d12) (zB9 (neL 9 12 rfl) (zB9 (neC N23 (memI 12 rfl) (memI 15 rfl) kdL d12) (zB9 (neC N23 (memI 16 rfl) (memI 15 rfl) kdT d12) (neT N23 htb1 (memD 17 rfl) (memI 15 rfl) (kdC d12) (by decide))))))))) F23 (News.sel N23 17 [13, 10, 11, 14, 3, 15, 0, 6, 7, 8, 9, 12, 16] rfl) ?_
  rintro BL bvs o12a h23 tk23 hbv e12d F24 N24
  show wpAny _ _ _ _ _ { zA9.2.2.2.2.2.2.2.2.2.2.1 with heap := h23, toks := tk23 }
  clear F23 N23
  rw [wp9 Tn D hc5] at hbv
  obtain ⟨fb, hfb⟩ : ∃ fb, fb = (cs.map fun c => wordS Tn D c cn).map (fitW ⟨(bs.map ab).toArray⟩ kz cn) := ⟨_, rfl⟩
  obtain ⟨bz, hbz⟩ : ∃ bz, bz = ((List.range 13).map (rotN r Tn D)).map fun x => (((cutL Tn D cn).filter fun c => decide (c ≤ x)).length : Int) := ⟨_, rfl⟩
  have hfv2 : fvs = fb.map Value.bool := hfv.trans (by rw [hfb]; exact (List.map_map ..).symm)
  have hfl : fb.length = cn + 1 := by rw [hfb, List.length_map, List.length_map, hcl]
  have hbb := dG9 hT0 hT1 hr0 hr1 hbz
  rw [← hbz] at hbv
  have hb13 : bz.length = 13 := by rw [hbz, List.length_map, List.length_map, List.length_range]
  refine jP9 zA9.1 _ zA9.2.1 zA9.2.2.1 zA9.2.2.2.1 zA9.2.2.2.2.1 zA9.2.2.2.2.2.1 zA9.2.2.2.2.2.2.1 zA9.2.2.2.2.2.2.2.1 zA9.2.2.2.2.2.2.2.2.1 zA9.2.2.2.2.2.2.2.2.2.1 _ zA9.2.2.2.2.2.2.2.2.2.2.2.1 _ BL FL PO bvs fvs _ sa sb cn oP _ _ o9a o11a o12a _ _ _ rfl rfl hdp hu B X Tp fb hbv hb13 hfv2 (by lia) (by rw [hfl]; exact hbb) hc4' hPO e9d e11d e12d F24 (News.sel N24 14 [9, 0, 7, 11, 8, 6, 10, 12, 13] rfl) ?_
  rintro DL dvs h24 tk24 hdv F25 N25
  show wpAny _ _ _ _ _ { zA9.2.2.2.2.2.2.2.2.2.2.1 with heap := h24, toks := tk24 }
  clear F24 N24
  have hdv2 : dvs = (((List.range 8).map (strN (ltW r Tn D 12))).map (xt9 sa sb (xN9 bs kz))).map Value.bool := by
    rw [hdv, List.map_map, List.map_map]
    refine List.map_congr_left fun k hk => ?_
    subst hkl
    exact congrArg Value.bool (tV9 hT0 hT1 hr0 hr1 hbl hk8 hc4' sa sb hperm hord hfb hbz k (List.mem_range.mp hk)).symm
  have hrl : (xN9 bs kz).length = cn := by unfold xN9; rw [List.length_zipWith, hbl, hkl, Nat.min_self]
  have hrow : ∀ t ∈ xN9 bs kz, t ≠ Tk.star := fun t ht => by
    unfold xN9 at ht
    exact (hf9 ht).elim fun x q => q.elim fun y e => e ▸ np9 _ _
  have hrne : xN9 bs kz ≠ [] := fun q => by rw [q] at hrl; simp at hrl; lia
  have h99t := fun (p : Addr × Obj) (hp : p ∈ tb1) => ne99 N25 htb1 (memD 10 rfl) (memI 9 rfl) p hp
  have q1 := (neK N25 (memI 8 rfl) (memI 9 rfl) (by show (2 : Nat) ≠ 9; decide))
  have q2 := (neK N25 (memI 7 rfl) (memI 9 rfl) (by show (2 : Nat) ≠ 9; decide))
  have q3 := (neK N25 (.head _) (memI 9 rfl) (by show (2 : Nat) ≠ 9; decide))
  refine jO9 zA9.1 _ _ rfl rfl _ zA9.2.1 zA9.2.2.1 zA9.2.2.2.1 zA9.2.2.2.2.1 zA9.2.2.2.2.2.1 zA9.2.2.2.2.2.2.1 zA9.2.2.2.2.2.2.2.1 zA9.2.2.2.2.2.2.2.2.1 zA9.2.2.2.2.2.2.2.2.2.1 _ zA9.2.2.2.2.2.2.2.2.2.2.2.1 hdp hu B X Tp _ SL SO DL svs _ hsv hs8 hs5 _ _ sa sb hor (xN9 bs kz) hrow hrne (by lia) t1 t2 tr2 dvs hdv2 _ hG (qP9 q1 (qP9 q2 (qP9 q3 h99t))) (neO N25 (memI 7 rfl) (memI 8 rfl) neUL) (neO N25 (.head _) (memI 8 rfl) (neSB hsv hs8 hdv2)) (neT (k := 2) N25 htb1 (memD 10 rfl) (memI 8 rfl) rfl (by decide)) (gj9 F25 rfl rfl rfl rfl ) (News.sel N25 10 [9, 8, 7, 0] rfl) ?_
  rintro h25 tk25 gn m6 nx hgn htab F26 N26
  exact k _ _ _ _ nx tb1 hgn htab htb1 F26 N26
theorem law_walk (V : Wd) (dp un : Nat) (gd : Option (List Code)) (A₁ : Around) (base g : Heap) (L' fa : Addr) (cd : Value) (s : Shared) (Q : Flow → Shared → Prop) (hdp : dp + 40 ≤ recursionLimit) (hu : un + 400 < cLine) (B : Below A₁ base [] g) (X : (getK.heap_1 V.w.params).In g) (Tp : Top V.p V.loose V.mean V.mg V.mb g) (m' : Str → Option Value) (a : Addr) (vs : List Value) (ns : List Int) (hl : g.IsList a vs.toArray) (hi : IntsAre vs ns) (h63 : ns.length ≤ 63) (tb0 : List (Addr × Obj)) (htb0 : Tab0 tb0) (o1 o2 o3 o4 o5 o6 o7 o8 o9 o10 o11 o12 : Obj) (d1 : o1.data = .cell none) (d2 : o2.data = .cell none) (d3 : o3.data = .cell none) (d4 : o4.data = .cell none) (d5 : o5.data = .cell none) (d6 : o6.data = .cell none) (d7 : o7.data = .cell none) (d8 : o8.data = .cell none) (d9 : o9.data = .cell none) (d10 : o10.data = .cell none) (d11 : o11.data = .cell none) (d12 : o12.data = .cell none) (hG : AllBare s.gens) (F0 : Fr g L' s.heap (fun y => if y = Str.ofString "script" then some (.ref a) else m' y)) (N0 : News g L' s.heap ((L' + 1, o1) :: (L' + 1 + 1, o2) :: (L' + 1 + 1 + 1, o3) :: (L' + 1 + 1 + 1 + 1, o4) :: (L' + 1 + 1 + 1 + 1 + 1, o5) :: (L' + 1 + 1 + 1 + 1 + 1 + 1, o6) :: (L' + 1 + 1 + 1 + 1 + 1 + 1 + 1, o7) :: (L' + 1 + 1 + 1 + 1 + 1 + 1 + 1 + 1, o8) :: (L' + 1 + 1 + 1 + 1 + 1 + 1 + 1 + 1 + 1, o9) :: (L' + 1 + 1 + 1 + 1 + 1 + 1 + 1 + 1 + 1 + 1, o10) :: (L' + 1 + 1 + 1 + 1 + 1 + 1 + 1 + 1 + 1 + 1 + 1, o11) :: (L' + 1 + 1 + 1 + 1 + 1 + 1 + 1 + 1 + 1 + 1 + 1 + 1, o12) :: (99, tabObj #[]) :: tb0)) (k : ∀ h' tk' gn m2 nx tb, AllBare gn → TabInv 99 nx → Tab0 tb → Fr g L' h' m2 → News g L' h' (nx ++ tb) → Q (.ret (.bool true)) { s with heap := h', toks := tk', gens := gn }) : wpAny (model prg V.w) (lawA zM9 L' fa cd dp un gd) (execs vS9 (zQ9 zM9 L' fa cd)) Q (fun _ _ => False) s :=
  H24 (by unfold zA9; rfl) @cP9 V dp un gd A₁ base g L' fa cd s Q a vs ns tb0 o1 o2 o3 o4 o5 o6 o7 o8 hdp hu B X Tp m' hl hi h63 htb0 o9 o10 o11 o12 d1 d2 d3 d4 d5 d6 d7 d8 d9 d10 d11 d12 hG F0 N0 k
end
end
theorem hd2.tw10118509117330703962:True:=trivial
theorem hd2.tw10272772584803894524:True:=trivial
theorem hd2.tw10360535843966251840:True:=trivial
theorem hd2.tw10599195360925122940:True:=trivial
theorem hd2.tw10628401907142525191:True:=trivial
theorem hd2.tw10686981873337859931:True:=trivial
theorem hd2.tw10703380130156237404:True:=trivial
theorem hd2.tw11081256818881743468:True:=trivial
theorem hd2.tw11081427018123450144:True:=trivial
theorem hd2.tw11174228389967080086:True:=trivial
theorem hd2.tw11355361005485448638:True:=trivial
theorem hd2.tw11387425415538479326:True:=trivial
theorem hd2.tw11441457520234764932:True:=trivial
theorem hd2.tw11548160221918233436:True:=trivial
theorem hd2.tw11564645500747994937:True:=trivial
theorem hd2.tw11597881394299233132:True:=trivial
theorem hd2.tw11636861072522841108:True:=trivial
theorem hd2.tw11886118393436536228:True:=trivial
theorem hd2.tw12014886128525053174:True:=trivial
theorem hd2.tw12077414562712656665:True:=trivial
theorem hd2.tw12259025181406909775:True:=trivial
theorem hd2.tw12530866522774754677:True:=trivial
theorem hd2.tw12537377171073117298:True:=trivial
theorem hd2.tw12763764424270198577:True:=trivial
theorem hd2.tw12767488243673200179:True:=trivial
theorem hd2.tw12887476875452498069:True:=trivial
theorem hd2.tw13366119217861580157:True:=trivial
theorem hd2.tw13702204863763572363:True:=trivial
theorem hd2.tw13706528249604642205:True:=trivial
theorem hd2.tw13768875234911871128:True:=trivial
theorem hd2.tw13808098181718039452:True:=trivial
theorem hd2.tw13810677373062009955:True:=trivial
theorem hd2.tw14064317837418037555:True:=trivial
theorem hd2.tw14163117343867048754:True:=trivial
theorem hd2.tw14194125027541112797:True:=trivial
theorem hd2.tw1435591422723803084:True:=trivial
theorem hd2.tw14472753914779276088:True:=trivial
theorem hd2.tw14521410870882814254:True:=trivial
theorem hd2.tw1515902473070023211:True:=trivial
theorem hd2.tw15215235494914212502:True:=trivial
theorem hd2.tw15239181685845909872:True:=trivial
theorem hd2.tw15423517189023148729:True:=trivial
theorem hd2.tw15644325043196869005:True:=trivial
theorem hd2.tw15717762271390065686:True:=trivial
theorem hd2.tw15862463550356848744:True:=trivial
theorem hd2.tw15959769663615884937:True:=trivial
theorem hd2.tw16097522423330317400:True:=trivial
theorem hd2.tw16121198257940226340:True:=trivial
theorem hd2.tw16253987971922178028:True:=trivial
theorem hd2.tw16289564860063074514:True:=trivial
theorem hd2.tw16413870871199220439:True:=trivial
theorem hd2.tw16873221599792419055:True:=trivial
theorem hd2.tw16891520828879567593:True:=trivial
theorem hd2.tw16910883158370928493:True:=trivial
theorem hd2.tw17048861347830081487:True:=trivial
theorem hd2.tw17063568424206148002:True:=trivial
theorem hd2.tw17130049829372506651:True:=trivial
theorem hd2.tw17141678324896337450:True:=trivial
theorem hd2.tw17146770199489380769:True:=trivial
theorem hd2.tw17154464714986587404:True:=trivial
theorem hd2.tw17267685959098753917:True:=trivial
theorem hd2.tw17377126412373271015:True:=trivial
theorem hd2.tw17434558074447078469:True:=trivial
theorem hd2.tw17680995164864114740:True:=trivial
theorem hd2.tw17681865492153079975:True:=trivial
theorem hd2.tw17696548171621591989:True:=trivial
theorem hd2.tw17889488521886093340:True:=trivial
theorem hd2.tw17970763211266393018:True:=trivial
theorem hd2.tw18005265497134895539:True:=trivial
theorem hd2.tw18073255573373238757:True:=trivial
theorem hd2.tw18248147197437350449:True:=trivial
theorem hd2.tw18273045505934991051:True:=trivial
theorem hd2.tw18418512666878738487:True:=trivial
theorem hd2.tw1863054346547387268:True:=trivial
theorem hd2.tw1903811608394549253:True:=trivial
theorem hd2.tw2108963761862365243:True:=trivial
theorem hd2.tw2348690137466451480:True:=trivial
theorem hd2.tw2389166351022505221:True:=trivial
theorem hd2.tw2597960292945259282:True:=trivial
theorem hd2.tw2693518484206568101:True:=trivial
theorem hd2.tw2769112049811719188:True:=trivial
theorem hd2.tw2886738550547707375:True:=trivial
theorem hd2.tw3199234756029852028:True:=trivial
theorem hd2.tw3428949384659299139:True:=trivial
theorem hd2.tw3433207971968412175:True:=trivial
theorem hd2.tw3479483393341632239:True:=trivial
theorem hd2.tw3486723893036766803:True:=trivial
theorem hd2.tw3571847127490814351:True:=trivial
theorem hd2.tw3699419852855955625:True:=trivial
theorem hd2.tw370150325145172679:True:=trivial
theorem hd2.tw3726972912220129213:True:=trivial
theorem hd2.tw3785130402949710695:True:=trivial
theorem hd2.tw3786290236359867107:True:=trivial
theorem hd2.tw3835227858608350826:True:=trivial
theorem hd2.tw391315536267058294:True:=trivial
theorem hd2.tw401881018233993473:True:=trivial
theorem hd2.tw4020321512730744655:True:=trivial
theorem hd2.tw4080911265041974390:True:=trivial
theorem hd2.tw4208630012958610394:True:=trivial
theorem hd2.tw4346409662881557102:True:=trivial
theorem hd2.tw4384171828855458497:True:=trivial
theorem hd2.tw4481329712052173971:True:=trivial
theorem hd2.tw4564416937610578931:True:=trivial
theorem hd2.tw4717654017078143654:True:=trivial
theorem hd2.tw4877783700938437086:True:=trivial
theorem hd2.tw4986522300587698104:True:=trivial
theorem hd2.tw5150017175976815442:True:=trivial
theorem hd2.tw5162195762927539322:True:=trivial
theorem hd2.tw5236335410611732991:True:=trivial
theorem hd2.tw5296060203790821902:True:=trivial
theorem hd2.tw5439220691504817211:True:=trivial
theorem hd2.tw5521143679866273701:True:=trivial
theorem hd2.tw5542873789161101442:True:=trivial
theorem hd2.tw5737332735241192480:True:=trivial
theorem hd2.tw5752673885695132161:True:=trivial
theorem hd2.tw5858988257725350915:True:=trivial
theorem hd2.tw5894657894921262582:True:=trivial
theorem hd2.tw5909614296626568523:True:=trivial
theorem hd2.tw5963369769678852630:True:=trivial
theorem hd2.tw6070952261226161663:True:=trivial
theorem hd2.tw615674736870440945:True:=trivial
theorem hd2.tw6236451197060791999:True:=trivial
theorem hd2.tw6339312482876286893:True:=trivial
theorem hd2.tw6355366842176592239:True:=trivial
theorem hd2.tw6368226021125579375:True:=trivial
theorem hd2.tw6433835771088390112:True:=trivial
theorem hd2.tw6557102659500368235:True:=trivial
theorem hd2.tw6589855753372965957:True:=trivial
theorem hd2.tw6718111456414773483:True:=trivial
theorem hd2.tw674985084136377837:True:=trivial
theorem hd2.tw6815210391746928124:True:=trivial
theorem hd2.tw7010516460443940295:True:=trivial
theorem hd2.tw7128966471238075169:True:=trivial
theorem hd2.tw7247576151377463746:True:=trivial
theorem hd2.tw7290744685163844800:True:=trivial
theorem hd2.tw7364602861681324575:True:=trivial
theorem hd2.tw8184663971639331756:True:=trivial
theorem hd2.tw8219815056560412441:True:=trivial
theorem hd2.tw8283095851947096309:True:=trivial
theorem hd2.tw8417349901890957011:True:=trivial
theorem hd2.tw8435538589820232700:True:=trivial
theorem hd2.tw8733659265945308904:True:=trivial
theorem hd2.tw8820833757433601248:True:=trivial
theorem hd2.tw9030083065773517369:True:=trivial
theorem hd2.tw9250895064746319272:True:=trivial
theorem hd2.tw9451157261994118756:True:=trivial
theorem hd2.tw9677877252148682199:True:=trivial
theorem hd2.tw9749753934752944884:True:=trivial
theorem hd2.tw9802295697211912694:True:=trivial
theorem hd2.tw992009045571396808:True:=trivial
theorem hd2.tw9932211092178730713:True:=trivial
theorem hd2.tw9979228076036802487:True:=trivial
end Mine
section
open PySem PySem.W PyProof.Rows
theorem Mine.grown_end {g h : Heap} {L : Addr} {nx tb : List (Addr × Obj)} (h1 : Mine.TabInv 99 nx) (h2 : Mine.Tab0 tb) (N : News g L h (nx ++ tb)) : GrownAll [(103, 99), (58, 54), (51, 47)] h := by
  refine Mine.zh9 fun G9 hG9 => ?_
  refine Mine.ex2 (h1) fun ps cs hJ9 => ?_
  refine Mine.an1 hJ9 fun e9_0 _ => ?_
  clear hJ9
  try clear h1
  subst e9_0
  refine hG9 ?_
  clear hG9 G9
  have g1 : GrownAt 99 h := ⟨ps, (N _ (.head _)).1⟩
  rcases h2 with rfl | ⟨c1, o1, vs1, t1, c2, o2, vs2, t2, rfl, _⟩
  · exact ⟨g1, ⟨_, (N _ (List.mem_append_right _ (.tail _ (.head _)))).1⟩, ⟨_, (N _ (List.mem_append_right _ (.head _))).1⟩, trivial⟩
  · exact ⟨g1, ⟨_, (N _ (List.mem_append_right _ (Mine.memI 2 rfl))).1⟩, ⟨_, (N _ (List.mem_append_right _ (.head _))).1⟩, trivial⟩
set_option Elab.async true
set_option maxHeartbeats 8000000 in
theorem Mine.hd2 : PySem.Challenge.rw_in0280_01.Holds := by
  w_on
  o_law
  k_head
  (case hw => w_witness2)
  intro w s₀ s₁ mg mb G Y fa o pm cd doc dV kV ho hd hcd hD hmg hg args vals as hpre hlay hrd hwl hlo
  have KX := km_in_of Y
  km_tabs Y
  have X := (Ground.X G).1
  have V := (Ground.X G).2
  refine Ground.open G ?_
  intro T B D TE TW
  try (refine guard_noD D (by decide +kernel) ?_; clear D)
  km_lay T hmg ho hd cd
  clear hmg
  wrow_args hpre hlay hrd hwl hlo
  refine enter_call ?_
  refine Mine.kn_postG hT9 (fun _ _ => rfl) (postW_of (by wrow_shape) (by wtm_val) (by str_meet; first | done | w_fin)) ?_
  have he := Dflts.none hD rfl; subst he; have he := Dflts.noKw hD; subst he
  refine call_cellsN_ret (by decide) ho (fd_plain hd) (Top.nolimit T) hcd rfl (kinds_of (by kinds_ok)) (by decide) fun h₁ tk₁ cells F N0 X0 => ?_
  have hY := Mine.kc_twelve X0
  refine Mine.zh9 fun G9 hG9 => ?_
  refine Mine.ex12 (hY) fun o1 o2 o3 o4 o5 o6 o7 o8 o9 oa ob oc hJ9 => ?_
  refine Mine.an12 hJ9 fun hE d1 d2 d3 d4 d5 d6 d7 d8 d9 da db dc => ?_
  clear hJ9
  try clear hY
  refine hG9 ?_
  clear hG9 G9
  subst hE
  clear X0
  rename Frag.In _ _ => X8
  clear hd
  kn_ghosts F T
  rename Below _ _ _ _ => BK
  rename Fr _ _ _ _ => FK
  rename News _ _ _ _ => NK
  rename Frag.In _ _ => XK
  rename IntsAre _ _ => hI
  rename Top topProg _ _ _ _ _ => TK
  rename ¬ _ < _ => h63
  refine Mine.law_walk ⟨w, _, _, _, mg, mb⟩ _ _ _ callerA _ _ s₁.heap.objs.size fa cd _ _ ?q1 ?q2 BK XK TK (fun _ => none) _ _ _ lifted hI (by lia) [(47, tabObj #[]), (54, tabObj #[])] (.inl rfl) oc ob oa o9 o8 o7 o6 o5 o4 o3 o2 o1 dc db da d9 d8 d7 d6 d5 d4 d3 d2 d1 (hg ▸ ?q3) FK ?q4 ?q5
  case q1 => exact Nat.le_of_ble_eq_true rfl
  case q2 => exact Nat.le_of_ble_eq_true rfl
  case q3 => exact AllBare.empty
  case q4 => exact (Mine.News.sel NK 15 [11, 10, 9, 8, 7, 6, 5, 4, 3, 2, 1, 0, 12, 14, 13] rfl)
  case q5 =>
    intro h' tk' gn m2 nx tb hgn htab htb F2 N2
    exact ⟨rfl, F2.keep, rfl, hgn, Mine.grown_end htab htb N2⟩

end
theorem PySem.Challenge.cw_in0280_01_holds : PySem.Challenge.rw_in0280_01.Holds := by
  exact Mine.hd2
