import PyProof.Rows.All
import Wide.All
import OpenK.AllK
import Wide.FinOn
import PyProof.FactsAll.tuple_2
import PySem.Challenge.RW_pg0228_01
open PySem PySem.W PyProof.Rows
set_option Elab.async false
set_option compiler.extract_closed false
set_option maxRecDepth 100000
set_option rowWalk.seconds 0
section
open PySem PySem.W PyProof.Rows
set_option maxRecDepth 100000
set_option maxHeartbeats 8000000
namespace Mine
open_top hd for PySem.Challenge.rw_pg0228_01
end Mine
end
section
open PySem PySem.W PyProof.Rows PySem.Calls
set_option maxRecDepth 100000
set_option maxHeartbeats 8000000
namespace Mine
theorem ex1 {α0 : Sort _} {p : α0 → Prop} {P : Prop} (h : ∃ a0, p a0) (k : ∀ a0, p a0 → P) : P := h.elim k
theorem ex2 {α0 : Sort _} {α1 : Sort _} {p : α0 → α1 → Prop} {P : Prop} (h : ∃ a0 a1, p a0 a1) (k : ∀ a0 a1, p a0 a1 → P) : P := h.elim fun a0 h => ex1 h (k a0)
theorem ex3 {α0 : Sort _} {α1 : Sort _} {α2 : Sort _} {p : α0 → α1 → α2 → Prop} {P : Prop} (h : ∃ a0 a1 a2, p a0 a1 a2) (k : ∀ a0 a1 a2, p a0 a1 a2 → P) : P := h.elim fun a0 h => ex2 h (k a0)
theorem ex4 {α0 : Sort _} {α1 : Sort _} {α2 : Sort _} {α3 : Sort _} {p : α0 → α1 → α2 → α3 → Prop} {P : Prop} (h : ∃ a0 a1 a2 a3, p a0 a1 a2 a3) (k : ∀ a0 a1 a2 a3, p a0 a1 a2 a3 → P) : P := h.elim fun a0 h => ex3 h (k a0)
theorem ex5 {α0 : Sort _} {α1 : Sort _} {α2 : Sort _} {α3 : Sort _} {α4 : Sort _} {p : α0 → α1 → α2 → α3 → α4 → Prop} {P : Prop} (h : ∃ a0 a1 a2 a3 a4, p a0 a1 a2 a3 a4) (k : ∀ a0 a1 a2 a3 a4, p a0 a1 a2 a3 a4 → P) : P := h.elim fun a0 h => ex4 h (k a0)
theorem ex6 {α0 : Sort _} {α1 : Sort _} {α2 : Sort _} {α3 : Sort _} {α4 : Sort _} {α5 : Sort _} {p : α0 → α1 → α2 → α3 → α4 → α5 → Prop} {P : Prop} (h : ∃ a0 a1 a2 a3 a4 a5, p a0 a1 a2 a3 a4 a5) (k : ∀ a0 a1 a2 a3 a4 a5, p a0 a1 a2 a3 a4 a5 → P) : P := h.elim fun a0 h => ex5 h (k a0)
theorem ex7 {α0 : Sort _} {α1 : Sort _} {α2 : Sort _} {α3 : Sort _} {α4 : Sort _} {α5 : Sort _} {α6 : Sort _} {p : α0 → α1 → α2 → α3 → α4 → α5 → α6 → Prop} {P : Prop} (h : ∃ a0 a1 a2 a3 a4 a5 a6, p a0 a1 a2 a3 a4 a5 a6) (k : ∀ a0 a1 a2 a3 a4 a5 a6, p a0 a1 a2 a3 a4 a5 a6 → P) : P := h.elim fun a0 h => ex6 h (k a0)
theorem ex8 {α0 : Sort _} {α1 : Sort _} {α2 : Sort _} {α3 : Sort _} {α4 : Sort _} {α5 : Sort _} {α6 : Sort _} {α7 : Sort _} {p : α0 → α1 → α2 → α3 → α4 → α5 → α6 → α7 → Prop} {P : Prop} (h : ∃ a0 a1 a2 a3 a4 a5 a6 a7, p a0 a1 a2 a3 a4 a5 a6 a7) (k : ∀ a0 a1 a2 a3 a4 a5 a6 a7, p a0 a1 a2 a3 a4 a5 a6 a7 → P) : P := h.elim fun a0 h => ex7 h (k a0)
theorem ex9 {α0 : Sort _} {α1 : Sort _} {α2 : Sort _} {α3 : Sort _} {α4 : Sort _} {α5 : Sort _} {α6 : Sort _} {α7 : Sort _} {α8 : Sort _} {p : α0 → α1 → α2 → α3 → α4 → α5 → α6 → α7 → α8 → Prop} {P : Prop} (h : ∃ a0 a1 a2 a3 a4 a5 a6 a7 a8, p a0 a1 a2 a3 a4 a5 a6 a7 a8) (k : ∀ a0 a1 a2 a3 a4 a5 a6 a7 a8, p a0 a1 a2 a3 a4 a5 a6 a7 a8 → P) : P := h.elim fun a0 h => ex8 h (k a0)
theorem ex10 {α0 : Sort _} {α1 : Sort _} {α2 : Sort _} {α3 : Sort _} {α4 : Sort _} {α5 : Sort _} {α6 : Sort _} {α7 : Sort _} {α8 : Sort _} {α9 : Sort _} {p : α0 → α1 → α2 → α3 → α4 → α5 → α6 → α7 → α8 → α9 → Prop} {P : Prop} (h : ∃ a0 a1 a2 a3 a4 a5 a6 a7 a8 a9, p a0 a1 a2 a3 a4 a5 a6 a7 a8 a9) (k : ∀ a0 a1 a2 a3 a4 a5 a6 a7 a8 a9, p a0 a1 a2 a3 a4 a5 a6 a7 a8 a9 → P) : P := h.elim fun a0 h => ex9 h (k a0)
theorem ex11 {α0 : Sort _} {α1 : Sort _} {α2 : Sort _} {α3 : Sort _} {α4 : Sort _} {α5 : Sort _} {α6 : Sort _} {α7 : Sort _} {α8 : Sort _} {α9 : Sort _} {α10 : Sort _} {p : α0 → α1 → α2 → α3 → α4 → α5 → α6 → α7 → α8 → α9 → α10 → Prop} {P : Prop} (h : ∃ a0 a1 a2 a3 a4 a5 a6 a7 a8 a9 a10, p a0 a1 a2 a3 a4 a5 a6 a7 a8 a9 a10) (k : ∀ a0 a1 a2 a3 a4 a5 a6 a7 a8 a9 a10, p a0 a1 a2 a3 a4 a5 a6 a7 a8 a9 a10 → P) : P := h.elim fun a0 h => ex10 h (k a0)
theorem and2 {a0 a1 P : Prop} (h : a0 ∧ a1) (k : a0 → a1 → P) : P := k (h.1) (h.2)
theorem and3 {a0 a1 a2 P : Prop} (h : a0 ∧ a1 ∧ a2) (k : a0 → a1 → a2 → P) : P := k (h.1) (h.2.1) (h.2.2)
theorem and4 {a0 a1 a2 a3 P : Prop} (h : a0 ∧ a1 ∧ a2 ∧ a3) (k : a0 → a1 → a2 → a3 → P) : P := k (h.1) (h.2.1) (h.2.2.1) (h.2.2.2)
theorem and5 {a0 a1 a2 a3 a4 P : Prop} (h : a0 ∧ a1 ∧ a2 ∧ a3 ∧ a4) (k : a0 → a1 → a2 → a3 → a4 → P) : P := k (h.1) (h.2.1) (h.2.2.1) (h.2.2.2.1) (h.2.2.2.2)
theorem and6 {a0 a1 a2 a3 a4 a5 P : Prop} (h : a0 ∧ a1 ∧ a2 ∧ a3 ∧ a4 ∧ a5) (k : a0 → a1 → a2 → a3 → a4 → a5 → P) : P := k (h.1) (h.2.1) (h.2.2.1) (h.2.2.2.1) (h.2.2.2.2.1) (h.2.2.2.2.2)
theorem and8 {a0 a1 a2 a3 a4 a5 a6 a7 P : Prop} (h : a0 ∧ a1 ∧ a2 ∧ a3 ∧ a4 ∧ a5 ∧ a6 ∧ a7) (k : a0 → a1 → a2 → a3 → a4 → a5 → a6 → a7 → P) : P := k (h.1) (h.2.1) (h.2.2.1) (h.2.2.2.1) (h.2.2.2.2.1) (h.2.2.2.2.2.1) (h.2.2.2.2.2.2.1) (h.2.2.2.2.2.2.2)
theorem and9 {a0 a1 a2 a3 a4 a5 a6 a7 a8 P : Prop} (h : a0 ∧ a1 ∧ a2 ∧ a3 ∧ a4 ∧ a5 ∧ a6 ∧ a7 ∧ a8) (k : a0 → a1 → a2 → a3 → a4 → a5 → a6 → a7 → a8 → P) : P := k (h.1) (h.2.1) (h.2.2.1) (h.2.2.2.1) (h.2.2.2.2.1) (h.2.2.2.2.2.1) (h.2.2.2.2.2.2.1) (h.2.2.2.2.2.2.2.1) (h.2.2.2.2.2.2.2.2)
theorem and10 {a0 a1 a2 a3 a4 a5 a6 a7 a8 a9 P : Prop} (h : a0 ∧ a1 ∧ a2 ∧ a3 ∧ a4 ∧ a5 ∧ a6 ∧ a7 ∧ a8 ∧ a9) (k : a0 → a1 → a2 → a3 → a4 → a5 → a6 → a7 → a8 → a9 → P) : P := k (h.1) (h.2.1) (h.2.2.1) (h.2.2.2.1) (h.2.2.2.2.1) (h.2.2.2.2.2.1) (h.2.2.2.2.2.2.1) (h.2.2.2.2.2.2.2.1) (h.2.2.2.2.2.2.2.2.1) (h.2.2.2.2.2.2.2.2.2)
theorem and11 {a0 a1 a2 a3 a4 a5 a6 a7 a8 a9 a10 P : Prop} (h : a0 ∧ a1 ∧ a2 ∧ a3 ∧ a4 ∧ a5 ∧ a6 ∧ a7 ∧ a8 ∧ a9 ∧ a10) (k : a0 → a1 → a2 → a3 → a4 → a5 → a6 → a7 → a8 → a9 → a10 → P) : P := k (h.1) (h.2.1) (h.2.2.1) (h.2.2.2.1) (h.2.2.2.2.1) (h.2.2.2.2.2.1) (h.2.2.2.2.2.2.1) (h.2.2.2.2.2.2.2.1) (h.2.2.2.2.2.2.2.2.1) (h.2.2.2.2.2.2.2.2.2.1) (h.2.2.2.2.2.2.2.2.2.2)
theorem and13 {a0 a1 a2 a3 a4 a5 a6 a7 a8 a9 a10 a11 a12 P : Prop} (h : a0 ∧ a1 ∧ a2 ∧ a3 ∧ a4 ∧ a5 ∧ a6 ∧ a7 ∧ a8 ∧ a9 ∧ a10 ∧ a11 ∧ a12) (k : a0 → a1 → a2 → a3 → a4 → a5 → a6 → a7 → a8 → a9 → a10 → a11 → a12 → P) : P := k (h.1) (h.2.1) (h.2.2.1) (h.2.2.2.1) (h.2.2.2.2.1) (h.2.2.2.2.2.1) (h.2.2.2.2.2.2.1) (h.2.2.2.2.2.2.2.1) (h.2.2.2.2.2.2.2.2.1) (h.2.2.2.2.2.2.2.2.2.1) (h.2.2.2.2.2.2.2.2.2.2.1) (h.2.2.2.2.2.2.2.2.2.2.2.1) (h.2.2.2.2.2.2.2.2.2.2.2.2)
theorem and14 {a0 a1 a2 a3 a4 a5 a6 a7 a8 a9 a10 a11 a12 a13 P : Prop} (h : a0 ∧ a1 ∧ a2 ∧ a3 ∧ a4 ∧ a5 ∧ a6 ∧ a7 ∧ a8 ∧ a9 ∧ a10 ∧ a11 ∧ a12 ∧ a13) (k : a0 → a1 → a2 → a3 → a4 → a5 → a6 → a7 → a8 → a9 → a10 → a11 → a12 → a13 → P) : P := k (h.1) (h.2.1) (h.2.2.1) (h.2.2.2.1) (h.2.2.2.2.1) (h.2.2.2.2.2.1) (h.2.2.2.2.2.2.1) (h.2.2.2.2.2.2.2.1) (h.2.2.2.2.2.2.2.2.1) (h.2.2.2.2.2.2.2.2.2.1) (h.2.2.2.2.2.2.2.2.2.2.1) (h.2.2.2.2.2.2.2.2.2.2.2.1) (h.2.2.2.2.2.2.2.2.2.2.2.2.1) (h.2.2.2.2.2.2.2.2.2.2.2.2.2)
theorem and17 {a0 a1 a2 a3 a4 a5 a6 a7 a8 a9 a10 a11 a12 a13 a14 a15 a16 P : Prop} (h : a0 ∧ a1 ∧ a2 ∧ a3 ∧ a4 ∧ a5 ∧ a6 ∧ a7 ∧ a8 ∧ a9 ∧ a10 ∧ a11 ∧ a12 ∧ a13 ∧ a14 ∧ a15 ∧ a16) (k : a0 → a1 → a2 → a3 → a4 → a5 → a6 → a7 → a8 → a9 → a10 → a11 → a12 → a13 → a14 → a15 → a16 → P) : P := k (h.1) (h.2.1) (h.2.2.1) (h.2.2.2.1) (h.2.2.2.2.1) (h.2.2.2.2.2.1) (h.2.2.2.2.2.2.1) (h.2.2.2.2.2.2.2.1) (h.2.2.2.2.2.2.2.2.1) (h.2.2.2.2.2.2.2.2.2.1) (h.2.2.2.2.2.2.2.2.2.2.1) (h.2.2.2.2.2.2.2.2.2.2.2.1) (h.2.2.2.2.2.2.2.2.2.2.2.2.1) (h.2.2.2.2.2.2.2.2.2.2.2.2.2.1) (h.2.2.2.2.2.2.2.2.2.2.2.2.2.2.1) (h.2.2.2.2.2.2.2.2.2.2.2.2.2.2.2.1) (h.2.2.2.2.2.2.2.2.2.2.2.2.2.2.2.2)
theorem and19 {a0 a1 a2 a3 a4 a5 a6 a7 a8 a9 a10 a11 a12 a13 a14 a15 a16 a17 a18 P : Prop} (h : a0 ∧ a1 ∧ a2 ∧ a3 ∧ a4 ∧ a5 ∧ a6 ∧ a7 ∧ a8 ∧ a9 ∧ a10 ∧ a11 ∧ a12 ∧ a13 ∧ a14 ∧ a15 ∧ a16 ∧ a17 ∧ a18) (k : a0 → a1 → a2 → a3 → a4 → a5 → a6 → a7 → a8 → a9 → a10 → a11 → a12 → a13 → a14 → a15 → a16 → a17 → a18 → P) : P := k (h.1) (h.2.1) (h.2.2.1) (h.2.2.2.1) (h.2.2.2.2.1) (h.2.2.2.2.2.1) (h.2.2.2.2.2.2.1) (h.2.2.2.2.2.2.2.1) (h.2.2.2.2.2.2.2.2.1) (h.2.2.2.2.2.2.2.2.2.1) (h.2.2.2.2.2.2.2.2.2.2.1) (h.2.2.2.2.2.2.2.2.2.2.2.1) (h.2.2.2.2.2.2.2.2.2.2.2.2.1) (h.2.2.2.2.2.2.2.2.2.2.2.2.2.1) (h.2.2.2.2.2.2.2.2.2.2.2.2.2.2.1) (h.2.2.2.2.2.2.2.2.2.2.2.2.2.2.2.1) (h.2.2.2.2.2.2.2.2.2.2.2.2.2.2.2.2.1) (h.2.2.2.2.2.2.2.2.2.2.2.2.2.2.2.2.2.1) (h.2.2.2.2.2.2.2.2.2.2.2.2.2.2.2.2.2.2)
/-- names for the frame, the handlers and what comes behind: they stand in the goals as letters -/
theorem letAQE {α : Type} {M : Model} {A : Around} {e : Sem α} {s : Shared} {Q : α → Shared → Prop} {E : Value → Shared → Prop} (h : let A1 := A; let E1 := E; let Q1 := Q; wpAny M A1 e Q1 E1 s) : wpAny M A e Q E s := h
theorem hide2 {α β : Sort _} {P : Prop} (body : α → β → Prop) (k : ∀ J : α → β → Prop, (∀ a b, body a b → J a b) → (∀ a b, J a b → body a b) → P) : P := k body (fun _ _ h => h) (fun _ _ h => h)
theorem hide3 {α β γ : Sort _} {P : Prop} (body : α → β → γ → Prop) (k : ∀ J : α → β → γ → Prop, (∀ a b c, body a b c → J a b c) → (∀ a b c, J a b c → body a b c) → P) : P := k body (fun _ _ _ h => h) (fun _ _ _ h => h)
noncomputable abbrev rwp : Program := PySem.Challenge.rw_pg0228_01.prog
/-- the def at f, called upon args under a ledger, hands on what Post says -/
noncomputable def Does (w : World) (f : Addr) (args : List Value) (news : List (Addr × Obj)) (dd uu : Nat) (Post : Value → List (Addr × Obj) → Prop) : Prop :=
  ∀ (p : Program) (loose : List Str) (mean : ExcName → Option Value) (mg mb : Str → Option Value) (dp un : Nat) (gd : Option (List Code)) (cn : Str) (cs : Scope) (a : Addr) (ccd : Value) (cl : List (Str × Addr)) (outer : List Env) (A₀ : Around) (base h₀ : Heap) (L : Addr) (m : Str → Option Value) (s : Shared)
    (Q E : Value → Shared → Prop),
    Below A₀ base outer h₀ → Fr h₀ L s.heap m → (hd.heap_39 w.params).In h₀ → News h₀ L s.heap news → Top p loose mean mg mb h₀ → CodeHd h₀ 34 30 → CodeHd h₀ 41 37 → cs.kind = .function → dp + dd < recursionLimit → un + uu < cLine →
    (∀ r news' h' tk', Fr h₀ L h' m → News h₀ L h' news' → Post r news' → Q r { s with heap := h', toks := tk' }) →
    wpAny (model PySem.Challenge.rw_pg0228_01.prog w) (ktrTop dp un gd cn cs L a ccd cl outer) (call (.ref f) args) Q E s

theorem Does.use {w : World} {f : Addr} {args : List Value} {news : List (Addr × Obj)} {dd uu : Nat} {Post : Value → List (Addr × Obj) → Prop}
    {p : Program} {loose : List Str} {mean : ExcName → Option Value} {mg mb : Str → Option Value} {dp un : Nat} {gd : Option (List Code)} {cn : Str} {cs : Scope} {a : Addr} {ccd : Value} {cl : List (Str × Addr)} {outer : List Env} {A₀ : Around} {base h₀ : Heap} {L : Addr} {m : Str → Option Value} {s : Shared}
    {Q E : Value → Shared → Prop} (D : Does w f args news dd uu Post)
    (B : Below A₀ base outer h₀) (F : Fr h₀ L s.heap m) (X : (hd.heap_39 w.params).In h₀) (N : News h₀ L s.heap news) (T : Top p loose mean mg mb h₀) (C1 : CodeHd h₀ 34 30) (C2 : CodeHd h₀ 41 37) (hk : cs.kind = .function) (hd : dp + dd < recursionLimit) (hu : un + uu < cLine)
    (ret : ∀ r news' h' tk', Fr h₀ L h' m → News h₀ L h' news' → Post r news' → Q r { s with heap := h', toks := tk' }) :
    wpAny (model PySem.Challenge.rw_pg0228_01.prog w) (ktrTop dp un gd cn cs L a ccd cl outer) (call (.ref f) args) Q E s :=
  D p loose mean mg mb dp un gd cn cs a ccd cl outer A₀ base h₀ L m s Q E B F X N T C1 C2 hk hd hu ret

theorem allOff {news : List (Addr × Obj)} {a b : Nat} (h : ∀ p ∈ news, p.1 < a) (hb : a ≤ b) : ∀ p ∈ news, p.1 ≠ b := fun p hp => Nat.ne_of_lt (Nat.lt_of_lt_of_le (h p hp) hb)
theorem AllLt.out {d : Nat} : ∀ {l : List (Addr × Obj)}, AllLt d l → ∀ p ∈ l, p.1 < d
  | [], _, _, h => nomatch h
  | _ :: _, x, p, h => by
    rcases List.mem_cons.mp h with rfl | h
    · exact x.1
    · exact AllLt.out x.2 p h
theorem allOff1 {news : List (Addr × Obj)} {d : Nat} {p : Prop} (h : p ∧ AllLt d news := by assumption) : ∀ q ∈ news, q.1 ≠ d := allOff (AllLt.out h.2) (Nat.le_refl _)
theorem allOff2 {news : List (Addr × Obj)} {d : Nat} {p p2 : Prop} (h : p ∧ p2 ∧ AllLt d news := by assumption) : ∀ q ∈ news, q.1 ≠ d := allOff1 h.2
theorem allOff3 {news : List (Addr × Obj)} {d : Nat} {p p2 p3 : Prop} (h : p ∧ p2 ∧ p3 ∧ AllLt d news := by assumption) : ∀ q ∈ news, q.1 ≠ d := allOff2 h.2
theorem allOff4 {news : List (Addr × Obj)} {d : Nat} {p p2 p3 p4 : Prop} (h : p ∧ p2 ∧ p3 ∧ p4 ∧ AllLt d news := by assumption) : ∀ q ∈ news, q.1 ≠ d := allOff3 h.2
theorem allOff5 {news : List (Addr × Obj)} {d : Nat} {p p2 p3 p4 p5 : Prop} (h : p ∧ p2 ∧ p3 ∧ p4 ∧ p5 ∧ AllLt d news := by assumption) : ∀ q ∈ news, q.1 ≠ d := allOff4 h.2
theorem ldA {M : Model} {A : Around} {E : Value → Shared → Prop} {s : Shared} {env : Env} {name : Str} {scope : Scope} {L a : Addr} {cd : Value} {h₀ : Heap} {m : Str → Option Value} {x : Str} {pos : Pos} {v : Value} {Q : Value → Shared → Prop}
    (h : Q v s) (he : env = envOf name scope L a cd := by with_reducible rfl) (hl : (envOf name scope L a cd).kindOf x = some .local := by rfl) (hk : scope.kind = .function := by rfl) (hd : (x == ("__debug__" : Str)) = false := by decide) (F : Fr h₀ L s.heap m := by k_asm) (hv : m x = some v := by (first | exact rfl | assumption)) :
    wpAny M A (eval (.Name x pos) env) Q E s := he ▸ ld F hv h hk hl hd
/-- name an object of the ledger -/
theorem with_head {g : Heap} {L : Addr} {h : Heap} {f : Addr} {FO : Obj} {r : List (Addr × Obj)} {P : Prop} (N : News g L h ((f, FO) :: r)) (k : ∀ FO', FO' = FO → News g L h ((f, FO') :: r) → P) : P := k FO rfl N
theorem News.sub {g : Heap} {L : Addr} {h : Heap} {n n' : List (Addr × Obj)} (N : News g L h n) (hs : ∀ p ∈ n', p ∈ n) : News g L h n' := fun p hp => N p (hs p hp)
theorem CodeHd.up {g g' : Heap} {L : Addr} {m : Str → Option Value} {c P : Addr} (C : CodeHd g c P) (F : Fr g L g' m) : CodeHd g' c P := C.keeps F.keep
theorem nilS {α : Type _} {s : List α} : ∀ q ∈ ([] : List α), q ∈ s := fun _ h => nomatch h
theorem subC {α : Type _} {a : α} {l s : List α} (h : a ∈ s) (k : ∀ q ∈ l, q ∈ s) : ∀ q ∈ a :: l, q ∈ s := fun q hq => by
  cases hq with
  | head => exact h
  | tail _ hq => exact k q hq
theorem offC {p : Addr × Obj} {l : List (Addr × Obj)} {I : Addr} (h : p.1 ≠ I) (k : ∀ q ∈ l, q.1 ≠ I) : ∀ q ∈ p :: l, q.1 ≠ I := fun q hq => by
  cases hq with
  | head => exact h
  | tail _ hq => exact k q hq
theorem m1 {α : Type _} {a0 a1 : α} {l : List α} : a1 ∈ a0 :: a1 :: l := .tail _ (.head _)
theorem m2 {α : Type _} {a0 a1 a2 : α} {l : List α} : a2 ∈ a0 :: a1 :: a2 :: l := .tail _ (.tail _ (.head _))
theorem m3 {α : Type _} {a0 a1 a2 a3 : α} {l : List α} : a3 ∈ a0 :: a1 :: a2 :: a3 :: l := .tail _ (.tail _ (.tail _ (.head _)))
theorem m4 {α : Type _} {a0 a1 a2 a3 a4 : α} {l : List α} : a4 ∈ a0 :: a1 :: a2 :: a3 :: a4 :: l := .tail _ (.tail _ (.tail _ (.tail _ (.head _))))
theorem m5 {α : Type _} {a0 a1 a2 a3 a4 a5 : α} {l : List α} : a5 ∈ a0 :: a1 :: a2 :: a3 :: a4 :: a5 :: l := .tail _ (.tail _ (.tail _ (.tail _ (.tail _ (.head _)))))
theorem m6 {α : Type _} {a0 a1 a2 a3 a4 a5 a6 : α} {l : List α} : a6 ∈ a0 :: a1 :: a2 :: a3 :: a4 :: a5 :: a6 :: l := .tail _ (.tail _ (.tail _ (.tail _ (.tail _ (.tail _ (.head _))))))
theorem t1 {α : Type _} {a0 : α} {l : List α} : ∀ q ∈ l, q ∈ a0 :: l := fun _ h => .tail _ (h)
theorem t2 {α : Type _} {a0 a1 : α} {l : List α} : ∀ q ∈ l, q ∈ a0 :: a1 :: l := fun _ h => .tail _ (.tail _ (h))
theorem t3 {α : Type _} {a0 a1 a2 : α} {l : List α} : ∀ q ∈ l, q ∈ a0 :: a1 :: a2 :: l := fun _ h => .tail _ (.tail _ (.tail _ (h)))
theorem t4 {α : Type _} {a0 a1 a2 a3 : α} {l : List α} : ∀ q ∈ l, q ∈ a0 :: a1 :: a2 :: a3 :: l := fun _ h => .tail _ (.tail _ (.tail _ (.tail _ (h))))
theorem t5 {α : Type _} {a0 a1 a2 a3 a4 : α} {l : List α} : ∀ q ∈ l, q ∈ a0 :: a1 :: a2 :: a3 :: a4 :: l := fun _ h => .tail _ (.tail _ (.tail _ (.tail _ (.tail _ (h)))))
theorem t6 {α : Type _} {a0 a1 a2 a3 a4 a5 : α} {l : List α} : ∀ q ∈ l, q ∈ a0 :: a1 :: a2 :: a3 :: a4 :: a5 :: l := fun _ h => .tail _ (.tail _ (.tail _ (.tail _ (.tail _ (.tail _ (h))))))
theorem ltC {p : Addr × Obj} {l : List (Addr × Obj)} {I : Addr} (h : p.1 < I) (k : ∀ q ∈ l, q.1 < I) : ∀ q ∈ p :: l, q.1 < I := fun q hq => by
  cases hq with
  | head => exact h
  | tail _ hq => exact k q hq
theorem geC {p : Addr × Obj} {l : List (Addr × Obj)} {I : Addr} (h : I < p.1) (k : ∀ q ∈ l, I < q.1) : ∀ q ∈ p :: l, I < q.1 := fun q hq => by
  cases hq with
  | head => exact h
  | tail _ hq => exact k q hq
theorem offA {l r : List (Addr × Obj)} {I : Addr} (h : ∀ q ∈ l, q.1 ≠ I) (k : ∀ q ∈ r, q.1 ≠ I) : ∀ q ∈ l ++ r, q.1 ≠ I := fun q hq => (List.mem_append.mp hq).elim (h q) (k q)
theorem allC {α : Type _} {P : α → Prop} {a : α} {l : List α} (h : P a) (k : ∀ q ∈ l, P q) : ∀ q ∈ a :: l, P q := fun q hq => by
  cases hq with
  | head => exact h
  | tail _ hq => exact k q hq
theorem sub_mid {α : Type _} {f t : α} {M r : List α} (x : List α) : ∀ q ∈ f :: (x ++ (t :: (M ++ r))), q ∈ f :: t :: (M ++ (x ++ r)) := fun q hq => by
  simp only [List.mem_cons, List.mem_append] at hq ⊢
  rcases hq with h | h | h | h | h <;> simp [h]
theorem News.rot1 {g : Heap} {L : Addr} {h : Heap} {a b : Addr × Obj} {l : List (Addr × Obj)} (N : News g L h (a :: b :: l)) : News g L h (b :: a :: l) := News.sub N (subC m1 (subC (.head _) t2))
theorem News.rot2 {g : Heap} {L : Addr} {h : Heap} {a b c : Addr × Obj} {l : List (Addr × Obj)} (N : News g L h (a :: b :: c :: l)) : News g L h (c :: a :: b :: l) := News.sub N (subC m2 (subC (.head _) (subC m1 t3)))
theorem News.rot3 {g : Heap} {L : Addr} {h : Heap} {a b c d : Addr × Obj} {l : List (Addr × Obj)} (N : News g L h (a :: b :: c :: d :: l)) : News g L h (d :: a :: b :: c :: l) := News.sub N (subC m3 (subC (.head _) (subC m1 (subC m2 t4))))
end Mine
end
section
open PySem PySem.W PyProof.Rows PySem.Calls
set_option maxRecDepth 100000
set_option maxHeartbeats 8000000
namespace Mine

noncomputable abbrev pairObj (i : Int) (t : Tok) (x : Str) (u : Tok) (n : Nat) : Obj := { cls := .type "tuple", data := .seq #[.int i t, .str x u] n }

/-- (i, x) < (j, y) as Python has it -/
noncomputable def pLt (p q : Int × Str) : Bool := if p.1 == q.1 then (if p.2 == q.2 then false else decide (p.2.cps.toList < q.2.cps.toList)) else decide (p.1 < q.1)

section
variable {prog : Program} {w : World} {A : Around} {E : Value → Shared → Prop} {s : Shared}

theorem lt_pair {a b : Addr} {i j : Int} {x y : Str} {t u t' u' : Tok} {n n' : Nat} {Q : Value → Shared → Prop} (hu : A.units + 1 < cLine)
    (ha : s.heap.get? a = some (pairObj i t x u n)) (hb : s.heap.get? b = some (pairObj j t' y u' n')) (h : Q (.bool (pLt (i, x) (j, y))) s) :
    wpAny (model prog w) A (compareOp .Lt (.ref a) (.ref b)) Q E s := by
  have hTa : s.TypeIs (.ref a) "tuple" := ⟨_, ha, rfl⟩
  have hTb : s.TypeIs (.ref b) "tuple" := ⟨_, hb, rfl⟩
  show wpAny _ _ (richCompare .Lt (.ref a) (.ref b)) Q E s
  refine wpAny_richCompare_same_room hTa hTb F.slot_tuple_lt (wpAny_call_entry F.slot_tuple_lt hTa F.entry_tuple_lt ?_ (F.args_tuple_lt_2 _ _)) (by omega)
  show wpAny _ _ (isInstance (.ref b) (.type "tuple") >>= _) _ _ s
  refine wpAny_bind (wpAny_isInstance hTb isSubtype_tuple_tuple ?_)
  simp only [Bool.not_true, Bool.false_eq_true, if_false]
  refine wpAny_bind (wpAny_tupleItemsOf ha rfl ?_)
  refine wpAny_bind (wpAny_tupleItemsOf hb rfl ?_)
  refine wpAny_bind ?_
  show wpAny _ _ (forIn [(Value.int i t, Value.int j t'), (Value.str x u, Value.str y u')] _ _) _ _ s
  rw [List.forIn_cons]
  refine wpAny_bind (wpAny_bind (wpAny_eqBool_int ?_))
  unfold pLt at h
  by_cases hij : i = j
  · subst hij
    simp only [beq_self_eq_true, if_true] at h
    simp only [beq_self_eq_true, Bool.not_true, Bool.false_eq_true, if_false]
    refine wpAny_pure ?_
    dsimp only
    rw [List.forIn_cons]
    refine wpAny_bind (wpAny_bind (wpAny_eqBool_str ?_))
    by_cases hxy : x = y
    · subst hxy
      simp only [beq_self_eq_true, if_true] at h
      simp only [decide_true, Bool.not_true, Bool.false_eq_true, if_false]
      refine wpAny_pure ?_
      dsimp only
      rw [List.forIn_nil]
      refine wpAny_pure (wpAny_pure ⟨_, rfl, ?_, h⟩)
      intro e; cases e
    · have hb : (x == y) = false := by simpa using hxy
      simp only [hb, Bool.false_eq_true, if_false] at h
      simp only [hxy, decide_false, Bool.not_false, if_true]
      refine wpAny_bind (wpAny_rule (wpAny_bind ?_))
      refine wpAny_mono (Q := fun v s' => v = .bool (decide (x.cps.toList < y.cps.toList)) ∧ s' = s) (E := E) (lt_str (Q := fun v s' => v = .bool (decide (x.cps.toList < y.cps.toList)) ∧ s' = s) ⟨rfl, rfl⟩) ?_ (fun _ _ e => e)
      rintro v s' ⟨rfl, rfl⟩
      exact wpAny_bind (wpAny_pure (wpAny_pure (wpAny_pure (wpAny_pure ⟨_, rfl, (by intro e; cases e), h⟩))))
  · have hb : (i == j) = false := by simpa using hij
    simp only [hb, Bool.false_eq_true, if_false] at h
    simp only [hb, Bool.not_false, if_true]
    refine wpAny_bind (wpAny_rule (wpAny_bind ?_))
    refine wpAny_mono (Q := fun v s' => v = .bool (decide (i < j)) ∧ s' = s) (E := E) (lt_int (Q := fun v s' => v = .bool (decide (i < j)) ∧ s' = s) ⟨rfl, rfl⟩) ?_ (fun _ _ e => e)
    rintro v s' ⟨rfl, rfl⟩
    exact wpAny_bind (wpAny_pure (wpAny_pure (wpAny_pure (wpAny_pure ⟨_, rfl, (by intro e; cases e), h⟩))))

theorem notinA {prog : Program} {w : World} {A : Around} {E : Value → Shared → Prop} {s : Shared} {h₀ : Heap} {L : Addr} {news : List (Addr × Obj)} {l : Addr} {n : Nat} {vs : List Value} {ys : List Str} {k : Str} {t : Tok} {Q : Value → Shared → Prop}
    (h : Q (.bool (!(ys.any (· == k)))) s) (N : News h₀ L s.heap news := by k_asm) (hm : (l, listOf vs.toArray n) ∈ news := by k_mem) (hi : StrsAre vs ys := by assumption) : wpAny (model prog w) A (compareOp .NotIn (.str k t) (.ref l)) Q E s :=
  notin_list_strs ⟨_, (N _ hm).1, rfl, n, rfl⟩ hi h
theorem item_led {h₀ : Heap} {L : Addr} {news : List (Addr × Obj)} {value slice : PySem.Expr} {l : Addr} {vs : List Value} {n : Nat} {k : Int} {u : Tok} {v : Value} {Q : Value → Shared → Prop}
    (N : News h₀ L s.heap news := by k_asm) (hm : (l, listOf vs.toArray n) ∈ news := by k_mem) (h0 : 0 ≤ k := by decide) (hhi : k < 2 ^ 63 := by decide) (hx : vs[k.toNat]? = some v := by assumption) (h : Q v s)
    (hs : subscripted slice false (.ref l) (.int k u) = operate [.ref l, .int k u] (getItem (.ref l) (.int k u)) := by with_unfolding_all rfl) :
    wpAny (model prog w) A (subscriptTail value slice (.ref l) (.int k u)) Q E s :=
  item_litK ⟨_, (N _ hm).1, rfl, n, rfl⟩ h0 hhi hx h hs

theorem setItem_led {h₀ : Heap} {L : Addr} {m : Str → Option Value} {rest : List (Addr × Obj)} {l : Addr} {vs : List Value} {n : Nat} {k : Int} {u : Tok} {v : Value} {Q : Unit → Shared → Prop}
    (F : Fr h₀ L s.heap m) (N : News h₀ L s.heap ((l, listOf vs.toArray n) :: rest)) (hoff : ∀ p ∈ rest, p.1 ≠ l) (h0 : 0 ≤ k) (hhi : k < 2 ^ 63) (hk : k.toNat < vs.length)
    (h : ∀ h', Fr h₀ L h' m → News h₀ L h' ((l, listOf (vs.set k.toNat v).toArray n) :: rest) → Q () { s with heap := h' }) :
    wpAny (model prog w) A (setItem (.ref l) (.int k u) v) Q E s := by
  have z := N (l, listOf vs.toArray n) (.head _)
  refine ki_setAt (n := n) z.1 h0 hhi (by simp; omega) (h _ (F.change (Heap.SameBut.update ..) z.2.1 z.2.2) ?_)
  exact ki_turn (pre := []) (n' := n) _ N (fun _ h => nomatch h) hoff (by simp) (by simp)
end

/-- two lists go together -/
noncomputable def Rel2 {α β : Type} (R : α → β → Prop) (vs : List α) (xs : List β) : Prop := vs.length = xs.length ∧ ∀ (k : Nat) v x, vs[k]? = some v → xs[k]? = some x → R v x
section
variable {α β : Type} {R R' : α → β → Prop} {vs ws : List α} {xs ys : List β}
theorem Rel2.nil : Rel2 R [] [] := ⟨rfl, fun _ _ _ h => by simp at h⟩
theorem Rel2.mono (h : Rel2 R vs xs) (hR : ∀ v x, R v x → R' v x) : Rel2 R' vs xs := ⟨h.1, fun k v x a b => hR _ _ (h.2 k v x a b)⟩
theorem Rel2.get (h : Rel2 R vs xs) {k : Nat} {x : β} (hk : xs[k]? = some x) : ∃ v, vs[k]? = some v ∧ R v x := by
  obtain ⟨hl, _⟩ := List.getElem?_eq_some_iff.mp hk
  have hl' : k < vs.length := by rw [h.1]; exact hl
  exact ⟨vs[k], List.getElem?_eq_getElem hl', h.2 k _ _ (List.getElem?_eq_getElem hl') hk⟩
theorem Rel2.set (h : Rel2 R vs xs) {v : α} {x : β} (hR : R v x) (k : Nat) : Rel2 R (vs.set k v) (xs.set k x) := by
  refine ⟨by simp [h.1], fun j v' x' a b => ?_⟩
  rw [List.getElem?_set] at a b
  by_cases hjk : k = j
  · subst hjk
    simp only [if_true] at a b
    split at a
    · split at b
      · cases a; cases b; exact hR
      · cases b
    · cases a
  · simp only [hjk, if_false] at a b
    exact h.2 j _ _ a b
theorem Rel2.append (h : Rel2 R vs xs) (h' : Rel2 R ws ys) : Rel2 R (vs ++ ws) (xs ++ ys) := by
  refine ⟨by simp [h.1, h'.1], fun j v x a b => ?_⟩
  rw [List.getElem?_append] at a b
  rw [h.1] at a
  split at a
  · rename_i hj
    rw [if_pos hj] at b
    exact h.2 j _ _ a b
  · rename_i hj
    rw [if_neg hj] at b
    exact h'.2 _ _ _ a b
theorem Rel2.one {v : α} {x : β} (hR : R v x) : Rel2 R [v] [x] := ⟨rfl, fun k v' x' a b => by
  cases k with
  | zero => simp at a b; subst a; subst b; exact hR
  | succ k => simp at a⟩
theorem Rel2.cons {v : α} {x : β} (hR : R v x) (h : Rel2 R vs xs) : Rel2 R (v :: vs) (x :: xs) := Rel2.append (Rel2.one hR) h
theorem Rel2.take (h : Rel2 R vs xs) (n : Nat) : Rel2 R (vs.take n) (xs.take n) := by
  refine ⟨by simp [h.1], fun j v x a b => ?_⟩
  rw [List.getElem?_take] at a b
  split at a
  · rename_i hj
    rw [if_pos hj] at b
    exact h.2 j _ _ a b
  · cases a
end

/-- v is a pair of the ledger -/
noncomputable def PairAt (news : List (Addr × Obj)) (v : Value) (p : Int × Str) : Prop := ∃ a t u n, v = .ref a ∧ (a, pairObj p.1 t p.2 u n) ∈ news
end Mine
end
section
open PySem PySem.W PyProof.Rows PySem.Calls
set_option maxRecDepth 100000
set_option maxHeartbeats 8000000
namespace Mine

section
variable {prog : Program} {w : World} {A : Around} {E : Value → Shared → Prop} {s : Shared} {a b c k : Int} {t u : Tok} {Q : Value → Shared → Prop}
theorem floordiv_eq (hb : b ≠ 0 := by (first | lia | omega)) (hs : b.natAbs < 1073741824 := by (first | lia | omega)) (e : a.fdiv b = k := by assumption) (h : Q (.int k s.toks) { s with toks := s.toks + 1 }) :
    wpAny (model prog w) A (binaryOp .FloorDiv (.int a t) (.int b u)) Q E s := floordiv_int hb (by rw [e]; exact h) (Or.inl (PyProof.noPylong_small hs))
theorem rshift_eq (hn : 0 ≤ b := by (first | lia | omega)) (e : a.fdiv (2 ^ b.toNat) = k := by assumption) (h : Q (.int k s.toks) { s with toks := s.toks + 1 }) :
    wpAny (model prog w) A (binaryOp .RShift (.int a t) (.int b u)) Q E s := rshift_int hn (by rw [e]; exact h)
theorem lshift_eq (hn : 0 ≤ b := by (first | lia | omega)) (hsz : (Builtin.Int.intBits a : Int) + b ≤ 2 ^ 27 := by assumption) (e : a * 2 ^ b.toNat = k := by assumption) (h : Q (.int k s.toks) { s with toks := s.toks + 1 }) :
    wpAny (model prog w) A (binaryOp .LShift (.int a t) (.int b u)) Q E s := lshift_int hn hsz (by rw [e]; exact h)
theorem mul_eq (hm : IntMulOk a b := by assumption) (e : a * b = k := by assumption) (h : Q (.int k s.toks) { s with toks := s.toks + 1 }) :
    wpAny (model prog w) A (binaryOp .Mult (.int a t) (.int b u)) Q E s := mul_int (by rw [e]; exact h) hm
theorem xor_eq (e : Builtin.bitXor a b = k := by assumption) (h : Q (.int k s.toks) { s with toks := s.toks + 1 }) :
    wpAny (model prog w) A (binaryOp .BitXor (.int a t) (.int b u)) Q E s := xor_int (by rw [e]; exact h)
theorem mul1_led {h₀ : Heap} {L : Addr} {m : Str → Option Value} {news : List (Addr × Obj)} {l : Addr} {v : Value} {n : Nat} {x : Int} (F : Fr h₀ L s.heap m := by k_asm) (N : News h₀ L s.heap news := by k_asm) (hm : (l, listOf [v].toArray n) ∈ news := by k_mem) (h0 : 0 ≤ x := by (first | lia | omega)) (h1 : x ≤ 256 := by (first | lia | omega))
    (h : ∀ D h', Fr h₀ L h' m → News h₀ L h' ((D, listOf (List.replicate x.toNat v).toArray 0) :: news) → (∀ p ∈ news, p.1 < D) → Q (.ref D) { s with heap := h' }) : wpAny (model prog w) A (binaryOp .Mult (.ref l) (.int x u)) Q E s :=
  KMa.mul F N ⟨_, (N _ hm).1, rfl, n, rfl⟩ (by omega) (by omega) (by simp only [List.length_cons, List.length_nil]; omega) (by simp) h
theorem len_led {h₀ : Heap} {L : Addr} {news : List (Addr × Obj)} {l : Addr} {vs : List Value} {n : Nat} (N : News h₀ L s.heap news := by k_asm) (hm : (l, listOf vs.toArray n) ∈ news := by k_mem) (hs : vs.length ≤ 1000000 := by (first | lia | omega | (simp only [List.length_replicate]; (first | lia | omega))))
    (h : ∀ t tk, Q (.int (vs.length : Nat) t) { s with toks := tk }) : wpAny (model prog w) A (call (.builtin "len") [.ref l]) Q E s :=
  len_list (items := vs.toArray) ⟨_, (N _ hm).1, rfl, n, rfl⟩ (by simp only [List.size_toArray]; omega) (by simpa only [List.size_toArray] using h _ _)
theorem truthy_led {h₀ : Heap} {L : Addr} {news : List (Addr × Obj)} {l : Addr} {vs : List Value} {n : Nat} {Q : Bool → Shared → Prop} (N : News h₀ L s.heap news := by k_asm) (hm : (l, listOf vs.toArray n) ∈ news := by k_mem) (hs : vs.length ≤ 1000000 := by (first | lia | omega))
    (h : ∀ tk, Q (decide (0 < vs.length)) { s with toks := tk }) : wpAny (model prog w) A (truthy (.ref l)) Q E s :=
  wpAny_truthy_list (items := vs.toArray) ⟨_, (N _ hm).1, rfl, n, rfl⟩ (by simp only [List.size_toArray]; omega) (by
    have e : (!vs.toArray.isEmpty) = decide (0 < vs.length) := by cases vs <;> simp
    rw [e]; exact h _)
theorem sub_ints_led {h₀ : Heap} {L : Addr} {news : List (Addr × Obj)} {value slice : PySem.Expr} {l : Addr} {vs : List Value} {ns : List Int} {n lo : Nat} (N : News h₀ L s.heap news := by k_asm) (hm : (l, listOf vs.toArray n) ∈ news := by k_mem) (hi : IntsAre vs ns := by with_reducible assumption) (h0 : lo < vs.length := by (first | lia | omega)) (hs : vs.length ≤ 1000000 := by (first | lia | omega))
    (h : ∀ t, Q (.int (ns.getD lo 0) t) s)
    (hs' : subscripted slice false (.ref l) (.int (lo : Int) u) = operate [.ref l, .int (lo : Int) u] (getItem (.ref l) (.int (lo : Int) u)) := by with_unfolding_all rfl) :
    wpAny (model prog w) A (subscriptTail value slice (.ref l) (.int (lo : Int) u)) Q E s := by
  have hl : lo < ns.length := by rw [← hi.length]; exact h0
  obtain ⟨t', e⟩ := hi.get lo ns[lo] (List.getElem?_eq_getElem hl)
  have e2 : ns.getD lo 0 = ns[lo] := by rw [List.getD_eq_getElem?_getD, List.getElem?_eq_getElem hl]; rfl
  refine item_led (v := .int (ns.getD lo 0) t') N hm (by omega) (by omega) ?_ (h t') hs'
  rw [e2]; simpa using e
end

/-- a number less its high part -/
theorem nat_and_high (x s : Nat) : x &&& (x / 2 ^ s * 2 ^ s) = x / 2 ^ s * 2 ^ s := by
  rw [← Nat.shiftRight_eq_div_pow, ← Nat.shiftLeft_eq]
  apply Nat.eq_of_testBit_eq
  intro i
  simp only [Nat.testBit_and, Nat.testBit_shiftLeft, Nat.testBit_shiftRight]
  by_cases h : s ≤ i
  · have : s + (i - s) = i := by omega
    simp [h, this]
  · simp [h]
theorem bitXor_high (x s : Nat) : Builtin.bitXor (x : Int) ((x / 2 ^ s * 2 ^ s : Nat) : Int) = ((x % 2 ^ s : Nat) : Int) := by
  rw [bitXor_and]
  have e : Builtin.bitAnd (x : Int) ((x / 2 ^ s * 2 ^ s : Nat) : Int) = ((x / 2 ^ s * 2 ^ s : Nat) : Int) := by
    have h := nat_and_high x s
    show Builtin.bitAnd (x : Int) _ = _
    unfold Builtin.bitAnd
    have h1 : decide (0 ≤ (x : Int)) = true := by simp
    have h2 : decide (0 ≤ ((x / 2 ^ s * 2 ^ s : Nat) : Int)) = true := decide_eq_true (Int.natCast_nonneg _)
    simp only [h1, h2, Int.toNat_natCast, h]
  rw [e]
  have := Nat.div_add_mod' x (2 ^ s)
  omega
theorem fdiv_nat (x s : Nat) : ((x : Int)).fdiv (2 ^ s) = ((x / 2 ^ s : Nat) : Int) := by
  have e : ((2 : Int) ^ s) = ((2 ^ s : Nat) : Int) := by simp
  rw [e, Int.fdiv_eq_ediv_of_nonneg _ (Int.natCast_nonneg _)]
  norm_cast
theorem bits_le {x k : Nat} (h : x < 2 ^ k) : Builtin.Int.intBits (x : Int) ≤ k := by
  unfold Builtin.Int.intBits
  by_cases hx : x = 0
  · subst hx; simp
  · have : Nat.log2 x < k := (Nat.log2_lt hx).mpr h
    simp [hx]; omega
theorem mids (lo hi : Nat) (h : lo < hi) (h1 : ¬ lo + 1 = hi) : ∃ mid : Nat, ((lo : Int) + (hi : Int)).fdiv (2 ^ Int.toNat 1) = (mid : Int) ∧ lo < mid ∧ mid < hi := by
  refine ⟨(lo + hi) / 2, ?_, by omega, by omega⟩
  have := fdiv_nat (lo + hi) 1
  simpa using this
end Mine
end
section
open PySem PySem.W PyProof.Rows PySem.Calls
set_option maxRecDepth 100000
set_option maxHeartbeats 8000000
namespace Mine
/-- the state of a table of nested code -/
noncomputable def TabSt (ln col : Int) (qual : Str) (ps : Array Value) (rest : List (Addr × Obj)) : Prop :=
  ps = #[] ∨ ∃ c' oc vs t, ps = #[rawInt ln, rawInt col, .ref c'] ∧ (c', oc) ∈ rest ∧ oc.data = .fields vs ∧ vs[1]? = some (.str qual t)
theorem TabSt.mono {ln col : Int} {qual : Str} {ps : Array Value} {rest rest' : List (Addr × Obj)} (h : TabSt ln col qual ps rest) (hs : ∀ p ∈ rest, p ∈ rest') : TabSt ln col qual ps rest' := by
  rcases h with h | ⟨c', oc, vs, t, a, b, c, d⟩
  · exact .inl h
  · exact .inr ⟨c', oc, vs, t, a, hs _ b, c, d⟩
section
variable {M : Model} {A : Around} {E : Value → Shared → Prop} {s : Shared} {h₀ : Heap} {L a c P : Addr} {m mg mb : Str → Option Value} {cn : Str} {cs : Scope} {ccd : Value} {cl : List (Str × Addr)} {rest : List (Addr × Obj)}
  {p : Program} {loose : List Str} {mean : ExcName → Option Value} {name qual : Str} {params : Arguments} {body : List Stmt} {scope : Scope} {ps : Array Value} {pos : Pos} {firstLine : Nat} {clos : List (Str × Addr)}
theorem nest_any {Q : Value → Shared → Prop} (F : Fr h₀ L s.heap m) (N : News h₀ L s.heap ((P, tabObj ps) :: rest)) (T : Top p loose mean mg mb h₀) (C : CodeHd h₀ c P) (hcd : ccd = .ref c) (h2 : ∀ p ∈ rest, p.1 ≠ P) {r0 : List (Addr × Obj)} (hr0 : ∀ p ∈ r0, p ∈ rest) (hst : TabSt pos.line pos.col qual ps r0)
    (hcl : closureFor scope (envX cn cs L a ccd cl) = pure clos)
    (h : ∀ f c' oc vs t ctv doc ps' more h' tk, Fr h₀ L h' m → News h₀ L h' ((f, fnMade name qual params body scope clos doc ((mg "__name__").getD .none) c' ctv) :: (P, tabObj ps') :: (more ++ rest)) →
      (c', oc) ∈ more ++ r0 → oc.data = .fields vs → vs[1]? = some (.str qual t) → TabSt pos.line pos.col qual ps' (more ++ r0) → (∀ p ∈ (P, tabObj ps') :: (more ++ rest), p.1 < f) → (∀ p ∈ more, ∀ q ∈ (P, tabObj ps) :: rest, q.1 < p.1) → Q (.ref f) { s with heap := h', toks := tk }) :
    wpAny M A (makeFunction name qual params (.stmts body) scope (envX cn cs L a ccd cl) [] [] [] pos firstLine) Q E s := by
  rcases hst with rfl | ⟨c', oc, vs, tt, rfl, hc, hd, hv⟩
  · refine nest_K F N T C hcd (UpdF.head h2) (by exact True.intro) rfl hcl ?_
    intro f c' oc vs t ctv doc h' tk F' N' hd hv hlt hf
    refine h f c' oc vs t ctv doc _ [(c', oc)] h' tk F' ?_ (.head _) hd hv (.inr ⟨c', oc, vs, t, rfl, .head _, hd, hv⟩) ?_ ?_
    · refine News.sub N' fun q hq => ?_
      simp only [List.mem_cons, List.cons_append, List.nil_append] at hq ⊢
      rcases hq with hq | hq | hq | hq <;> simp [hq]
    · exact ltC (Nat.lt_trans (hlt (P, tabObj #[]) (.head _)) hf) (ltC hf fun q hq => Nat.lt_trans (hlt q (.tail _ hq)) hf)
    · intro q hq r hr
      rw [List.mem_singleton.mp hq]
      exact hlt r hr
  · refine nestHit_K (ps := #[rawInt pos.line, rawInt pos.col, .ref c']) (c' := c') F N T C hcd (.head _) (by simp [TriplesOk, rawInt]) (by simp [codeAmong, rawInt]) hcl ?_
    intro f ctv doc h' tk F' N' hlt
    exact h f c' oc vs tt ctv doc _ [] h' tk F' N' hc hd hv (.inr ⟨c', oc, vs, tt, rfl, hc, hd, hv⟩) hlt (fun _ h => nomatch h)
end
theorem off_more {more rest big : List (Addr × Obj)} {x : Addr} {o : Obj} (hm : ∀ p ∈ more, ∀ q ∈ big, q.1 < p.1) (hx : (x, o) ∈ big) (hr : ∀ p ∈ rest, p.1 ≠ x) : ∀ p ∈ more ++ rest, p.1 ≠ x := fun p hp =>
  (List.mem_append.mp hp).elim (fun h => Nat.ne_of_gt (hm p h _ hx)) (hr p)
theorem key_setup {P : Prop} {g : Heap} {L : Addr} {h : Heap} {f D : Addr} {FO DO : Obj} {r : List (Addr × Obj)} (N : News g L h ((f, FO) :: (D, DO) :: r)) (k : ∀ R2, (f, FO) ∈ R2 → (∀ p ∈ r, p ∈ R2) → (∀ p ∈ R2, p = (f, FO) ∨ p ∈ r) → News g L h ((D, DO) :: R2) → P) : P :=
  k ((f, FO) :: r) (.head _) (fun p hp => .tail _ hp) (fun p hp => List.mem_cons.mp hp) (News.rot1 N)
theorem key_setup0 {P : Prop} {g : Heap} {L : Addr} {h : Heap} {f : Addr} {FO : Obj} {r : List (Addr × Obj)} (N : News g L h ((f, FO) :: r)) (k : ∀ R2, (f, FO) ∈ R2 → (∀ p ∈ r, p ∈ R2) → News g L h R2 → P) : P :=
  k ((f, FO) :: r) (.head _) (fun p hp => .tail _ hp) N
end Mine
end
section
open PySem PySem.W PyProof.Rows PySem.Calls Mine
local macro_rules | `(tactic| k_all) => `(tactic| exact allOff (by assumption) (by (try dsimp only); omega))
local macro_rules | `(tactic| k_all) => `(tactic| first | exact allOff1 | exact allOff2 | exact allOff3 | exact allOff4 | exact allOff5)
local macro_rules | `(tactic| k_all) => `(tactic| assumption)
local macro_rules | `(tactic| k_mem) => `(tactic| first | assumption | (refine List.mem_cons_of_mem _ ?_; k_mem))
local macro_rules | `(tactic| walk_at "binaryOp RShift int int") => `(tactic| (k_here; with_reducible refine rshift_eq (h := ?_)))
local macro_rules | `(tactic| walk_at "binaryOp LShift int int") => `(tactic| (k_here; with_reducible refine lshift_eq (h := ?_)))
local macro_rules | `(tactic| walk_at "binaryOp Mult int int") => `(tactic| (k_here; with_reducible refine mul_eq (h := ?_)))
section
open PySem PySem.W PyProof.Rows PySem.Calls
set_option maxRecDepth 100000
set_option maxHeartbeats 8000000
namespace Mine
local macro_rules | `(tactic| omega) => `(tactic| lia)
noncomputable abbrev qInner1 : Str := Str.ofString "_int2digits" ++ Str.ofString ".<locals>." ++ Str.ofString "inner"
/-- digit j of x, n bits wide -/
noncomputable def dig (x n j : Nat) : Nat := x / 2 ^ (n * j) % 2 ^ n
/-- vs' is vs with the digits of x at lo .. hi - 1 -/
noncomputable def Fill (vs vs' : List Value) (lo hi x n : Nat) : Prop :=
  vs'.length = vs.length ∧ (∀ i, i < lo ∨ hi ≤ i → vs'[i]? = vs[i]?) ∧ ∀ i, lo ≤ i → i < hi → ∃ t, vs'[i]? = some (.int (dig x n (i - lo)) t)
theorem Fill.one {vs : List Value} {lo x n : Nat} {t : Tok} (hx : x < 2 ^ n) (h : lo < vs.length) : Fill vs (vs.set lo (.int x t)) lo (lo + 1) x n := by
  refine ⟨by simp, fun i hi => ?_, fun i h1 h2 => ⟨t, ?_⟩⟩
  · rw [List.getElem?_set_ne (by omega)]
  · have : i = lo := by omega
    subst this
    rw [List.getElem?_set_self h]
    simp [dig, Nat.mod_eq_of_lt hx]
theorem Fill.two {vs v1 v2 : List Value} {lo mid hi x n : Nat} (h1 : lo ≤ mid) (h2 : mid ≤ hi) (a : Fill vs v1 lo mid (x % 2 ^ ((mid - lo) * n)) n) (b : Fill v1 v2 mid hi (x / 2 ^ ((mid - lo) * n)) n) : Fill vs v2 lo hi x n := by
  refine ⟨b.1.trans a.1, fun i hi' => ?_, fun i h3 h4 => ?_⟩
  · rw [b.2.1 i (by omega), a.2.1 i (by omega)]
  · by_cases hm : i < mid
    · obtain ⟨t, e⟩ := a.2.2 i h3 hm
      refine ⟨t, ?_⟩
      rw [b.2.1 i (by omega), e]
      unfold dig
      congr 3
      have e1 : 2 ^ ((mid - lo) * n) = 2 ^ (n * (i - lo)) * 2 ^ n * 2 ^ (n * (mid - i - 1)) := by
        rw [← Nat.pow_add, ← Nat.pow_add]
        congr 1
        have : mid - lo = (i - lo) + 1 + (mid - i - 1) := by omega
        rw [this, Nat.add_mul, Nat.add_mul, Nat.mul_comm (i - lo), Nat.mul_comm (mid - i - 1), Nat.one_mul]
      rw [e1, Nat.mul_assoc, Nat.mod_mul_right_div_self, Nat.mod_mul_right_mod]
    · obtain ⟨t, e⟩ := b.2.2 i (by omega) h4
      refine ⟨t, ?_⟩
      rw [e]
      unfold dig
      congr 3
      rw [Nat.div_div_eq_div_mul, ← Nat.pow_add]
      congr 2
      have : i - lo = (mid - lo) + (i - mid) := by omega
      rw [this, Nat.mul_add, Nat.mul_comm n (mid - lo)]
/-- the digits of a, k of them, n bits wide -/
noncomputable def digs (a n k : Nat) : List Int := (List.range k).map fun i => ((dig a n i : Nat) : Int)
theorem ints_of_get {vs : List Value} {ns : List Int} (hl : vs.length = ns.length) (h : ∀ (i : Nat) (n : Int), ns[i]? = some n → ∃ t : Tok, vs[i]? = some (Value.int n t)) : IntsAre vs ns := by
  induction vs generalizing ns with
  | nil => cases ns with
    | nil => exact .nil
    | cons n r => simp at hl
  | cons v vs ih => cases ns with
    | nil => simp at hl
    | cons n r =>
      obtain ⟨t, e⟩ := h 0 n rfl
      simp only [List.getElem?_cons_zero, Option.some.injEq] at e
      subst e
      exact .cons n t (ih (by simpa using hl) fun i n' hn => by simpa using h (i + 1) n' (by simpa using hn))
theorem Fill.ints {vs vs' : List Value} {k x n : Nat} (hl : vs.length = k) (h : Fill vs vs' 0 k x n) : IntsAre vs' (digs x n k) := by
  refine ints_of_get (by simp [digs, h.1, hl]) fun i m hm => ?_
  unfold digs at hm
  rw [List.getElem?_map] at hm
  obtain ⟨j, hj, rfl⟩ := Option.map_eq_some_iff.mp hm
  obtain ⟨hj', rfl⟩ := List.getElem?_eq_some_iff.mp hj
  simp only [List.length_range] at hj'
  obtain ⟨t, e⟩ := h.2.2 i (Nat.zero_le _) hj'
  exact ⟨t, by simpa using e⟩
local macro_rules | `(tactic| walk_at "binaryOp Mult ref int") => `(tactic| (k_here; k_dflt (refine mul1_led (h := ?_)); intro _ _ _ _ l1; (try k_lt l1); (try k_sweep)))
local macro_rules | `(tactic| walk_at "binaryOp FloorDiv int int") => `(tactic| (k_here; with_reducible refine floordiv_eq (h := ?_)))
local macro_rules | `(tactic| walk_at "call builtin:len") => `(tactic| (k_here; k_dflt (refine len_led (h := ?_)); intros; (try simp only [List.length_replicate])))
local macro_rules | `(tactic| walk_at "binaryOp BitXor int int") => `(tactic| (k_here; with_reducible refine xor_eq (h := ?_)))
theorem int2digits_does (w : World) (a nn k : Nat) (t u : Tok) (ps : Array Value) (rest r0 : List (Addr × Obj)) (hr0 : ∀ p ∈ r0, p ∈ rest) (ha : 0 < a) (ha' : a < 2 ^ (nn * k)) (hn : 1 ≤ nn) (hn' : nn ≤ 100) (hkk : (((Builtin.Int.intBits a : Nat) : Int) + nn - 1).fdiv nn = k) (hk1 : 0 < k) (hk2 : k ≤ 16)
    (hoff : ∀ p ∈ rest, p.1 ≠ 30) (hps : TabSt 32 4 qInner1 ps r0) :
    Does w 35 [.int a t, .int nn u] ((30, tabObj ps) :: rest) 20 200 (fun r news' => ∃ l vs more ps', r = .ref l ∧ news' = (l, listOf vs.toArray 0) :: (30, tabObj ps') :: (more ++ rest) ∧ IntsAre vs (digs a nn k) ∧ TabSt 32 4 qInner1 ps' (more ++ r0) ∧
      (∀ p ∈ (30, tabObj ps) :: rest, p.1 < l) ∧ (∀ p ∈ more, ∀ q ∈ (30, tabObj ps) :: rest, q.1 < p.1) ∧ ∀ p ∈ more, p.1 ≠ l) := by
  have ha0 : (a : Int) ≠ 0 := by omega
  unfold Does; w_top off; k_fill
  intro p loose mean mg mb dp un gd cn cs aa ccd cl outer A₀ base h₀ L m s Q E B F X N T C1 C2 hk dhp hun hQ
  (refine wpAny_call ?_; (k_dflt (refine' code_defC (binds := ([(Str.ofString "a", .int a t), (Str.ofString "n", .int nn u)])) ?k1 ?k2 ?k3 ?k4 ?k5 ?kA ?kF ?kK ?k6 ?k7 ?k8 ?k9 ?kB ?kD ?_ ?c2 ?c3 ?c4; (case kA => exact rfl); (case kF => exact rfl); (case kK => first | assumption | exact rfl); (case k1 => k_asm); (case k2 => k_asm); (case k3 => k_asm); (case k4 => k_asm); (case k5 => k_asm); (case k6 => k_is); (case k7 => k_is); (case k8 => ktr_room); (case k9 => exact BindsTo.of_eq rfl); (case kB => exact rfl); (case kD => decide +kernel); (case c2 => exact rfl); (case c3 => exact rfl); (case c4 => exact rfl); k_whole; intro g' L' h' tk' cells' FG' F' N' Y' B' X' T' l1; (have C1' := CodeHd.up (by assumption : CodeHd _ 34 30) FG'); (have C2' := CodeHd.up (by assumption : CodeHd _ 41 37) FG'); k_cells Y'; (try simp only [List.cons_append, List.nil_append] at N'); (try dsimp only); (try k_fold))); refine letAQE ?_; intro A9q E9q Q9q)
  rename_i o1 o2 o3 d1 d2 d3
  replace d1 : o1.data = .cell none := d1
  replace d2 : o2.data = .cell none := d2
  replace d3 : o3.data = .cell (some (.int nn u)) := d3
  have h30 : @LT.lt Nat _ 30 L' := l1 _ (.head _)
  have l1r : ∀ p ∈ rest, p.1 < L' := fun p hp => l1 p (.tail _ hp)
  k_steps
  k_dflt (refine' nestDef_K ?d0 ?k0 ?a0 ?_; (case d0 => exact rfl); (case k0 => exact rfl); (case a0 => exact rfl))
  rename News _ _ _ _ => N1
  rename_i lz hz1 l1z D hz2 l2z hz3 oA F2 dA
  have N2 : News g' L' hz3 ((30, tabObj ps) :: (D, listOf (List.replicate (k : Int).toNat (.int 0 tk')).toArray 0) :: (lz, listOf #[.int 0 tk'] 0) :: (L' + 1 + 1 + 1, o1) :: (L' + 1 + 1, oA) :: (L' + 1, o3) :: rest) := by
    exact News.sub N1 (subC m5 (subC (.head _) (subC m1 (subC m2 (subC m3 (subC m4 t6))))))
  refine nest_any F2 N2 T' C1' rfl ?_ (r0 := r0) (fun q hq => t5 _ (hr0 q hq)) hps rfl ?_
  · exact offC (neN (by dsimp only; omega)) (offC (neN (by dsimp only; omega)) (offC (neN (by dsimp only; omega)) (offC (neN (by dsimp only; omega)) (offC (neN (by dsimp only; omega)) hoff))))
  intro f c' oc vs tq ctv doc ps' more h2 tk2 F3 N3 hcm hd hv hst' hf hmo
  replace hcm : (c', oc) ∈ more ++ rest := (List.mem_append.mp hcm).elim (fun h => List.mem_append_left _ h) fun h => List.mem_append_right _ (hr0 _ h)
  refine with_head N3 ?_; clear N3; intro FO hFO N3
  have fD : @LT.lt Nat _ D f := hf _ (.tail _ (List.mem_append_right _ (.head _)))
  have N4 : News g' L' h2 ((f, FO) :: (D, listOf (List.replicate (k : Int).toNat (.int 0 tk')).toArray 0) :: (lz, listOf #[.int 0 tk'] 0) :: (L' + 1 + 1 + 1, o1) :: (L' + 1 + 1, oA) :: (L' + 1, o3) :: (30, tabObj ps') :: (more ++ rest)) := by
    exact News.sub N3 (sub_mid [_, _, _, _, _])
  have f1 := hf _ (.tail _ (List.mem_append_right _ (.tail _ (.head _))))
  have f2 := hf _ (.tail _ (List.mem_append_right _ (.tail _ (.tail _ (.head _)))))
  have f3 := hf _ (.tail _ (List.mem_append_right _ (.tail _ (.tail _ (.tail _ (.head _))))))
  have f4 := hf _ (.tail _ (List.mem_append_right _ (.tail _ (.tail _ (.tail _ (.tail _ (.head _)))))))
  have f5 := hf _ (.head _)
  replace f1 := ltN f1; replace f2 := ltN f2; replace f3 := ltN f3; replace f4 := ltN f4; replace f5 := ltN f5
  have m30 : ∀ p ∈ more ++ rest, p.1 ≠ 30 := off_more hmo (.head _) hoff
  have mD : ∀ p ∈ more ++ rest, p.1 ≠ D := off_more hmo (.tail _ (.head _)) (allOff l1r (by omega))
  have ml : ∀ p ∈ more ++ rest, p.1 ≠ lz := off_more hmo (.tail _ (.tail _ (.head _))) (allOff l1r (by omega))
  have m3 : ∀ p ∈ more ++ rest, p.1 ≠ L' + 1 + 1 + 1 := off_more hmo (.tail _ (.tail _ (.tail _ (.head _)))) (allOff l1r (by omega))
  have m2 : ∀ p ∈ more ++ rest, p.1 ≠ L' + 1 + 1 := off_more hmo (.tail _ (.tail _ (.tail _ (.tail _ (.head _))))) (allOff l1r (by omega))
  have m1 : ∀ p ∈ more ++ rest, p.1 ≠ L' + 1 := off_more hmo (.tail _ (.tail _ (.tail _ (.tail _ (.tail _ (.head _)))))) (allOff l1r (by omega))
  have mr : ∀ p ∈ more, ∀ q ∈ (30, tabObj ps) :: rest, q.1 < p.1 := fun p hp q hq => hmo p hp q (subC (.head _) t6 q hq)
  have mrD : ∀ p ∈ more, p.1 ≠ D := fun p hp => Nat.ne_of_gt (hmo p hp _ (.tail _ (.head _)))
  have rD : ∀ p ∈ (30, tabObj ps) :: rest, p.1 < D := by
    intro q hq
    refine Nat.lt_trans (l1 q hq) ?_
    exact Nat.lt_of_succ_lt l2z.2.2.2.1
  clear N1 N2 N3 F2 hf hmo
  subst hFO
  generalize hR : more ++ rest = R at *
  k_steps
  rename_i h3 oI F4 N5 dI t1 tk3
  refine key_setup N5 ?_
  clear N5
  intro R2 hfm hsub hR2 N5
  have cm : (c', oc) ∈ R2 := hsub _ (t5 _ hcm)
  have cI : (L' + 1 + 1 + 1, oI) ∈ R2 := hsub _ Mine.m1
  have cA : (L' + 1 + 1, oA) ∈ R2 := hsub _ Mine.m2
  have cN : (L' + 1, o3) ∈ R2 := hsub _ Mine.m3
  have oD : ∀ p ∈ R2, p.1 ≠ D := by
    intro q hq
    exact (hR2 q hq).elim (fun e => by rw [e]; exact Nat.ne_of_gt fD) (offC (neN (by dsimp only; omega)) (offC (neN (by dsimp only; omega)) (offC (neN (by dsimp only; omega)) (offC (neN (by dsimp only; omega)) (offC (neN (by dsimp only; omega)) mD)))) q)
  have key : ∀ (d lo hi x : Nat) (vs₁ : List Value) (t1 t2 t3 : Tok), hi - lo = d → lo < hi → hi ≤ vs₁.length → vs₁.length ≤ 16 → x < 2 ^ (nn * (hi - lo)) → Does w f [.int x t1, .int lo t2, .int hi t3] ((D, listOf vs₁.toArray 0) :: R2) d (8 * d)
      (fun r news' => ∃ vs₂, news' = (D, listOf vs₂.toArray 0) :: R2 ∧ Fill vs₁ vs₂ lo hi x nn) := by
    clear hQ hR2 hsub N5 F4 N F B T X X' B' T' FG' m30 mD ml m3 m2 m1 hps hst' l1 l1r hcm hR dhp hun hoff C1 C2 C1' C2' l1z l2z ha ha' hkk hk1 hk2 ha0
    intro d
    induction d using Nat.strongRecOn with | _ d ih => ?_
    intro lo hi x vs₁ t1 t2 t3 hd1 hlh hhi hlen hx
    unfold Does
    intro p₁ loose₁ mean₁ mg₁ mb₁ dp₁ un₁ gd₁ cn₁ cs₁ aa₁ ccd₁ cl₁ outer₁ A₁ base₁ h₁ L₁ m₁ s₁ Q₁ E₁ B₁ F₁ X₁ N₁ T₁ C1 C2 hk₁ dhp hun hQ
    (refine wpAny_call ?_; (k_dflt (refine' code_nest (binds := ([(Str.ofString "x", .int x t1), (Str.ofString "L", .int lo t2), (Str.ofString "R", .int hi t3)])) ?k1 ?k2 ?k3 ?k4 ?k5 ?kA ?kF ?kK ?k6 ?k7 ?k8 ?k9 ?kB ?_ ?c2 ?c3 ?c4 ?c5; (case kA => exact rfl); (case kF => exact rfl); (case kK => first | assumption | exact rfl); (case k1 => k_asm); (case k2 => k_asm); (case k3 => k_asm); (case k4 => k_asm); (case k5 => k_asm); (case k6 => k_mem); (case k7 => exact codeRec_news (by k_asm) (by k_mem) (by assumption) (by assumption)); (case k8 => ktr_room); (case k9 => exact BindsTo.of_eq rfl); (case c5 => decide); (case kB => exact locs rfl); (case c2 => exact rfl); (case c3 => exact rfl); (case c4 => exact rfl); k_whole; intro g' L' h' FG' F' N' B' X' T'; (have C1' := CodeHd.up (by assumption : CodeHd _ 34 30) FG'); (have C2' := CodeHd.up (by assumption : CodeHd _ 41 37) FG'); (try dsimp only [List.reverse_cons, List.reverse_nil, List.nil_append, List.cons_append, List.length_cons, List.length_nil] at F'); (try dsimp only); (try k_fold))); refine letAQE ?_; intro A9q E9q Q9q)
    by_cases hone : lo + 1 = hi
    · have hT : ((lo : Int) + 1 == (hi : Int)) = true := by simp only [beq_iff_eq]; omega
      k_steps
      refine setItem_led (by assumption) (by assumption) oD (by omega) (by omega) (by omega) ?_
      intro h4 F4 N4
      k_steps
      refine hQ _ _ _ _ (by assumption) (by assumption) ⟨_, rfl, ?_⟩
      have hx' : x < 2 ^ nn := by
        have : nn * (hi - lo) = nn := by rw [show hi - lo = 1 from by omega, Nat.mul_one]
        rwa [this] at hx
      have e9 : ((lo : Int)).toNat = lo := by omega
      rw [e9, ← hone]
      exact Fill.one hx' (by omega)
    · have hT : ((lo : Int) + 1 == (hi : Int)) = false := by simp only [beq_eq_false_iff_ne, ne_eq]; omega
      obtain ⟨mid, e1, mid1, mid2⟩ := mids lo hi hlh hone
      obtain ⟨sh, hsh⟩ : ∃ sh : Nat, sh = (mid - lo) * nn := ⟨_, rfl⟩
      obtain ⟨up, hup⟩ : ∃ up : Nat, up = x / 2 ^ sh := ⟨_, rfl⟩
      obtain ⟨low, hlow⟩ : ∃ low : Nat, low = x % 2 ^ sh := ⟨_, rfl⟩
      have e2 : ((mid : Int) - lo) * nn = (sh : Int) := by
        rw [hsh, Int.natCast_mul, Int.natCast_sub (by omega)]
      have e3 : ((x : Int)).fdiv (2 ^ (sh : Int).toNat) = (up : Int) := by rw [hup]; exact fdiv_nat x sh
      have e4 : (up : Int) * 2 ^ (sh : Int).toNat = ((x / 2 ^ sh * 2 ^ sh : Nat) : Int) := by rw [hup]; simp
      have e5 : Builtin.bitXor (x : Int) ((x / 2 ^ sh * 2 ^ sh : Nat) : Int) = (low : Int) := by rw [hlow]; exact bitXor_high x sh
      have b1 : IntMulOk ((mid : Int) - lo) nn := IntMulOk.of_right (Nat.le_trans (bits_le (k := 7) (by omega)) (by decide))
      have b2 : (Builtin.Int.intBits (up : Int) : Int) + (sh : Int) ≤ 2 ^ 27 := by
        have h1 : Builtin.Int.intBits (up : Int) ≤ nn * (hi - lo) := bits_le (by rw [hup]; exact Nat.lt_of_le_of_lt (Nat.div_le_self _ _) hx)
        have h2 : nn * (hi - lo) ≤ 100 * 16 := Nat.mul_le_mul hn' (by omega)
        have h3 : sh ≤ 16 * 100 := by rw [hsh]; exact Nat.mul_le_mul (by omega) hn'
        omega
      k_steps
      (k_dflt (refine' Does.use ((ih (mid - lo) (by omega) lo mid low vs₁ _ _ _ rfl (by omega) (by omega) hlen (by rw [hlow, hsh, Nat.mul_comm nn]; exact Nat.mod_lt _ (Nat.two_pow_pos _)))) ?k1 ?k2 ?k3 ?k4 ?k5 ?k6 ?k7 ?k8 ?k9 ?k10 ?_; (case k1 => k_asm); (case k2 => k_asm); (case k3 => k_asm); (case k4 => k_asm); (case k5 => k_asm); (case k6 => k_asm); (case k7 => k_asm); (case k8 => first | assumption | exact rfl); (case k9 => ktr_room); (case k10 => ktr_units)); intro r9 n9 h9 tk9 F9 N9 P9)
      obtain ⟨vs₂, rfl, fill1⟩ := P9
      k_steps
      have hlen2 := fill1.1
      (k_dflt (refine' Does.use ((ih (hi - mid) (by omega) mid hi up vs₂ _ _ _ rfl (by omega) (by omega) (by omega) (by
        rw [hup, hsh]
        refine Nat.div_lt_of_lt_mul ?_
        rw [← Nat.pow_add]
        refine Nat.lt_of_lt_of_le hx (Nat.pow_le_pow_right (by decide) ?_)
        have : hi - lo = (mid - lo) + (hi - mid) := by omega
        rw [this, Nat.mul_add, Nat.mul_comm nn (mid - lo)]
        omega))) ?k1 ?k2 ?k3 ?k4 ?k5 ?k6 ?k7 ?k8 ?k9 ?k10 ?_; (case k1 => k_asm); (case k2 => k_asm); (case k3 => k_asm); (case k4 => k_asm); (case k5 => k_asm); (case k6 => k_asm); (case k7 => k_asm); (case k8 => first | assumption | exact rfl); (case k9 => ktr_room); (case k10 => ktr_units)); intro r9 n9 h9 tk9 F9 N9 P9)
      obtain ⟨vs₃, rfl, fill2⟩ := P9
      k_steps
      refine hQ _ _ _ _ (by assumption) (by assumption) ⟨_, rfl, ?_⟩
      rw [hlow, hsh] at fill1
      rw [hup, hsh] at fill2
      exact Fill.two (by omega) (by omega) fill1 fill2
  have e9 : ((k : Int)).toNat = k := by omega
  rw [e9] at N5 ⊢
  (k_dflt (refine' Does.use ((key k 0 k a (List.replicate k (.int 0 tk')) t tk2 t1 rfl hk1 (by simp) (by simpa using hk2) (by simpa using ha'))) ?k1 ?k2 ?k3 ?k4 ?k5 ?k6 ?k7 ?k8 ?k9 ?k10 ?_; (case k1 => k_asm); (case k2 => k_asm); (case k3 => k_asm); (case k4 => k_asm); (case k5 => k_asm); (case k6 => k_asm); (case k7 => k_asm); (case k8 => first | assumption | exact rfl); (case k9 => ktr_room); (case k10 => ktr_units)); intro r9 n9 h9 tk9 F9 N9 P9)
  obtain ⟨vs₂, rfl, fill⟩ := P9
  k_steps
  refine hQ _ _ _ _ (by assumption) (News.sub (by assumption) ?_) ⟨D, vs₂, more, ps', rfl, rfl, Fill.ints (by simp) fill, ?_, rD, mr, mrD⟩
  · rw [hR]
    exact subC (.head _) fun q hq => .tail _ (hsub _ (t4 q hq))
  · exact hst'
end Mine
end
section
open PySem PySem.W PyProof.Rows PySem.Calls
set_option maxRecDepth 100000
set_option maxHeartbeats 8000000
namespace Mine
local macro_rules | `(tactic| omega) => `(tactic| lia)
/-- c digits from lo on, n bits apart -/
noncomputable def dval (ns : List Int) (n : Nat) : Nat → Nat → Int
  | _, 0 => 0
  | lo, c + 1 => ns.getD lo 0 + 2 ^ n * dval ns n (lo + 1) c
theorem dval_0 {ns : List Int} {n lo : Nat} : dval ns n lo 0 = 0 := rfl
theorem dval_1 {ns : List Int} {n lo : Nat} : dval ns n lo 1 = ns.getD lo 0 + 2 ^ n * 0 := rfl
theorem dval_add (ns : List Int) (n : Nat) : ∀ (c₁ c₂ lo : Nat), dval ns n lo (c₁ + c₂) = dval ns n lo c₁ + 2 ^ (n * c₁) * dval ns n (lo + c₁) c₂
  | 0, c₂, lo => by simp [dval_0]
  | c₁ + 1, c₂, lo => by
    have e : c₁ + 1 + c₂ = (c₁ + c₂) + 1 := by omega
    rw [e]
    show ns.getD lo 0 + 2 ^ n * dval ns n (lo + 1) (c₁ + c₂) = (ns.getD lo 0 + 2 ^ n * dval ns n (lo + 1) c₁) + _
    rw [dval_add ns n c₁ c₂ (lo + 1), Int.mul_add, ← Int.mul_assoc, ← Int.pow_add, Int.add_assoc]
    have e2 : n + n * c₁ = n * (c₁ + 1) := by rw [Nat.mul_add, Nat.mul_one, Nat.add_comm]
    have e3 : lo + 1 + c₁ = lo + (c₁ + 1) := by omega
    rw [e2, e3]
theorem dval_bound (ns : List Int) (n B : Nat) (hB : ∀ i ∈ ns, i.natAbs < 2 ^ B) : ∀ (c lo : Nat), (dval ns n lo c).natAbs < 2 ^ (B + (n + 1) * c)
  | 0, lo => by simpa [dval_0] using Nat.two_pow_pos B
  | c + 1, lo => by
    have ih := dval_bound ns n B hB c (lo + 1)
    have h1 : (ns.getD lo 0).natAbs < 2 ^ B := by
      rw [List.getD_eq_getElem?_getD]
      cases e : ns[lo]? with
      | none => simpa using Nat.two_pow_pos B
      | some v => simpa using hB v (List.mem_of_getElem? e)
    show (ns.getD lo 0 + 2 ^ n * dval ns n (lo + 1) c).natAbs < _
    have h2 : (2 ^ n * dval ns n (lo + 1) c).natAbs = 2 ^ n * (dval ns n (lo + 1) c).natAbs := by rw [Int.natAbs_mul, Int.natAbs_pow]; rfl
    have h3 : 2 ^ (B + (n + 1) * (c + 1)) = 2 ^ n * 2 ^ (B + (n + 1) * c) * 2 := by
      rw [← Nat.pow_add, ← Nat.pow_succ]; congr 1; rw [Nat.mul_add]; omega
    have h4 : 2 ^ B ≤ 2 ^ n * 2 ^ (B + (n + 1) * c) := by rw [← Nat.pow_add]; exact Nat.pow_le_pow_right (by decide) (by omega)
    have h5 : 2 ^ n * (dval ns n (lo + 1) c).natAbs ≤ 2 ^ n * 2 ^ (B + (n + 1) * c) := Nat.mul_le_mul_left _ (Nat.le_of_lt ih)
    have h6 := Int.natAbs_add_le (ns.getD lo 0) (2 ^ n * dval ns n (lo + 1) c)
    omega
theorem bits_le_int {x : Int} {k : Nat} (h : x.natAbs < 2 ^ k) : Builtin.Int.intBits x ≤ k := by
  unfold Builtin.Int.intBits
  by_cases hx : x = 0
  · subst hx; simp
  · have : x.natAbs ≠ 0 := by omega
    have : Nat.log2 x.natAbs < k := (Nat.log2_lt this).mpr h
    simp [hx]; omega
noncomputable abbrev qInner2 : Str := Str.ofString "_digits2int" ++ Str.ofString ".<locals>." ++ Str.ofString "inner"
local macro_rules | `(tactic| walk_at "call builtin:len") => `(tactic| (k_here; k_dflt (refine len_led (h := ?_)); intros))
local macro_rules | `(tactic| walk_at "truthy ref") => `(tactic| (k_here; k_dflt (refine truthy_led (h := ?_)); intros))
local macro_rules | `(tactic| walk_at "subscriptTail") => `(tactic| (k_here; k_dflt (refine sub_ints_led (h := ?_)); intros))
theorem digits2int_does (w : World) (l n0 nn : Nat) (u : Tok) (vs : List Value) (ns : List Int) (ps : Array Value) (rest r0 : List (Addr × Obj)) (hr0 : ∀ p ∈ r0, p ∈ rest) (hi : IntsAre vs ns) (hm : (l, listOf vs.toArray n0) ∈ rest) (hlen : vs.length ≤ 16) (hlen0 : 0 < vs.length) (hB : ∀ i ∈ ns, i.natAbs < 2 ^ 64) (hn : 1 ≤ nn) (hn' : nn ≤ 100)
    (hoff : ∀ p ∈ rest, p.1 ≠ 37) (hps : TabSt 47 4 qInner2 ps r0) :
    Does w 42 [.ref l, .int nn u] ((37, tabObj ps) :: rest) 20 200 (fun r news' => ∃ t more ps', r = .int (dval ns nn 0 vs.length) t ∧ news' = (37, tabObj ps') :: (more ++ rest) ∧ TabSt 47 4 qInner2 ps' (more ++ r0) ∧
      (∀ p ∈ more, ∀ q ∈ (37, tabObj ps) :: rest, q.1 < p.1)) := by
  unfold Does; w_top off; k_fill
  intro p loose mean mg mb dp un gd cn cs aa ccd cl outer A₀ base h₀ L m s Q E B F X N T C1 C2 hk dhp hun hQ
  (refine wpAny_call ?_; (k_dflt (refine' code_defC (binds := ([(Str.ofString "digits", .ref l), (Str.ofString "n", .int nn u)])) ?k1 ?k2 ?k3 ?k4 ?k5 ?kA ?kF ?kK ?k6 ?k7 ?k8 ?k9 ?kB ?kD ?_ ?c2 ?c3 ?c4; (case kA => exact rfl); (case kF => exact rfl); (case kK => first | assumption | exact rfl); (case k1 => k_asm); (case k2 => k_asm); (case k3 => k_asm); (case k4 => k_asm); (case k5 => k_asm); (case k6 => k_is); (case k7 => k_is); (case k8 => ktr_room); (case k9 => exact BindsTo.of_eq rfl); (case kB => exact rfl); (case kD => decide +kernel); (case c2 => exact rfl); (case c3 => exact rfl); (case c4 => exact rfl); k_whole; intro g' L' h' tk' cells' FG' F' N' Y' B' X' T' l1; (have C1' := CodeHd.up (by assumption : CodeHd _ 34 30) FG'); (have C2' := CodeHd.up (by assumption : CodeHd _ 41 37) FG'); k_cells Y'; (try simp only [List.cons_append, List.nil_append] at N'); (try dsimp only); (try k_fold))); refine letAQE ?_; intro A9q E9q Q9q)
  rename_i o1 o2 o3 d1 d2 d3
  replace d1 : o1.data = .cell none := d1
  replace d2 : o2.data = .cell (some (.int nn u)) := d2
  replace d3 : o3.data = .cell (some (.ref l)) := d3
  have h37 : @LT.lt Nat _ 37 L' := l1 _ (.head _)
  have l1r : ∀ p ∈ rest, p.1 < L' := fun p hp => l1 p (.tail _ hp)
  k_steps
  k_dflt (refine' nestDef_K ?d0 ?k0 ?a0 ?_; (case d0 => exact rfl); (case k0 => exact rfl); (case a0 => exact rfl))
  rename News _ _ _ _ => N1
  rename Fr g' _ _ _ => F2
  have N2 : News g' L' h' ((37, tabObj ps) :: (L' + 1 + 1 + 1, o1) :: (L' + 1 + 1, o2) :: (L' + 1, o3) :: rest) := by
    exact News.sub N1 (subC m3 (subC (.head _) (subC m1 (subC m2 t4))))
  refine nest_any F2 N2 T' C2' rfl ?_ (r0 := r0) (fun q hq => t3 _ (hr0 q hq)) hps rfl ?_
  · exact offC (neN (by dsimp only; omega)) (offC (neN (by dsimp only; omega)) (offC (neN (by dsimp only; omega)) hoff))
  intro f c' oc vs' tq ctv doc ps' more h2 tk2 F3 N3 hcm hd hv hst' hf hmo
  replace hcm : (c', oc) ∈ more ++ rest := (List.mem_append.mp hcm).elim (fun h => List.mem_append_left _ h) fun h => List.mem_append_right _ (hr0 _ h)
  refine with_head N3 ?_; clear N3; intro FO hFO N3
  have N4 : News g' L' h2 ((f, FO) :: (L' + 1 + 1 + 1, o1) :: (L' + 1 + 1, o2) :: (L' + 1, o3) :: (37, tabObj ps') :: (more ++ rest)) := by
    exact News.sub N3 (sub_mid [_, _, _])
  have f2 := hf _ (.tail _ (List.mem_append_right _ (.head _)))
  have f3 := hf _ (.tail _ (List.mem_append_right _ (.tail _ (.head _))))
  have f4 := hf _ (.tail _ (List.mem_append_right _ (.tail _ (.tail _ (.head _)))))
  have f5 := hf _ (.head _)
  replace f2 := ltN f2; replace f3 := ltN f3; replace f4 := ltN f4; replace f5 := ltN f5
  have m3 : ∀ p ∈ more ++ rest, p.1 ≠ L' + 1 + 1 + 1 := off_more hmo (.tail _ (.head _)) (allOff l1r (by omega))
  have mr : ∀ p ∈ more, ∀ q ∈ (37, tabObj ps) :: rest, q.1 < p.1 := fun p hp q hq => hmo p hp q (subC (.head _) t4 q hq)
  have hml : (l, listOf vs.toArray n0) ∈ more ++ rest := List.mem_append_right _ hm
  clear N1 N2 N3 F2 hf hmo
  subst hFO
  generalize hR : more ++ rest = R at *
  k_steps
  rename_i h3 oI F4 N5 dI tk4 t1 tk5
  refine key_setup0 N5 ?_
  clear N5
  intro R2 hfm hsub N5
  have cm : (c', oc) ∈ R2 := hsub _ (t4 _ hcm)
  have cI : (L' + 1 + 1 + 1, oI) ∈ R2 := hsub _ (.head _)
  have cN : (L' + 1 + 1, o2) ∈ R2 := hsub _ m1
  have cD : (L' + 1, o3) ∈ R2 := hsub _ m2
  have cl' : (l, listOf vs.toArray n0) ∈ R2 := hsub _ (t4 _ hml)
  have key : ∀ (d lo hi : Nat) (t1 t2 : Tok), hi - lo = d → lo < hi → hi ≤ vs.length → Does w f [.int lo t1, .int hi t2] R2 d (8 * d)
      (fun r news' => news' = R2 ∧ ∃ t, r = .int (dval ns nn lo (hi - lo)) t) := by
    clear hQ hsub N5 F4 N F B T X X' B' T' FG' m3 hps hst' l1 l1r hcm hR dhp hun hoff C1 C2 C1' C2' mr hml hm
    intro d
    induction d using Nat.strongRecOn with | _ d ih => ?_
    intro lo hi t1 t2 hd1 hlh hhi
    unfold Does
    intro p₁ loose₁ mean₁ mg₁ mb₁ dp₁ un₁ gd₁ cn₁ cs₁ aa₁ ccd₁ cl₁ outer₁ A₁ base₁ h₁ L₁ m₁ s₁ Q₁ E₁ B₁ F₁ X₁ N₁ T₁ C1 C2 hk₁ dhp hun hQ
    (refine wpAny_call ?_; (k_dflt (refine' code_nest (binds := ([(Str.ofString "L", .int lo t1), (Str.ofString "R", .int hi t2)])) ?k1 ?k2 ?k3 ?k4 ?k5 ?kA ?kF ?kK ?k6 ?k7 ?k8 ?k9 ?kB ?_ ?c2 ?c3 ?c4 ?c5; (case kA => exact rfl); (case kF => exact rfl); (case kK => first | assumption | exact rfl); (case k1 => k_asm); (case k2 => k_asm); (case k3 => k_asm); (case k4 => k_asm); (case k5 => k_asm); (case k6 => k_mem); (case k7 => exact codeRec_news (by k_asm) (by k_mem) (by assumption) (by assumption)); (case k8 => ktr_room); (case k9 => exact BindsTo.of_eq rfl); (case c5 => decide); (case kB => exact locs rfl); (case c2 => exact rfl); (case c3 => exact rfl); (case c4 => exact rfl); k_whole; intro g' L' h' FG' F' N' B' X' T'; (have C1' := CodeHd.up (by assumption : CodeHd _ 34 30) FG'); (have C2' := CodeHd.up (by assumption : CodeHd _ 41 37) FG'); (try dsimp only [List.reverse_cons, List.reverse_nil, List.nil_append, List.cons_append, List.length_cons, List.length_nil] at F'); (try dsimp only); (try k_fold))); refine letAQE ?_; intro A9q E9q Q9q)
    by_cases hone : lo + 1 = hi
    · have hT : ((lo : Int) + 1 == (hi : Int)) = true := by simp only [beq_iff_eq]; omega
      k_steps
      refine hQ _ _ _ _ (by assumption) (by assumption) ⟨rfl, _, congrArg (Value.int · _) ?_⟩
      have : hi - lo = 1 := by omega
      rw [this]
      simp [dval_1]
    · have hT : ((lo : Int) + 1 == (hi : Int)) = false := by simp only [beq_eq_false_iff_ne, ne_eq]; omega
      obtain ⟨mid, e1, mid1, mid2⟩ := mids lo hi hlh hone
      obtain ⟨sh, hsh⟩ : ∃ sh : Nat, sh = (mid - lo) * nn := ⟨_, rfl⟩
      obtain ⟨up, hup⟩ : ∃ up : Int, up = dval ns nn mid (hi - mid) * 2 ^ sh := ⟨_, rfl⟩
      have e2 : ((mid : Int) - lo) * nn = (sh : Int) := by
        rw [hsh, Int.natCast_mul, Int.natCast_sub (by omega)]
      have e4 : dval ns nn mid (hi - mid) * 2 ^ (sh : Int).toNat = up := by rw [hup]; simp
      have b1 : IntMulOk ((mid : Int) - lo) nn := IntMulOk.of_right (Nat.le_trans (bits_le (k := 7) (by omega)) (by decide))
      have b2 : (Builtin.Int.intBits (dval ns nn mid (hi - mid)) : Int) + (sh : Int) ≤ 2 ^ 27 := by
        have h1 : Builtin.Int.intBits (dval ns nn mid (hi - mid)) ≤ 64 + (nn + 1) * (hi - mid) := bits_le_int (dval_bound ns nn 64 hB _ _)
        have h2 : (nn + 1) * (hi - mid) ≤ 101 * 16 := Nat.mul_le_mul (by omega) (by omega)
        have h3 : sh ≤ 16 * 100 := by rw [hsh]; exact Nat.mul_le_mul (by omega) hn'
        omega
      k_steps
      (k_dflt (refine' Does.use ((ih (hi - mid) (by omega) mid hi _ _ rfl (by omega) hhi)) ?k1 ?k2 ?k3 ?k4 ?k5 ?k6 ?k7 ?k8 ?k9 ?k10 ?_; (case k1 => k_asm); (case k2 => k_asm); (case k3 => k_asm); (case k4 => k_asm); (case k5 => k_asm); (case k6 => k_asm); (case k7 => k_asm); (case k8 => first | assumption | exact rfl); (case k9 => ktr_room); (case k10 => ktr_units)); intro r9 n9 h9 tk9 F9 N9 P9)
      obtain ⟨rfl, t9, rfl⟩ := P9
      k_steps
      (k_dflt (refine' Does.use ((ih (mid - lo) (by omega) lo mid _ _ rfl (by omega) (by omega))) ?k1 ?k2 ?k3 ?k4 ?k5 ?k6 ?k7 ?k8 ?k9 ?k10 ?_; (case k1 => k_asm); (case k2 => k_asm); (case k3 => k_asm); (case k4 => k_asm); (case k5 => k_asm); (case k6 => k_asm); (case k7 => k_asm); (case k8 => first | assumption | exact rfl); (case k9 => ktr_room); (case k10 => ktr_units)); intro r9 n9 h9 tk9 F9 N9 P9)
      obtain ⟨rfl, t9, rfl⟩ := P9
      k_steps
      refine hQ _ _ _ _ (by assumption) (by assumption) ⟨rfl, _, congrArg (Value.int · _) ?_⟩
      have e9 : hi - lo = (mid - lo) + (hi - mid) := by omega
      have e10 : lo + (mid - lo) = mid := by omega
      rw [e9, dval_add, e10, hup, hsh, Nat.mul_comm nn, Int.add_comm, Int.mul_comm]
  (k_dflt (refine' Does.use ((key vs.length 0 vs.length tk4 t1 rfl hlen0 (Nat.le_refl _))) ?k1 ?k2 ?k3 ?k4 ?k5 ?k6 ?k7 ?k8 ?k9 ?k10 ?_; (case k1 => k_asm); (case k2 => k_asm); (case k3 => k_asm); (case k4 => k_asm); (case k5 => k_asm); (case k6 => k_asm); (case k7 => k_asm); (case k8 => first | assumption | exact rfl); (case k9 => ktr_room); (case k10 => ktr_units)); intro r9 n9 h9 tk9 F9 N9 P9)
  obtain ⟨rfl, t9, rfl⟩ := P9
  k_steps
  refine hQ _ _ _ _ (by assumption) (News.sub (by assumption) ?_) ⟨_, more, ps', rfl, rfl, ?_, mr⟩
  · intro q hq
    rw [hR] at hq
    exact hsub _ (t3 q hq)
  · exact hst'
end Mine
end
section
open PySem PySem.W PyProof.Rows PySem.Calls
set_option maxRecDepth 100000
set_option maxHeartbeats 8000000
namespace Mine
noncomputable abbrev tup2 (a b : Value) : Obj := { cls := .type "tuple", data := .seq #[a, b] 0 }
theorem divmod_new {prog : Program} {w : World} {A : Around} {E : Value → Shared → Prop} {s : Shared} {a b : Int} {t u : Tok} {Q : Value → Shared → Prop} {h₀ : Heap} {L : Addr} {m : Str → Option Value} {news : List (Addr × Obj)} (F : Fr h₀ L s.heap m := by k_asm) (N : News h₀ L s.heap news := by k_asm) (hb : 0 < b := by assumption) (hno : Builtin.divisionGoesByPylong a b = false := by assumption)
    (h : ∀ x h' t u tk, Fr h₀ L h' m → News h₀ L h' ((x, tup2 (.int (a / b) t) (.int (a % b) u)) :: news) → (∀ p ∈ news, p.1 < x) → Q (.ref x) { s with heap := h', toks := tk }) :
    wpAny (model prog w) A (call (.builtin "divmod") [.int a t, .int b u]) Q E s := by
  refine divmod_N F N (by omega) (fun h' F' N' => ?_) (.inl hno)
  have e1 : a.fdiv b = a / b := Int.fdiv_eq_ediv_of_nonneg _ (by omega)
  have e2 : a.fmod b = a % b := Int.fmod_eq_emod_of_nonneg _ (by omega)
  rw [e1, e2] at N'
  exact h _ _ _ _ _ F' N' fun p hp => Heap.lt_size (N p hp).1
local macro_rules | `(tactic| walk_at "call builtin:divmod") => `(tactic| (k_here; k_dflt (refine divmod_new (h := ?_)); intros))
theorem div2n1n_does (w : World) (a b : Int) (t u v : Tok) (news : List (Addr × Obj)) (ha' : Builtin.Int.intBits a ≤ 300) (hb : 0 < b) (hno : Builtin.divisionGoesByPylong a b = false) :
    Does w 21 [.int a t, .int b u, .int 60 v] news 1 8 (fun r news' => ∃ x t' u', r = .ref x ∧ news' = (x, tup2 (.int (a / b) t') (.int (a % b) u')) :: news ∧ ∀ p ∈ news, p.1 < x) := by
  unfold Does; w_top off; k_fill
  intro p loose mean mg mb dp un gd cn cs aa ccd cl outer A₀ base h₀ L m s Q E B F X N T C1 C2 hk dhp hun hQ
  (refine wpAny_call ?_; (k_dflt (refine' code_def (binds := ([(Str.ofString "a", .int a t), (Str.ofString "b", .int b u), (Str.ofString "n", .int 60 v)])) ?k1 ?k2 ?k3 ?k4 ?k5 ?kA ?kF ?kK ?k6 ?k7 ?k8 ?k9 ?kB ?_ ?c2 ?c3 ?c4 ?c5; (case kA => exact rfl); (case kF => exact rfl); (case kK => first | assumption | exact rfl); (case k1 => k_asm); (case k2 => k_asm); (case k3 => k_asm); (case k4 => k_asm); (case k5 => k_asm); (case k6 => k_is); (case k7 => k_is); (case k8 => ktr_room); (case k9 => exact BindsTo.of_eq rfl); (case c5 => decide); (case kB => exact locs rfl); (case c2 => exact rfl); (case c3 => exact rfl); (case c4 => exact rfl); k_whole; intro g' L' h' FG' F' N' B' X' T'; (have C1' := CodeHd.up (by assumption : CodeHd _ 34 30) FG'); (have C2' := CodeHd.up (by assumption : CodeHd _ 41 37) FG'); (try dsimp only [List.reverse_cons, List.reverse_nil, List.nil_append, List.cons_append, List.length_cons, List.length_nil] at F'); (try dsimp only); (try k_fold))); refine letAQE ?_; intro A9q E9q Q9q)
  k_steps
  exact hQ _ _ _ _ (by assumption) (by assumption) ⟨_, _, _, rfl, rfl, by assumption⟩
end Mine
end
section
open PySem PySem.W PyProof.Rows PySem.Calls
set_option maxRecDepth 100000
set_option maxHeartbeats 8000000
namespace Mine
/-- R bears the two tables of nested code -/
noncomputable def Tabs (R : List (Addr × Obj)) : Prop :=
  (∃ ps, (30, tabObj ps) ∈ R ∧ TabSt 32 4 qInner1 ps R) ∧ ∃ ps, (37, tabObj ps) ∈ R ∧ TabSt 47 4 qInner2 ps R
/-- R' goes on from R, beside own -/
structure Ext (own R R' : List (Addr × Obj)) : Prop where
  tabs : Tabs R'
  keep : ∀ p ∈ R, p.1 ≠ 30 → p.1 ≠ 37 → p ∈ R'
  off : ∀ q ∈ own, (∀ p ∈ R, p.1 ≠ q.1) → ∀ p ∈ R', p.1 ≠ q.1
theorem Ext.refl {own R : List (Addr × Obj)} (h : Tabs R) : Ext own R R := ⟨h, fun _ hp _ _ => hp, fun _ _ h => h⟩
theorem Ext.trans {own R R' R'' : List (Addr × Obj)} (a : Ext own R R') (b : Ext own R' R'') : Ext own R R'' :=
  ⟨b.tabs, fun p hp h1 h2 => b.keep p (a.keep p hp h1 h2) h1 h2, fun q hq h => b.off q hq (a.off q hq h)⟩
theorem Ext.own {own own' R R' : List (Addr × Obj)} (a : Ext own R R') (h : ∀ p ∈ own', p ∈ own) : Ext own' R R' := ⟨a.tabs, a.keep, fun q hq => a.off q (h q hq)⟩
theorem Ext.ad {own own' R R' : List (Addr × Obj)} (a : Ext own R R') (h : ∀ p ∈ own', ∃ q ∈ own, q.1 = p.1) : Ext own' R R' := ⟨a.tabs, a.keep, fun q hq => by
  obtain ⟨q', hq', e⟩ := h q hq
  rw [← e]; exact a.off q' hq'⟩
noncomputable abbrev off30 (l : List (Addr × Obj)) : List (Addr × Obj) := l.filter fun p => !Nat.beq p.1 30
noncomputable abbrev off37 (l : List (Addr × Obj)) : List (Addr × Obj) := l.filter fun p => !Nat.beq p.1 37
theorem mem_off30 {l : List (Addr × Obj)} {p : Addr × Obj} : p ∈ off30 l ↔ p ∈ l ∧ p.1 ≠ 30 := by
  have e : (!Nat.beq p.1 30) = true ↔ p.1 ≠ 30 := by rw [Bool.not_eq_true', ← Bool.not_eq_true, Nat.beq_eq]
  rw [off30, List.mem_filter, e]
theorem mem_off37 {l : List (Addr × Obj)} {p : Addr × Obj} : p ∈ off37 l ↔ p ∈ l ∧ p.1 ≠ 37 := by
  have e : (!Nat.beq p.1 37) = true ↔ p.1 ≠ 37 := by rw [Bool.not_eq_true', ← Bool.not_eq_true, Nat.beq_eq]
  rw [off37, List.mem_filter, e]
theorem TabSt.off {ln col : Int} {qual : Str} {ps ps' : Array Value} {R R' : List (Addr × Obj)} {P : Addr} (h : TabSt ln col qual ps R) {g hp : Heap} {L : Addr} (N : News g L hp R) (hm : (P, tabObj ps') ∈ R) (hk : ps' = #[] ∨ ∃ a b c, ps' = #[rawInt a, rawInt b, c]) (hs : ∀ p ∈ R, p.1 ≠ P → p ∈ R') : TabSt ln col qual ps R' := by
  rcases h with h | ⟨c', oc, vs, t, a, b, c, d⟩
  · exact .inl h
  · refine .inr ⟨c', oc, vs, t, a, hs _ b ?_, c, d⟩
    rintro rfl
    have e : oc = tabObj ps' := Option.some.inj ((N _ b).1.symm.trans (N _ hm).1)
    rw [e] at c
    have c' : ps' = vs := by injection c
    subst c'
    rcases hk with rfl | ⟨x, y, z, rfl⟩
    · simp at d
    · simp [rawInt] at d
theorem TabSt.shape {ln col : Int} {qual : Str} {ps : Array Value} {R : List (Addr × Obj)} (h : TabSt ln col qual ps R) : ps = #[] ∨ ∃ a b c, ps = #[rawInt a, rawInt b, c] := by
  rcases h with h | ⟨c', oc, vs, t, a, _⟩
  · exact .inl h
  · exact .inr ⟨_, _, _, a⟩

theorem int2digits_ext (w : World) (a nn k : Nat) (t u : Tok) (own R : List (Addr × Obj)) (ha : 0 < a) (ha' : a < 2 ^ (nn * k)) (hn : 1 ≤ nn) (hn' : nn ≤ 100) (hkk : (((Builtin.Int.intBits a : Nat) : Int) + nn - 1).fdiv nn = k) (hk1 : 0 < k) (hk2 : k ≤ 16)
    (hT : Tabs R) (ho : ∀ q ∈ own, q.1 ≠ 30) :
    Does w 35 [.int a t, .int nn u] (own ++ R) 20 200 (fun r news' => ∃ l vs R', r = .ref l ∧ news' = (l, listOf vs.toArray 0) :: (own ++ R') ∧ IntsAre vs (digs a nn k) ∧ Ext own R R' ∧ (∀ p ∈ own ++ R, p.1 < l) ∧ ∀ p ∈ R', p.1 ≠ l) := by
  obtain ⟨⟨ps1, hm1, hst1⟩, ⟨ps2, hm2, hst2⟩⟩ := hT
  intro p loose mean mg mb dp un gd cn cs aa ccd cl outer A₀ base h₀ L m s Q E B F X N T C1 C2 hk dhp hun hQ
  have NR : News h₀ L s.heap R := News.sub N fun q hq => List.mem_append_right _ hq
  have hstA : TabSt 32 4 qInner1 ps1 (off30 R) := hst1.off NR hm1 hst1.shape fun q hq h => mem_off30.mpr ⟨hq, h⟩
  have baseP : ∀ q ∈ own ++ R, q.1 = 30 → q = (30, tabObj ps1) := fun q hq e => by
    obtain ⟨qa, qo⟩ := q
    cases (e : qa = 30)
    have := Option.some.inj ((N _ hq).1.symm.trans (NR _ hm1).1)
    exact Prod.ext rfl this
  refine Does.use (int2digits_does w a nn k t u ps1 (off30 (own ++ R)) (off30 R) (fun q hq => mem_off30.mpr ⟨List.mem_append_right _ (mem_off30.mp hq).1, (mem_off30.mp hq).2⟩) ha ha' hn hn' hkk hk1 hk2 (fun q hq => (mem_off30.mp hq).2) hstA) B F X (News.sub N ?_) T C1 C2 hk dhp hun ?_
  · intro q hq
    rcases List.mem_cons.mp hq with rfl | hq
    · exact List.mem_append_right _ hm1
    · exact (mem_off30.mp hq).1
  · rintro r news' h' tk' F' N' ⟨l, vs, more, ps', rfl, rfl, hi, hst', hlt, hmo, hml⟩
    have hall : ∀ q ∈ own ++ R, q ∈ (30, tabObj ps1) :: off30 (own ++ R) := fun q hq => by
      by_cases e : q.1 = 30
      · rw [baseP q hq e]; exact .head _
      · exact .tail _ (mem_off30.mpr ⟨hq, e⟩)
    have hmoA : ∀ p ∈ more, ∀ q ∈ own ++ R, q.1 < p.1 := fun p hp q hq => hmo p hp q (hall q hq)
    have subA : ∀ q ∈ own ++ ((30, tabObj ps') :: (more ++ off30 R)), q ∈ (30, tabObj ps') :: (more ++ off30 (own ++ R)) := by
      intro q hq
      rcases List.mem_append.mp hq with hq | hq
      · exact .tail _ (List.mem_append_right _ (mem_off30.mpr ⟨List.mem_append_left _ hq, ho q hq⟩))
      · rcases List.mem_cons.mp hq with rfl | hq
        · exact .head _
        · refine .tail _ ?_
          rcases List.mem_append.mp hq with hq | hq
          · exact List.mem_append_left _ hq
          · exact List.mem_append_right _ (mem_off30.mpr ⟨List.mem_append_right _ (mem_off30.mp hq).1, (mem_off30.mp hq).2⟩)
    have ext : Ext own R ((30, tabObj ps') :: (more ++ off30 R)) := by
      refine ⟨⟨⟨ps', .head _, hst'.mono fun q hq => .tail _ hq⟩, ⟨ps2, .tail _ (List.mem_append_right _ (mem_off30.mpr ⟨hm2, (by decide : (37 : Nat) ≠ 30)⟩)), hst2.off NR hm1 hst1.shape fun q hq h => .tail _ (List.mem_append_right _ (mem_off30.mpr ⟨hq, h⟩))⟩⟩, ?_, ?_⟩
      · intro q hq h1 h2
        exact .tail _ (List.mem_append_right _ (mem_off30.mpr ⟨hq, by assumption⟩))
      · intro q hq h p hp
        rcases List.mem_cons.mp hp with rfl | hp
        · exact Ne.symm (ho q hq)
        · rcases List.mem_append.mp hp with hp | hp
          · exact Nat.ne_of_gt (hmoA p hp q (List.mem_append_left _ hq))
          · exact h p (mem_off30.mp hp).1
    have hltA : ∀ q ∈ own ++ R, q.1 < l := fun q hq => hlt q (hall q hq)
    refine hQ _ _ _ _ F' (News.sub N' fun q hq => ?_) ⟨l, vs, _, rfl, rfl, hi, ext, hltA, ?_⟩
    · rcases List.mem_cons.mp hq with rfl | hq
      · exact .head _
      · exact .tail _ (subA q hq)
    · intro q hq
      rcases List.mem_cons.mp hq with rfl | hq
      · exact Nat.ne_of_lt (hlt (30, tabObj ps1) (.head _))
      · rcases List.mem_append.mp hq with hq | hq
        · exact hml q hq
        · exact Nat.ne_of_lt (hltA q (List.mem_append_right _ (mem_off30.mp hq).1))
theorem digits2int_ext (w : World) (l n0 nn : Nat) (u : Tok) (vs : List Value) (ns : List Int) (own R : List (Addr × Obj)) (hi : IntsAre vs ns) (hm : (l, listOf vs.toArray n0) ∈ own ++ R) (hlen : vs.length ≤ 16) (hlen0 : 0 < vs.length) (hB : ∀ i ∈ ns, i.natAbs < 2 ^ 64) (hn : 1 ≤ nn) (hn' : nn ≤ 100) (hl : l ≠ 37)
    (hT : Tabs R) (ho : ∀ q ∈ own, q.1 ≠ 37) :
    Does w 42 [.ref l, .int nn u] (own ++ R) 20 200 (fun r news' => ∃ t R', r = .int (dval ns nn 0 vs.length) t ∧ news' = own ++ R' ∧ Ext own R R') := by
  obtain ⟨⟨ps1, hm1, hst1⟩, ⟨ps2, hm2, hst2⟩⟩ := hT
  intro p loose mean mg mb dp un gd cn cs aa ccd cl outer A₀ base h₀ L m s Q E B F X N T C1 C2 hk dhp hun hQ
  have NR : News h₀ L s.heap R := News.sub N fun q hq => List.mem_append_right _ hq
  have hstA : TabSt 47 4 qInner2 ps2 (off37 R) := hst2.off NR hm2 hst2.shape fun q hq h => mem_off37.mpr ⟨hq, h⟩
  have baseP : ∀ q ∈ own ++ R, q.1 = 37 → q = (37, tabObj ps2) := fun q hq e => by
    obtain ⟨qa, qo⟩ := q
    cases (e : qa = 37)
    have := Option.some.inj ((N _ hq).1.symm.trans (NR _ hm2).1)
    exact Prod.ext rfl this
  refine Does.use (digits2int_does w l n0 nn u vs ns ps2 (off37 (own ++ R)) (off37 R) (fun q hq => mem_off37.mpr ⟨List.mem_append_right _ (mem_off37.mp hq).1, (mem_off37.mp hq).2⟩) hi (mem_off37.mpr ⟨hm, hl⟩) hlen hlen0 hB hn hn' (fun q hq => (mem_off37.mp hq).2) hstA) B F X (News.sub N ?_) T C1 C2 hk dhp hun ?_
  · intro q hq
    rcases List.mem_cons.mp hq with rfl | hq
    · exact List.mem_append_right _ hm2
    · exact (mem_off37.mp hq).1
  · rintro r news' h' tk' F' N' ⟨t, more, ps', rfl, rfl, hst', hmo⟩
    have hall : ∀ q ∈ own ++ R, q ∈ (37, tabObj ps2) :: off37 (own ++ R) := fun q hq => by
      by_cases e : q.1 = 37
      · rw [baseP q hq e]; exact .head _
      · exact .tail _ (mem_off37.mpr ⟨hq, e⟩)
    have hmoA : ∀ p ∈ more, ∀ q ∈ own ++ R, q.1 < p.1 := fun p hp q hq => hmo p hp q (hall q hq)
    have subA : ∀ q ∈ own ++ ((37, tabObj ps') :: (more ++ off37 R)), q ∈ (37, tabObj ps') :: (more ++ off37 (own ++ R)) := by
      intro q hq
      rcases List.mem_append.mp hq with hq | hq
      · exact .tail _ (List.mem_append_right _ (mem_off37.mpr ⟨List.mem_append_left _ hq, ho q hq⟩))
      · rcases List.mem_cons.mp hq with rfl | hq
        · exact .head _
        · refine .tail _ ?_
          rcases List.mem_append.mp hq with hq | hq
          · exact List.mem_append_left _ hq
          · exact List.mem_append_right _ (mem_off37.mpr ⟨List.mem_append_right _ (mem_off37.mp hq).1, (mem_off37.mp hq).2⟩)
    have ext : Ext own R ((37, tabObj ps') :: (more ++ off37 R)) := by
      refine ⟨⟨⟨ps1, .tail _ (List.mem_append_right _ (mem_off37.mpr ⟨hm1, (by decide : (30 : Nat) ≠ 37)⟩)), hst1.off NR hm2 hst2.shape fun q hq h => .tail _ (List.mem_append_right _ (mem_off37.mpr ⟨hq, h⟩))⟩, ⟨ps', .head _, hst'.mono fun q hq => .tail _ hq⟩⟩, ?_, ?_⟩
      · intro q hq h1 h2
        exact .tail _ (List.mem_append_right _ (mem_off37.mpr ⟨hq, by assumption⟩))
      · intro q hq h p hp
        rcases List.mem_cons.mp hp with rfl | hp
        · exact Ne.symm (ho q hq)
        · rcases List.mem_append.mp hp with hp | hp
          · exact Nat.ne_of_gt (hmoA p hp q (List.mem_append_left _ hq))
          · exact h p (mem_off37.mp hp).1
    exact hQ _ _ _ _ F' (News.sub N' subA) ⟨t, _, rfl, rfl, ext⟩
end Mine
end
section
open PySem PySem.W PyProof.Rows PySem.Calls
set_option maxRecDepth 100000
set_option maxHeartbeats 8000000
namespace Mine
/-- the walk halts here -/
noncomputable def Stop (P : Prop) : Prop := P
theorem Stop.intro {P : Prop} (h : Stop P) : P := h
theorem UnrPost.imp {h₀ : Heap} {L : Addr} {s₁ : Shared} {I : Addr} {it : Obj} {rest rest' : (Str → Option Value) → List (Addr × Obj) → Prop} {Q : Flow → Shared → Prop} {f : Flow} {s₂ : Shared} (h : ∀ m n, rest m n → rest' m n) (x : UnrPost h₀ L s₁ I it rest Q f s₂) : UnrPost h₀ L s₁ I it rest' Q f s₂ := by
  cases f with
  | ret v => exact x
  | brk => exact x
  | next => obtain ⟨h', tk, m', n', e, F, N, o, r⟩ := x; exact ⟨h', tk, m', n', e, F, N, o, h _ _ r⟩
  | cont => obtain ⟨h', tk, m', n', e, F, N, o, r⟩ := x; exact ⟨h', tk, m', n', e, F, N, o, h _ _ r⟩
section
variable {prog : Program} {w : World} {A : Around} {E : Value → Shared → Prop} {s : Shared} {env : Env} {h₀ : Heap} {x : Str} {body : List Stmt} {Q : Flow → Shared → Prop} {I : Addr} {lp : Addr × Obj}
theorem rev_induct (J : List Value → (Str → Option Value) → List (Addr × Obj) → Prop)
    (h0 : ∀ m news, J [] m news → ∀ h tk, Fr h₀ env.locals h m → News h₀ env.locals h news → Q .next { s with heap := h, toks := tk })
    (hs : ∀ v r m news, J (v :: r) m news → ∀ (it : Obj) h tk, it.cls = .type "list_reverseiterator" → Fr h₀ env.locals h (fun y => if y = x then some v else m y) → News h₀ env.locals h ((I, it) :: news) →
      wpAny (model prog w) A (execs body env) (UnrPost h₀ env.locals { s with heap := h, toks := tk } I it (fun m' n' => lp ∈ n' ∧ J r m' n') Q) E { s with heap := h, toks := tk }) :
    ∀ r m news, J r m news → RevRest prog w A E h₀ env x body Q s I lp r m news
  | [], m, news, hJ => RevRest.zero (h0 m news hJ)
  | v :: r, m, news, hJ => RevRest.succ fun it h tk hc F N => wpAny_mono (hs v r m news hJ it h tk hc F N) (fun _ _ p => UnrPost.imp (fun m' n' ⟨a, b⟩ => ⟨a, rev_induct J h0 hs r m' n' b⟩) p) fun _ _ e => e
theorem list_induct (J : List Value → (Str → Option Value) → List (Addr × Obj) → Prop)
    (h0 : ∀ m news, J [] m news → ∀ h tk, Fr h₀ env.locals h m → News h₀ env.locals h news → Q .next { s with heap := h, toks := tk })
    (hs : ∀ v r m news, J (v :: r) m news → ∀ (it : Obj) h tk, it.cls = .type "list_iterator" → Fr h₀ env.locals h (fun y => if y = x then some v else m y) → News h₀ env.locals h ((I, it) :: news) →
      wpAny (model prog w) A (execs body env) (UnrPost h₀ env.locals { s with heap := h, toks := tk } I it (fun m' n' => lp ∈ n' ∧ J r m' n') Q) E { s with heap := h, toks := tk }) :
    ∀ r m news, J r m news → ListRest prog w A E h₀ env x body Q s I lp r m news
  | [], m, news, hJ => ListRest.zero (h0 m news hJ)
  | v :: r, m, news, hJ => ListRest.succ fun it h tk hc F N => wpAny_mono (hs v r m news hJ it h tk hc F N) (fun _ _ p => UnrPost.imp (fun m' n' ⟨a, b⟩ => ⟨a, list_induct J h0 hs r m' n' b⟩) p) fun _ _ e => e
theorem range_induct {a : Int} {n : Nat} (J : Nat → (Str → Option Value) → List (Addr × Obj) → Prop)
    (h0 : ∀ m news, J n m news → ∀ h tk, Fr h₀ env.locals h m → News h₀ env.locals h news → Q .next { s with heap := h, toks := tk })
    (hs : ∀ i m news, i < n → J i m news → ∀ t h tk, Fr h₀ env.locals h (fun y => if y = x then some (.int (a + (i : Int)) t) else m y) → News h₀ env.locals h ((I, itR (a + ((i + 1 : Nat) : Int)) ((n : Int) - ((i + 1 : Nat) : Int))) :: news) →
      wpAny (model prog w) A (execs body env) (UnrPost h₀ env.locals { s with heap := h, toks := tk } I (itR (a + ((i + 1 : Nat) : Int)) ((n : Int) - ((i + 1 : Nat) : Int))) (J (i + 1)) Q) E { s with heap := h, toks := tk }) :
    ∀ k i m news, k + i = n → J i m news → RangeRest prog w A E h₀ env x body Q s I a n k i m news
  | 0, i, m, news, e, hJ => RangeRest.zero (h0 m news (by have : i = n := by omega
                                                          rw [← this]; exact hJ))
  | k + 1, i, m, news, e, hJ => RangeRest.succ fun t h tk F N => wpAny_mono (hs i m news (by omega) hJ t h tk F N) (fun _ _ p => UnrPost.imp (fun m' n' b => range_induct J h0 hs k (i + 1) m' n' (by omega) b) p) fun _ _ e => e

noncomputable def WPost (J : Nat → Shared → Prop) (k : Nat) (Q : Flow → Shared → Prop) (f : Flow) (s : Shared) : Prop :=
  match f with
  | .next => ∃ k', k' < k ∧ J k' s
  | .cont => ∃ k', k' < k ∧ J k' s
  | .brk => Q .next s
  | .ret v => Q (.ret v) s
theorem while_induct {test : PySem.Expr} {orelse : List Stmt} {pos : Pos} (J : Nat → Shared → Prop) (hE : PassesOwn (model prog w) A env E)
    (turn : ∀ k s, J k s → wpAny (model prog w) A (isTrue test env (eval test env)) (fun b s₂ => WhlIf b (wpAny (model prog w) A (execs body env) (WPost J k Q) E s₂) (wpAny (model prog w) A (execs orelse env) Q E s₂)) E s) :
    ∀ k s, J k s → wpAny (model prog w) A (exec (.While test body orelse pos) env) Q E s := by
  intro k s hJ
  refine whl_start 0 ?_
  show WhlRest prog w A E env test body orelse Q 0 s
  induction k using Nat.strongRecOn generalizing s with | _ k ih => ?_
  refine whl_turn (k := 0) hE (wpAny_mono (turn k s hJ) (fun b s₂ h₂ => ?_) fun _ _ e => e)
  cases b with
  | false => exact h₂
  | true =>
    refine wpAny_mono (show wpAny (model prog w) A (execs body env) (WPost J k Q) E s₂ from h₂) (fun f s₃ h₃ => ?_) fun _ _ e => e
    cases f with
    | next => obtain ⟨k', hk, hJ'⟩ := h₃; exact ih k' hk s₃ hJ'
    | cont => obtain ⟨k', hk, hJ'⟩ := h₃; exact ih k' hk s₃ hJ'
    | brk => exact h₃
    | ret v => exact h₃
theorem News.tl {g : Heap} {L : Addr} {h : Heap} {p : Addr × Obj} {l1 : List (Addr × Obj)} (N : News g L h (p :: l1)) (l2 : List (Addr × Obj)) (hs : ∀ q ∈ l2, q ∈ p :: l1) : News g L h (p :: l2) := fun q hq => (List.mem_cons.mp hq).elim (fun e => N q (e ▸ .head _)) fun hq => N q (hs q hq)
theorem offI_of {I : Addr} {it : Obj} : ∀ {l : List (Addr × Obj)}, (∀ p ∈ l, p.1 ≠ I) → OffI I it l
  | [], _ => trivial
  | p :: _, h => ⟨.inl (h p (.head _)), offI_of fun q hq => h q (.tail _ hq)⟩
theorem lt_off {d : Nat} {l : List (Addr × Obj)} (h : ∀ p ∈ l, p.1 < d) : ∀ p ∈ l, p.1 ≠ d := fun p hp => Nat.ne_of_lt (h p hp)
theorem allLt_all {d : Nat} {l : List (Addr × Obj)} (h : AllLt d l) : ∀ p ∈ l, p.1 < d := AllLt.out h
end
end Mine
end
section
open PySem PySem.W PyProof.Rows PySem.Calls Mine
local macro_rules | `(tactic| walk_at "exec While Compare cons nil") => `(tactic| (k_here; refine Stop.intro ?_))
local macro_rules | `(tactic| walk_at "exec While Name cons nil") => `(tactic| (k_here; refine Stop.intro ?_))
local macro_rules | `(tactic| walk_at "exec For Name Name cons nil") => `(tactic| (k_here; refine Stop.intro ?_))
local macro_rules | `(tactic| walk_at "exec For Name Call cons nil") => `(tactic| (k_here; refine Stop.intro ?_))
local macro_rules | `(tactic| walk_at "exec For Tuple Call cons nil") => `(tactic| (k_here; refine Stop.intro ?_))
local macro_rules | `(tactic| walk_at "eval Name") => `(tactic| (k_here; k_dflt (refine ldA ?_)))
section
open PySem PySem.W PyProof.Rows PySem.Calls
set_option maxRecDepth 100000
set_option maxHeartbeats 8000000
namespace Mine
local macro_rules | `(tactic| omega) => `(tactic| lia)
section

theorem bit_length_eq {prog : Program} {w : World} {A : Around} {E : Value → Shared → Prop} {s : Shared} {a k : Int} {t : Tok} {Q : Value → Shared → Prop} (e : ((Builtin.Int.intBits a : Nat) : Int) = k := by assumption) (h : Q (.int k s.toks) { s with toks := s.toks + 1 }) :
    wpAny (model prog w) A (call (.builtin "int.bit_length") [.int a t]) Q E s := call_int_bit_length (by rw [e]; exact h)
local macro_rules | `(tactic| walk_at "call builtin:int.bit_length") => `(tactic| (k_here; with_reducible refine bit_length_eq (h := ?_)))
theorem bitsSmall {r : Int} (h : 0 ≤ r ∧ r < 2 ^ 60) : ((Builtin.Int.intBits r : Nat) : Int) + 60 ≤ 2 ^ 27 := by
  have := bits_le_int (x := r) (k := 60) (by omega)
  omega
theorem ints_append {vs ws : List Value} {ns ms : List Int} (a : IntsAre vs ns) (b : IntsAre ws ms) : IntsAre (vs ++ ws) (ns ++ ms) := by
  induction a with
  | nil => exact b
  | cons n t _ ih => exact .cons n t ih
theorem ints_reverse {vs : List Value} {ns : List Int} (a : IntsAre vs ns) : IntsAre vs.reverse ns.reverse := by
  induction a with
  | nil => exact .nil
  | cons n t _ ih => simp only [List.reverse_cons]; exact ints_append ih (.cons n t .nil)
theorem dval_foldr_aux (ns : List Int) (n : Nat) : ∀ (c lo : Nat), lo + c = ns.length → dval ns n lo c = (ns.drop lo).foldr (fun d acc => d + 2 ^ n * acc) 0
  | 0, lo, e => by rw [List.drop_eq_nil_of_le (by omega)]; rfl
  | c + 1, lo, e => by
    have hl : lo < ns.length := by omega
    rw [List.drop_eq_getElem_cons hl, List.foldr_cons, ← dval_foldr_aux ns n c (lo + 1) (by omega)]
    show ns.getD lo 0 + _ = _
    rw [List.getD_eq_getElem?_getD, List.getElem?_eq_getElem hl]; rfl
theorem dval_foldr (ns : List Int) (n : Nat) : dval ns n 0 ns.length = ns.foldr (fun d acc => d + 2 ^ n * acc) 0 := by
  have := dval_foldr_aux ns n ns.length 0 (by omega)
  simpa using this
theorem divmod_pos_does (w : World) (b : Int) (t u : Tok) (own R : List (Addr × Obj)) (hb1 : 2 ^ 59 ≤ b) (hb2 : b < 2 ^ 60) (hT : Tabs R) (ho : ∀ q ∈ own, q.1 ≠ 30 ∧ q.1 ≠ 37) :
    Does w 49 [.int (2 ^ 200) t, .int b u] (own ++ R) 30 300 (fun r news' => ∃ x R' t' u', r = .ref x ∧ news' = (x, tup2 (.int (2 ^ 200 / b) t') (.int (2 ^ 200 % b) u')) :: (own ++ R') ∧ Ext own R R' ∧ (∀ p ∈ own ++ R', p.1 < x)) := by
  have hb60 : ((Builtin.Int.intBits b : Nat) : Int) = 60 := by
    have h1 : b.natAbs < 2 ^ 60 := by omega
    have h2 := bits_le_int h1
    have h3 : 59 ≤ b.natAbs.log2 := (Nat.le_log2 (by omega)).mpr (by omega)
    have h4 : Builtin.Int.intBits b = b.natAbs.log2 + 1 := by
      unfold Builtin.Int.intBits
      have : (b == 0) = false := by simp only [beq_eq_false_iff_ne, ne_eq]; omega
      simp [this]
    omega
  unfold Does; w_top off; k_fill
  intro p loose mean mg mb dp un gd cn cs aa ccd cl outer A₀ base h₀ L m s Q E B F X N T C1 C2 hk dhp hun hQ
  (refine wpAny_call ?_; (k_dflt (refine' code_def (binds := ([(Str.ofString "a", .int (2 ^ 200) t), (Str.ofString "b", .int b u)])) ?k1 ?k2 ?k3 ?k4 ?k5 ?kA ?kF ?kK ?k6 ?k7 ?k8 ?k9 ?kB ?_ ?c2 ?c3 ?c4 ?c5; (case kA => exact rfl); (case kF => exact rfl); (case kK => first | assumption | exact rfl); (case k1 => k_asm); (case k2 => k_asm); (case k3 => k_asm); (case k4 => k_asm); (case k5 => k_asm); (case k6 => k_is); (case k7 => k_is); (case k8 => ktr_room); (case k9 => exact BindsTo.of_eq rfl); (case c5 => decide); (case kB => exact locs rfl); (case c2 => exact rfl); (case c3 => exact rfl); (case c4 => exact rfl); k_whole; intro g' L' h' FG' F' N' B' X' T'; (have C1' := CodeHd.up (by assumption : CodeHd _ 34 30) FG'); (have C2' := CodeHd.up (by assumption : CodeHd _ 41 37) FG'); (try dsimp only [List.reverse_cons, List.reverse_nil, List.nil_append, List.cons_append, List.length_cons, List.length_nil] at F'); (try dsimp only); (try k_fold))); refine letAQE ?_; intro A9q E9q Q9q)
  k_steps
  (k_dflt (refine' Does.use ((int2digits_ext w (2 ^ 200) 60 4 _ _ own R (by decide) (by decide) (by decide) (by decide) (by decide +kernel) (by decide) (by decide) hT (fun q hq => (ho q hq).1))) ?k1 ?k2 ?k3 ?k4 ?k5 ?k6 ?k7 ?k8 ?k9 ?k10 ?_; (case k1 => k_asm); (case k2 => k_asm); (case k3 => k_asm); (case k4 => k_asm); (case k5 => k_asm); (case k6 => k_asm); (case k7 => k_asm); (case k8 => first | assumption | exact rfl); (case k9 => ktr_room); (case k10 => ktr_units)); intro r9 n9 h9 tk9 F9 N9 P9)
  (refine ex3 P9 ?_; clear P9; intro l vs R1 hOB9; refine and6 hOB9 ?_; clear hOB9; intro eOB0 eOB1 hi ext1 hlt1 hne1; subst eOB0; subst eOB1)
  have hno : ∀ a, Builtin.divisionGoesByPylong a b = false := fun a => PyProof.noPylong_of_log2 (by
    have h : b.natAbs < 2 ^ 60 := by omega
    have : b.natAbs.log2 < 60 := (Nat.log2_lt (by omega)).mpr h
    omega)
  have hb0 : 0 < b := by omega
  k_steps

  unfold Stop
  rename Fr _ _ _ _ => lF
  (with_unfolding_all refine' For_invVF lF ?k1 ?k2 ?_; (case k1 => exact rfl); (case k2 => exact rfl))
  k_steps
  rename_i Qa hA lQ hA2 Da hB F2 N2 lD
  have ht : ∀ p ∈ own ++ R1, p.1 < Da := AllLt.out lD.2.2
  have htQ : ∀ p ∈ own ++ R1, p.1 ≠ Qa := lt_off (AllLt.out lQ.2)
  have hlQ : l < Qa := lQ.1
  refine iter_revUnr (lo := listOf vs.toArray 0) (vs := vs) rfl F2 N2 (offI_of ?_) (by k_mem) rfl rfl ?_
  · intro q hq
    simp only [List.mem_cons] at hq
    rcases hq with rfl | rfl | hq
    · exact Nat.ne_of_lt lD.1
    · exact Nat.ne_of_lt lD.2.1
    · exact Nat.ne_of_lt (ht q hq)
  refine hide3 (α := List Value) (β := Str → Option Value) (γ := List (Addr × Obj)) (fun rv m₁ news₁ => ∃ (ds qs : List Int) (r : Int) (tr tn : Tok) (qv : List Value) (nq : Nat), IntsAre rv ds ∧ (∀ d ∈ ds, 0 ≤ d ∧ d < 2 ^ 60) ∧ 0 ≤ r ∧ r < b ∧ IntsAre qv qs ∧ qs.length + ds.length = 4 ∧ (∀ q ∈ qs, q.natAbs < 2 ^ 64) ∧
    ds.foldl (fun acc d => acc * 2 ^ 60 + d) (qs.foldl (fun acc d => acc * 2 ^ 60 + d) 0 * b + r) = 2 ^ 200 ∧
    m₁ (Str.ofString "b") = some (.int b u) ∧ m₁ (Str.ofString "n") = some (.int 60 tn) ∧ m₁ (Str.ofString "r") = some (.int r tr) ∧ m₁ (Str.ofString "q_digits") = some (.ref Qa) ∧
    news₁ = (Qa, listOf qv.toArray nq) :: (l, listOf vs.toArray 0) :: (own ++ R1)) ?_
  intro J1 hJi1 hJo1
  refine rev_induct (J := J1) ?_ ?_ _ _ _ ?_
  · (intro m₁ news₁ hJ9; replace hJ9 := hJo1 _ _ _ hJ9; (refine ex7 hJ9 ?_; clear hJ9; intro ds qs r tr tn qv nq hOB9; refine and13 hOB9 ?_; clear hOB9; intro hrv hds hr0 hr1 hqv hlen hqs hval mb' mn mr mq eOB12; subst eOB12); intro h₁ tk₁ F₁ N₁)
    cases hrv
    clear F2 N2
    k_steps
    have lv : qv.length = qs.length := hqv.length
    have lq : qs.length = 4 := by simpa using hlen
    have hQall : ∀ p ∈ (l, listOf vs.toArray 0) :: (own ++ R1), p.1 ≠ Qa := by
      intro q hq
      rcases List.mem_cons.mp hq with rfl | hq
      · exact Nat.ne_of_lt hlQ
      · exact htQ q hq
    refine kl_reverse F₁ N₁ (l := qv.reverse) (by simp) (Upd.head hQall) (by simp only [sizeLine]; omega) ?_
    intro h2 F2 N2
    k_steps
    have hrev : IntsAre qv.reverse qs.reverse := ints_reverse hqv
    have hQ37 : Qa ≠ 37 := by
      obtain ⟨_, ⟨ps, h37, _⟩⟩ := ext1.tabs
      exact fun e => htQ _ (List.mem_append_right _ h37) e.symm
    (k_dflt (refine' Does.use ((digits2int_ext w Qa nq 60 tn qv.reverse qs.reverse ((Qa, listOf qv.reverse.toArray nq) :: (l, listOf vs.toArray 0) :: own) R1 hrev (by simp) (by simp; omega) (by simp; omega) (fun i hi => hqs i (List.mem_reverse.mp hi)) (by decide) (by decide) hQ37 ext1.tabs (by
      obtain ⟨_, ⟨ps, h37, _⟩⟩ := ext1.tabs
      exact offC hQ37 (offC (fun e => hne1 _ h37 e.symm) fun q hq => (ho q hq).2)))) ?k1 ?k2 ?k3 ?k4 ?k5 ?k6 ?k7 ?k8 ?k9 ?k10 ?_; (case k1 => k_asm); (case k2 => k_asm); (case k3 => k_asm); (case k4 => k_asm); (case k5 => k_asm); (case k6 => k_asm); (case k7 => k_asm); (case k8 => first | assumption | exact rfl); (case k9 => ktr_room); (case k10 => ktr_units)); intro r9 n9 h9 tk9 F9 N9 P9)
    (refine ex2 P9 ?_; clear P9; intro t9 R2 hOB9; refine and3 hOB9 ?_; clear hOB9; intro eOB0 eOB1 ext2; subst eOB0; subst eOB1)
    k_steps
    rename (∀ p ∈ _ ++ R2, p.1 < _) => hlast
    have hv1 : dval qs.reverse 60 0 qv.reverse.length = 2 ^ 200 / b := by
      have e1 : qv.reverse.length = qs.reverse.length := by simp [lv]
      rw [e1, dval_foldr, List.foldr_reverse]
      have e2 : qs.foldl (fun acc d => acc * 2 ^ 60 + d) 0 = qs.foldl (fun acc d => d + 2 ^ 60 * acc) 0 := by
        congr 1; funext x y; rw [Int.mul_comm]; omega
      rw [← e2]
      simp only [List.foldl_nil] at hval
      rw [← hval, Int.add_comm, Int.add_mul_ediv_right _ _ (by omega), Int.ediv_eq_zero_of_lt hr0 hr1, Int.zero_add]
    have hv2 : r = 2 ^ 200 % b := by
      simp only [List.foldl_nil] at hval
      rw [← hval, Int.add_comm, Int.add_mul_emod_self_right, Int.emod_eq_of_lt hr0 hr1]
    rename News h₀ L _ _ => kN
    rw [hv1, hv2] at kN
    refine hQ _ _ _ _ (by assumption) (News.tl kN (own ++ R2) ?_) ⟨_, R2, _, _, rfl, rfl, ext1.trans (ext2.own t2), ?_⟩
    · intro q hq
      simp only [List.cons_append, List.mem_cons, List.mem_append] at hq ⊢
      rcases hq with hq | hq <;> simp [hq]
    · intro q hq
      exact hlast q (by simp only [List.cons_append, List.mem_cons, List.mem_append] at hq ⊢; rcases hq with hq | hq <;> simp [hq])
  · (intro v rv m₁ news₁ hJ9; replace hJ9 := hJo1 _ _ _ hJ9; (refine ex7 hJ9 ?_; clear hJ9; intro ds qs r tr tn qv nq hOB9; refine and13 hOB9 ?_; clear hOB9; intro hrv hds hr0 hr1 hqv hlen hqs hval mb' mn mr mq eOB12; subst eOB12); intro it h₁ tk₁ hit F₁ N₁)
    cases hrv with | cons d td hrv => ?_
    rename_i ds
    clear F2 N2
    have e2 : r * 2 ^ (60 : Int).toNat = r * 2 ^ 60 := rfl
    have z1 : ((Builtin.Int.intBits r : Nat) : Int) + 60 ≤ 2 ^ 27 := bitsSmall ⟨hr0, by omega⟩
    k_steps
    have hd := hds d (.head _)
    have hx : Builtin.Int.intBits (r * 2 ^ 60 + d) ≤ 300 := Nat.le_trans (bits_le_int (k := 121) (by omega)) (by decide)
    (k_dflt (refine' Does.use ((div2n1n_does w (r * 2 ^ 60 + d) b _ _ _ _ hx hb0 (hno _))) ?k1 ?k2 ?k3 ?k4 ?k5 ?k6 ?k7 ?k8 ?k9 ?k10 ?_; (case k1 => k_asm); (case k2 => k_asm); (case k3 => k_asm); (case k4 => k_asm); (case k5 => k_asm); (case k6 => k_asm); (case k7 => k_asm); (case k8 => first | assumption | exact rfl); (case k9 => ktr_room); (case k10 => ktr_units)); intro r9 n9 h9 tk9 F9 N9 P9)
    (refine ex3 P9 ?_; clear P9; intro x t' u' hOB9; refine and3 hOB9 ?_; clear hOB9; intro eOB0 eOB1 hlt; subst eOB0; subst eOB1)
    have x1 := ltN (hlt (Da, it) (.head _))
    have x2 := ltN (hlt (Qa, listOf qv.toArray nq) m1)
    have x3 := ltN (hlt (l, listOf vs.toArray 0) m2)
    have lD1 := lD.1
    have lv : qv.length = qs.length := hqv.length
    have lq : qs.length ≤ 4 := by omega
    k_steps
    rename Fr _ _ _ _ => F3
    rename News _ _ _ _ => N3
    rw [List.push_toArray] at N3
    have hq0 : ((r * 2 ^ 60 + d) / b).natAbs < 2 ^ 64 := by
      have h1 : 0 ≤ (r * 2 ^ 60 + d) / b := Int.ediv_nonneg (by omega) (by omega)
      have h2 : (r * 2 ^ 60 + d) / b < 2 ^ 62 := by
        apply Int.ediv_lt_of_lt_mul hb0
        omega
      omega
    refine UnrEnd.intro F3 N3 ((Qa, listOf (qv ++ [Value.int ((r * 2 ^ 60 + d) / b) t']).toArray (nq + 1)) :: (l, listOf vs.toArray 0) :: (own ++ R1)) ?_ ?_ ⟨m1, hJi1 _ _ _ ⟨ds, qs ++ [(r * 2 ^ 60 + d) / b], (r * 2 ^ 60 + d) % b, u', tn, _, _, hrv, fun z hz => hds z (.tail _ hz), (Int.emod_nonneg _ (by omega)), (Int.emod_lt_of_pos _ hb0), ?_, ?_, ?_, ?_, by assumption, by assumption, rfl, by assumption, rfl⟩⟩
    · exact subC m1 (subC m2 t3)
    · exact offC (Nat.ne_of_lt lD.1) (offC (Nat.ne_of_lt lD.2.1) fun q hq => Nat.ne_of_lt (ht q hq))
    · exact ints_append hqv (.cons _ _ .nil)
    · simp only [List.length_append, List.length_cons, List.length_nil] at hlen ⊢; omega
    · intro z hz
      rcases List.mem_append.mp hz with hz | hz
      · exact hqs z hz
      · rw [List.mem_singleton.mp hz]; exact hq0
    · rw [← hval]
      simp only [List.foldl_append, List.foldl_cons, List.foldl_nil]
      congr 1
      have := Int.ediv_mul_add_emod (r * 2 ^ 60 + d) b
      generalize (r * 2 ^ 60 + d) / b = q9 at *
      generalize (r * 2 ^ 60 + d) % b = m9 at *
      grind
  · refine hJi1 _ _ _ ⟨[1048576, 0, 0, 0], [], 0, _, _, [], 0, ?_, by decide, by decide, hb0, .nil, by decide, (fun _ h => nomatch h), by simp, rfl, rfl, rfl, rfl, rfl⟩
    have := ints_reverse hi
    rw [show (digs (2 ^ 200) 60 4).reverse = [1048576, 0, 0, 0] from by decide +kernel] at this
    exact this
end
end Mine
end
section
open PySem PySem.W PyProof.Rows PySem.Calls
set_option maxRecDepth 100000
set_option maxHeartbeats 8000000
namespace Mine
theorem int_divmod_does (w : World) (b : Int) (t u : Tok) (own R : List (Addr × Obj)) (hb1 : 2 ^ 59 ≤ b) (hb2 : b < 2 ^ 60) (hT : Tabs R) (ho : ∀ q ∈ own, q.1 ≠ 30 ∧ q.1 ≠ 37) :
    Does w 56 [.int (2 ^ 200) t, .int b u] (own ++ R) 31 310 (fun r news' => ∃ x R' t' u', r = .ref x ∧ news' = (x, tup2 (.int (2 ^ 200 / b) t') (.int (2 ^ 200 % b) u')) :: (own ++ R') ∧ Ext own R R' ∧ (∀ p ∈ own ++ R', p.1 < x)) := by
  have c1 : (b == 0) = false := by simp only [beq_eq_false_iff_ne, ne_eq]; omega
  unfold Does; w_top off; k_fill
  intro p loose mean mg mb dp un gd cn cs aa ccd cl outer A₀ base h₀ L m s Q E B F X N T C1 C2 hk dhp hun hQ
  (refine wpAny_call ?_; (k_dflt (refine' code_def (binds := ([(Str.ofString "a", .int (2 ^ 200) t), (Str.ofString "b", .int b u)])) ?k1 ?k2 ?k3 ?k4 ?k5 ?kA ?kF ?kK ?k6 ?k7 ?k8 ?k9 ?kB ?_ ?c2 ?c3 ?c4 ?c5; (case kA => exact rfl); (case kF => exact rfl); (case kK => first | assumption | exact rfl); (case k1 => k_asm); (case k2 => k_asm); (case k3 => k_asm); (case k4 => k_asm); (case k5 => k_asm); (case k6 => k_is); (case k7 => k_is); (case k8 => ktr_room); (case k9 => exact BindsTo.of_eq rfl); (case c5 => decide); (case kB => exact locs rfl); (case c2 => exact rfl); (case c3 => exact rfl); (case c4 => exact rfl); k_whole; intro g' L' h' FG' F' N' B' X' T'; (have C1' := CodeHd.up (by assumption : CodeHd _ 34 30) FG'); (have C2' := CodeHd.up (by assumption : CodeHd _ 41 37) FG'); (try dsimp only [List.reverse_cons, List.reverse_nil, List.nil_append, List.cons_append, List.length_cons, List.length_nil] at F'); (try dsimp only); (try k_fold))); refine letAQE ?_; intro A9q E9q Q9q)
  have c2 : ¬ decide (b < 0) = true := by simp only [decide_eq_true_eq]; omega
  have c3 : ¬ decide ((2 ^ 200 : Int) < 0) = true := by decide
  k_steps
  (k_dflt (refine' Does.use ((divmod_pos_does w b _ _ own R hb1 hb2 hT ho)) ?k1 ?k2 ?k3 ?k4 ?k5 ?k6 ?k7 ?k8 ?k9 ?k10 ?_; (case k1 => k_asm); (case k2 => k_asm); (case k3 => k_asm); (case k4 => k_asm); (case k5 => k_asm); (case k6 => k_asm); (case k7 => k_asm); (case k8 => first | assumption | exact rfl); (case k9 => ktr_room); (case k10 => ktr_units)); intro r9 n9 h9 tk9 F9 N9 P9)
  obtain ⟨x, R', t', u', rfl, rfl, e, hl⟩ := P9
  k_steps
  exact hQ _ _ _ _ (by assumption) (by assumption) ⟨x, R', t', u', rfl, rfl, e, hl⟩
end Mine
end
section
open PySem PySem.W PyProof.Rows PySem.Calls
set_option maxRecDepth 100000
set_option maxHeartbeats 8000000
namespace Mine
/-- the texts over a and b of at most three letters -/
noncomputable def W15 : List Str := ["", "a", "b", "aa", "ab", "ba", "bb", "aaa", "aab", "aba", "abb", "baa", "bab", "bba", "bbb"].map Str.ofString
noncomputable abbrev dots : Str := Str.ofString "..."
/-- y begins with x -/
noncomputable def sw (x y : Str) : Bool := x.cps.toList.isPrefixOf y.cps.toList
theorem all_W15 {P : Str → Bool} (h : W15.all P = true) : ∀ x ∈ W15, P x = true := fun x hx => List.all_eq_true.mp h x hx
theorem all_W15₂ {P : Str → Str → Bool} (h : (W15.all fun x => W15.all fun y => P x y) = true) : ∀ x ∈ W15, ∀ y ∈ W15, P x y = true := fun x hx y hy => all_W15 (all_W15 (P := fun x => W15.all fun y => P x y) h x hx) y hy
theorem W_occ (x : Str) (hx : x ∈ W15) : (Builtin.Str.occurrences (x ++ dots) dots 0 (x ++ dots).length 1).isEmpty = false := by
  have := all_W15 (P := fun x => !(Builtin.Str.occurrences (x ++ dots) dots 0 (x ++ dots).length 1).isEmpty) (by decide +kernel) x hx
  simpa using this
theorem W_split (x : Str) (hx : x ∈ W15) : Txt.split (x ++ dots) dots = [x, Str.ofString ""] := by
  have := all_W15 (P := fun x => Txt.split (x ++ dots) dots == [x, Str.ofString ""]) (by decide +kernel) x hx
  simpa using this
theorem W_len (x : Str) (hx : x ∈ W15) : x.length ≤ 3 := by
  have := all_W15 (P := fun x => decide (x.length ≤ 3)) (by decide +kernel) x hx
  simpa using this
noncomputable def findv (x y : Str) (i j : Int) : Int := match Builtin.Str.occurrences x y (fromIndex x.length i) (min (fromIndex x.length j) x.length) 1 with | k :: _ => (k : Int) | [] => -1
theorem gives_find4 (x y : Str) (i j : Int) (t u v z : Tok) : Gives (Builtin.«str.find» ⟨[.str x t, .str y u, .int i v, .int j z], []⟩) (.int (findv x y i j)) := by
  unfold findv
  show Gives (match Builtin.Str.occurrences x y (fromIndex x.length i) (min (fromIndex x.length j) x.length) 1 with | k :: _ => retInt k | [] => (do rule "str.find.not-found"; retInt (-1))) _
  cases Builtin.Str.occurrences x y (fromIndex x.length i) (min (fromIndex x.length j) x.length) 1 with
  | nil => exact .rule (.of_eq rfl)
  | cons k _ => exact .of_eq rfl
theorem find4_eq {prog : Program} {w : World} {A : Around} {E : Value → Shared → Prop} {s : Shared} {x y : Str} {i j k : Int} {t u v z : Tok} {Q : Value → Shared → Prop} (e : findv x y i j = k := by assumption) (h : Q (.int k s.toks) { s with toks := s.toks + 1 }) :
    wpAny (model prog w) A (call (.builtin "str.find") [.str x t, .str y u, .int i v, .int j z]) Q E s :=
  call_gives F.slot_str_find (typeIs_str _ _ _) F.entry_str_find (F.args_str_find_4 _ _ _ _) (gives_find4 x y i j t u v z) (by rw [e]; exact h)
theorem W_find (x y : Str) (hx : x ∈ W15) (hy : y ∈ W15) (h : x.length ≤ y.length) : findv y (Str.ofString "") (x.length : Int) (y.length : Int) = (x.length : Int) := by
  have := all_W15₂ (P := fun x y => !(decide (x.length ≤ y.length)) || decide (findv y (Str.ofString "") (x.length : Int) (y.length : Int) = (x.length : Int))) (by decide +kernel) x hx y hy
  simpa [h] using this
theorem W_find0 (y : Str) (hy : y ∈ W15) : findv y (Str.ofString "") 0 (y.length : Int) = 0 := by
  have := all_W15 (P := fun y => decide (findv y (Str.ofString "") 0 (y.length : Int) = 0)) (by decide +kernel) y hy
  simpa using this
theorem W_find0' (y : Str) (hy : y ∈ W15) : findv y (Str.ofString "") (0 + (Str.ofString "").length) (y.length : Int) = 0 := W_find0 y hy
theorem W_sw (x y : Str) (hx : x ∈ W15) (hy : y ∈ W15) : Txt.startswith y x = sw x y := by
  have := all_W15₂ (P := fun x y => Txt.startswith y x == sw x y) (by decide +kernel) x hx y hy
  simpa using this
theorem W_sw_len (x y : Str) (hx : x ∈ W15) (hy : y ∈ W15) (h : sw x y = true) : x.length ≤ y.length := by
  have := all_W15₂ (P := fun x y => !(sw x y) || decide (x.length ≤ y.length)) (by decide +kernel) x hx y hy
  simpa [h] using this
theorem W_nil (x : Str) (hx : x ∈ W15) (h : x.length = 0) : x = Str.ofString "" := by
  have := all_W15 (P := fun x => !(x.length == 0) || x == Str.ofString "") (by decide +kernel) x hx
  simpa [h] using this
theorem W_sw_nil (y : Str) : sw (Str.ofString "") y = true := rfl
theorem split_W {prog : Program} {w : World} {A : Around} {E : Value → Shared → Prop} {s : Shared} {x : Str} {t u : Tok} {Q : Value → Shared → Prop} {h₀ : Heap} {L : Addr} {m : Str → Option Value} {news : List (Addr × Obj)} (F : Fr h₀ L s.heap m := by k_asm) (N : News h₀ L s.heap news := by k_asm) (hx : x ∈ W15 := by assumption)
    (h : ∀ D t1 t2 h' tk, Fr h₀ L h' m → News h₀ L h' ((D, listOf #[.str x t1, .str (Str.ofString "") t2] 0) :: news) → (∀ p ∈ news, p.1 < D) → Q (.ref D) { s with heap := h', toks := tk }) :
    wpAny (model prog w) A (call (.builtin "str.split") [.str (x ++ dots) t, .str dots u]) Q E s := by
  have hlx := W_len x hx
  refine KSpl.split1 F N (by decide +kernel) ?_ (by
    have : dots.length = 3 := by decide +kernel
    rw [Str.length_append, this, sizeLine_eq]; omega)
  intro D l h2 tk2 hl hls F2 N2 hlt
  rw [W_split x hx] at hl
  obtain ⟨t1, l1, rfl, hl1⟩ := KSpl.cons_of hl
  obtain ⟨t2, l2, rfl, hl2⟩ := KSpl.cons_of hl1
  cases KSpl.nil_of hl2
  exact h D t1 t2 h2 tk2 F2 N2 hlt
end Mine
end
section
open PySem PySem.W PyProof.Rows PySem.Calls
set_option maxRecDepth 100000
set_option maxHeartbeats 8000000
namespace Mine
local macro_rules | `(tactic| omega) => `(tactic| lia)
section

local macro_rules | `(tactic| walk_at "call builtin:str.split") => `(tactic| (k_here; k_dflt (refine split_W (h := ?_)); intro _ _ _ _ _ _ _ l1; (try k_lt l1); (try k_sweep)))
local macro_rules | `(tactic| walk_at "call builtin:str.find") => `(tactic| (k_here; with_reducible refine find4_eq (h := ?_)))
theorem ellipsis_does (w : World) (x y : Str) (t u : Tok) (Z : List (Addr × Obj)) (hx : x ∈ W15) (hy : y ∈ W15) :
    Does w 63 [.str (x ++ Str.ofString "...") t, .str y u] Z 5 100 (fun r news' => r = .bool (sw x y) ∧ news' = Z) := by
  unfold Does; w_top off; k_fill
  intro p loose mean mg mb dp un gd cn cs aa ccd cl outer A₀ base h₀ L m s Q E B F X N T C1 C2 hk dhp hun hQ
  (refine wpAny_call ?_; (k_dflt (refine' code_def (binds := ([(Str.ofString "want", .str (x ++ Str.ofString "...") t), (Str.ofString "got", .str y u)])) ?k1 ?k2 ?k3 ?k4 ?k5 ?kA ?kF ?kK ?k6 ?k7 ?k8 ?k9 ?kB ?_ ?c2 ?c3 ?c4 ?c5; (case kA => exact rfl); (case kF => exact rfl); (case kK => first | assumption | exact rfl); (case k1 => k_asm); (case k2 => k_asm); (case k3 => k_asm); (case k4 => k_asm); (case k5 => k_asm); (case k6 => k_is); (case k7 => k_is); (case k8 => ktr_room); (case k9 => exact BindsTo.of_eq rfl); (case c5 => decide); (case kB => exact locs rfl); (case c2 => exact rfl); (case c3 => exact rfl); (case c4 => exact rfl); k_whole; intro g' L' h' FG' F' N' B' X' T'; (have C1' := CodeHd.up (by assumption : CodeHd _ 34 30) FG'); (have C2' := CodeHd.up (by assumption : CodeHd _ 41 37) FG'); (try dsimp only [List.reverse_cons, List.reverse_nil, List.nil_append, List.cons_append, List.length_cons, List.length_nil] at F'); (try dsimp only); (try k_fold))); refine letAQE ?_; intro A9q E9q Q9q)
  have ho := W_occ x hx
  have hlx := W_len x hx
  have hly := W_len y hy
  have hfx := W_find x y hx hy
  have hf0 := W_find0 y hy
  k_steps
  · exfalso
    have h1 : sw x y = true := by rw [← W_sw x y hx hy]; assumption
    have := W_sw_len x y hx hy h1
    omega
  · have h1 : sw x y = true := by rw [← W_sw x y hx hy]; assumption
    have hfx' := hfx (W_sw_len x y hx hy h1)
    rename Fr _ _ _ _ => lF
    (with_unfolding_all refine' For_invVF lF ?k1 ?k2 ?_; (case k1 => exact rfl); (case k2 => exact rfl))
    k_steps
    rename News _ _ _ _ => lN
    refine iter_listUnr (by rfl) lF lN (by k_mem) rfl rfl ?_
    intro I hI
    refine ListRest.succ ?_
    intro it h4 tk4 hit F4 N4
    k_steps
    rename Fr _ _ _ _ => F5
    rename News _ _ _ _ => N5
    refine UnrEnd.intro F5 N5 _ (fun _ h => h) (lt_off hI) ⟨by k_mem, ?_⟩
    refine ListRest.zero ?_
    intro h6 tk6 F6 N6
    k_steps
    rename News h₀ L _ _ => kN
    exact hQ _ _ _ _ (by assumption) (News.sub kN fun q hq => .tail _ (.tail _ hq)) ⟨by rw [h1], rfl⟩
  · have h1 : sw x y = false := by rw [← W_sw x y hx hy]; assumption
    rename News h₀ L _ _ => kN
    exact hQ _ _ _ _ (by assumption) (News.sub kN fun q hq => .tail _ (.tail _ hq)) ⟨by rw [h1], rfl⟩
  · obtain rfl := W_nil x hx (by omega)
    have hf1 : findv y (Str.ofString "") (0 + ((0 : Nat) : Int)) (y.length : Int) = 0 := hf0
    rename Fr _ _ _ _ => lF
    (with_unfolding_all refine' For_invVF lF ?k1 ?k2 ?_; (case k1 => exact rfl); (case k2 => exact rfl))
    k_steps
    rename News _ _ _ _ => lN
    refine iter_listUnr (by rfl) lF lN (by k_mem) rfl rfl ?_
    intro I hI
    refine ListRest.succ ?_
    intro it h4 tk4 hit F4 N4
    k_steps
    rename Fr _ _ _ _ => F5
    rename News _ _ _ _ => N5
    refine UnrEnd.intro F5 N5 _ (fun _ h => h) (lt_off hI) ⟨by k_mem, ?_⟩
    refine ListRest.succ ?_
    intro it h4 tk4 hit F4 N4
    k_steps
    rename Fr _ _ _ _ => F5
    rename News _ _ _ _ => N5
    refine UnrEnd.intro F5 N5 _ (fun _ h => h) (lt_off hI) ⟨by k_mem, ?_⟩
    refine ListRest.zero ?_
    intro h6 tk6 F6 N6
    k_steps
    rename News h₀ L _ _ => kN
    exact hQ _ _ _ _ (by assumption) (News.sub kN fun q hq => .tail _ (.tail _ hq)) ⟨by rw [W_sw_nil], rfl⟩
end
end Mine
end
section
open PySem PySem.W PyProof.Rows PySem.Calls
set_option maxRecDepth 100000
set_option maxHeartbeats 8000000
namespace Mine
section
variable {α : Type} [Inhabited α] (lt : α → α → Bool)
noncomputable def sdGo (start : Nat) (new : α) (xs : List α) (pos : Nat) : List α :=
  if start < pos then
    if lt new (xs.getD ((pos - 1) / 2) default) then sdGo start new (xs.set pos (xs.getD ((pos - 1) / 2) default)) ((pos - 1) / 2) else xs.set pos new
  else xs.set pos new
termination_by pos
decreasing_by omega
noncomputable def siftdown (xs : List α) (start pos : Nat) : List α := sdGo lt start (xs.getD pos default) xs pos
noncomputable def child (xs : List α) (c : Nat) : Nat := if decide (c + 1 < xs.length) && !lt (xs.getD c default) (xs.getD (c + 1) default) then c + 1 else c
noncomputable def suGo (xs : List α) (pos : Nat) : List α × Nat :=
  if 2 * pos + 1 < xs.length then suGo (xs.set pos (xs.getD (child lt xs (2 * pos + 1)) default)) (child lt xs (2 * pos + 1)) else (xs, pos)
termination_by xs.length - pos
decreasing_by
  simp only [List.length_set, child]
  split <;> omega
noncomputable def siftup (xs : List α) (pos : Nat) : List α :=
  let r := suGo lt xs pos
  siftdown lt (r.1.set r.2 (xs.getD pos default)) pos r.2
end
section
variable {prog : Program} {w : World} {A : Around} {E : Value → Shared → Prop} {s : Shared} {h₀ : Heap} {L : Addr} {m : Str → Option Value} {news rest : List (Addr × Obj)}
theorem add_eq {a b k : Int} {t u : Tok} {Q : Value → Shared → Prop} (e : a + b = k := by assumption) (h : Q (.int k s.toks) { s with toks := s.toks + 1 }) :
    wpAny (model prog w) A (binaryOp .Add (.int a t) (.int b u)) Q E s := PyProof.Rows.add_int (by rw [e]; exact h)
theorem sub_eq {a b k : Int} {t u : Tok} {Q : Value → Shared → Prop} (e : a - b = k := by assumption) (h : Q (.int k s.toks) { s with toks := s.toks + 1 }) :
    wpAny (model prog w) A (binaryOp .Sub (.int a t) (.int b u)) Q E s := PyProof.Rows.sub_int (by rw [e]; exact h)
theorem len_eq {l : Addr} {vs : List Value} {n k : Nat} {Q : Value → Shared → Prop} (N : News h₀ L s.heap news := by k_asm) (hm : (l, listOf vs.toArray n) ∈ news := by k_mem) (e : vs.length = k := by assumption) (hs : k ≤ 1000000 := by (first | lia | omega))
    (h : ∀ t tk, Q (.int (k : Nat) t) { s with toks := tk }) : wpAny (model prog w) A (call (.builtin "len") [.ref l]) Q E s := len_led N hm (by omega) (by rw [e]; exact h)
theorem truthy_eq {l : Addr} {vs : List Value} {n k : Nat} {Q : Bool → Shared → Prop} (N : News h₀ L s.heap news := by k_asm) (hm : (l, listOf vs.toArray n) ∈ news := by k_mem) (e : vs.length = k := by assumption) (hs : k ≤ 1000000 := by (first | lia | omega))
    (h : ∀ tk, Q (decide (0 < k)) { s with toks := tk }) : wpAny (model prog w) A (truthy (.ref l)) Q E s := truthy_led N hm (by omega) (by rw [e]; exact h)
theorem lt_led {a b : Addr} {p q : Int × Str} {t u t' u' : Tok} {n n' : Nat} {Q : Value → Shared → Prop} (N : News h₀ L s.heap news := by k_asm) (hu : A.units + 1 < cLine := by (first | ktr_units | ((dsimp +zetaDelta only); ktr_units))) (ha : (a, pairObj p.1 t p.2 u n) ∈ news := by k_mem) (hb : (b, pairObj q.1 t' q.2 u' n') ∈ news := by k_mem)
    (h : Q (.bool (pLt p q)) s) : wpAny (model prog w) A (compareOp .Lt (.ref a) (.ref b)) Q E s := lt_pair hu (N _ ha).1 (N _ hb).1 h
theorem sub_val_led {value slice : PySem.Expr} {l : Addr} {vs : List Value} {n lo : Nat} {u : Tok} {v : Value} {Q : Value → Shared → Prop}
    (N : News h₀ L s.heap news := by k_asm) (hm : (l, listOf vs.toArray n) ∈ news := by k_mem) (hx : vs[lo]? = some v := by assumption) (hhi : lo < 1000000 := by (first | lia | omega)) (h : Q v s)
    (hs : subscripted slice false (.ref l) (.int (lo : Int) u) = operate [.ref l, .int (lo : Int) u] (getItem (.ref l) (.int (lo : Int) u)) := by with_unfolding_all rfl) :
    wpAny (model prog w) A (subscriptTail value slice (.ref l) (.int (lo : Int) u)) Q E s := item_led N hm (by omega) (by omega) (by simpa using hx) h hs
theorem set_val_led {l : Addr} {vs : List Value} {n lo : Nat} {u : Tok} {v : Value} {Q : Unit → Shared → Prop}
    (F : Fr h₀ L s.heap m := by k_asm) (N : News h₀ L s.heap ((l, listOf vs.toArray n) :: rest) := by k_asm) (hoff : ∀ p ∈ rest, p.1 ≠ l := by assumption) (hhi : lo < 1000000 := by (first | lia | omega)) (hk : lo < vs.length := by (first | lia | omega))
    (h : ∀ h', Fr h₀ L h' m → News h₀ L h' ((l, listOf (vs.set lo v).toArray n) :: rest) → Q () { s with heap := h' }) :
    wpAny (model prog w) A (setItem (.ref l) (.int (lo : Int) u) v) Q E s :=
  setItem_led F N hoff (by omega) (by omega) (by simpa using hk) (by simpa using h)
end
theorem PairAt.mono {news news' : List (Addr × Obj)} {v : Value} {p : Int × Str} (h : PairAt news v p) (hs : ∀ q ∈ news, q ∈ news') : PairAt news' v p := by
  obtain ⟨a, t, u, n, e, hm⟩ := h
  exact ⟨a, t, u, n, e, hs _ hm⟩
theorem Rel2.getD {news : List (Addr × Obj)} {vs : List Value} {xs : List (Int × Str)} (h : Rel2 (PairAt news) vs xs) {k : Nat} (hk : k < xs.length) :
    ∃ a t u n, vs[k]? = some (.ref a) ∧ (a, pairObj (xs.getD k default).1 t (xs.getD k default).2 u n) ∈ news := by
  obtain ⟨v, hv, a, t, u, n, rfl, hm⟩ := h.get (List.getElem?_eq_getElem hk)
  have e : xs.getD k default = xs[k] := by rw [List.getD_eq_getElem?_getD, List.getElem?_eq_getElem hk]; rfl
  exact ⟨a, t, u, n, hv, by rw [e]; exact hm⟩
theorem Rel2.setAt {news : List (Addr × Obj)} {vs : List Value} {xs : List (Int × Str)} (h : Rel2 (PairAt news) vs xs) (k : Nat) {a : Addr} {p : Int × Str} {t u : Tok} {n : Nat} (hm : (a, pairObj p.1 t p.2 u n) ∈ news) : Rel2 (PairAt news) (vs.set k (.ref a)) (xs.set k p) :=
  Rel2.set h ⟨a, t, u, n, rfl, hm⟩ k
end Mine
end
section
open PySem PySem.W PyProof.Rows PySem.Calls Mine
local macro_rules | `(tactic| walk_at "subscriptTail") => `(tactic| (k_here; k_dflt (refine sub_val_led (h := ?_))))
local macro_rules | `(tactic| walk_at "setItem ref int") => `(tactic| (k_here; k_dflt (refine set_val_led (h := ?_)); intros; (try k_sweep)))
local macro_rules | `(tactic| walk_at "compareOp Lt ref ref") => `(tactic| (k_here; k_dflt (refine lt_led (h := ?_))))
section
open PySem PySem.W PyProof.Rows PySem.Calls
set_option maxRecDepth 100000
set_option maxHeartbeats 8000000
namespace Mine
local macro_rules | `(tactic| omega) => `(tactic| lia)
section


theorem siftdown_does (w : World) (l n start pos : Nat) (ts tp : Tok) (vs : List Value) (xs : List (Int × Str)) (rest : List (Addr × Obj)) (hr : Rel2 (PairAt rest) vs xs) (hp : pos < xs.length) (hl : xs.length ≤ 1000) (hoff : ∀ p ∈ rest, p.1 ≠ l) :
    Does w 91 [.ref l, .int start ts, .int pos tp] ((l, listOf vs.toArray n) :: rest) 2 40 (fun r news' => ∃ vs', news' = (l, listOf vs'.toArray n) :: rest ∧ Rel2 (PairAt rest) vs' (siftdown pLt xs start pos)) := by
  unfold Does; w_top off; k_fill
  intro p loose mean mg mb dp un gd cn cs aa ccd cl outer A₀ base h₀ L m s Q E B F X N T C1 C2 hk dhp hun hQ
  (refine wpAny_call ?_; (k_dflt (refine' code_def (binds := ([(Str.ofString "heap", .ref l), (Str.ofString "startpos", .int start ts), (Str.ofString "pos", .int pos tp)])) ?k1 ?k2 ?k3 ?k4 ?k5 ?kA ?kF ?kK ?k6 ?k7 ?k8 ?k9 ?kB ?_ ?c2 ?c3 ?c4 ?c5; (case kA => exact rfl); (case kF => exact rfl); (case kK => first | assumption | exact rfl); (case k1 => k_asm); (case k2 => k_asm); (case k3 => k_asm); (case k4 => k_asm); (case k5 => k_asm); (case k6 => k_is); (case k7 => k_is); (case k8 => ktr_room); (case k9 => exact BindsTo.of_eq rfl); (case c5 => decide); (case kB => exact locs rfl); (case c2 => exact rfl); (case c3 => exact rfl); (case c4 => exact rfl); k_whole; intro g' L' h' FG' F' N' B' X' T'; (have C1' := CodeHd.up (by assumption : CodeHd _ 34 30) FG'); (have C2' := CodeHd.up (by assumption : CodeHd _ 41 37) FG'); (try dsimp only [List.reverse_cons, List.reverse_nil, List.nil_append, List.cons_append, List.length_cons, List.length_nil] at F'); (try dsimp only); (try k_fold))); refine letAQE ?_; intro A9q E9q Q9q)
  (refine ex4 (hr.getD hp) ?_; intro a0 t0 u0 n0 hOB9; refine and2 hOB9 ?_; clear hOB9; intro hv0 hm0)
  k_steps
  rename News _ _ _ _ => N1
  rename Fr _ _ _ _ => F1
  unfold Stop
  refine hide2 (α := Nat) (β := Shared) (fun k s' => ∃ h₁ tk₁ m₁ vs₁ xs₁ tp₁, s' = { s with heap := h₁, toks := tk₁ } ∧ Fr g' L' h₁ m₁ ∧ News g' L' h₁ ((l, listOf vs₁.toArray n) :: rest) ∧ Rel2 (PairAt rest) vs₁ xs₁ ∧ k < xs₁.length ∧ xs₁.length = xs.length ∧
    m₁ (Str.ofString "heap") = some (.ref l) ∧ m₁ (Str.ofString "startpos") = some (.int start ts) ∧ m₁ (Str.ofString "newitem") = some (.ref a0) ∧ m₁ (Str.ofString "pos") = some (.int (k : Nat) tp₁) ∧ sdGo pLt start (xs.getD pos default) xs₁ k = siftdown pLt xs start pos) ?_
  intro J1 hJi1 hJo1
  refine while_induct (J := J1) (by passes_own) ?_ pos _ ?_
  · (intro k s' hJ9; replace hJ9 := hJo1 _ _ hJ9; (refine ex6 hJ9 ?_; clear hJ9; intro h₁ tk₁ m₁ vs₁ xs₁ tp₁ hOB9; refine and11 hOB9 ?_; clear hOB9; intro eOB0 F2 N2 hr1 hk1 hlen mh ms mn mp hgo; subst eOB0))
    clear F1 N1
    have hlv : vs₁.length = xs₁.length := hr1.1
    k_steps
    by_cases hk2 : start < k
    · refine WhlIf.yes (by simp only [decide_eq_true_eq]; omega) ?_
      obtain ⟨par, hpar⟩ : ∃ par : Nat, par = (k - 1) / 2 := ⟨_, rfl⟩
      have e1 : ((k : Int) - 1).fdiv (2 ^ Int.toNat 1) = (par : Int) := by
        have := fdiv_nat (k - 1) 1
        rw [hpar]
        have e : ((k - 1 : Nat) : Int) = (k : Int) - 1 := by omega
        rw [← e]; simpa using this
      (refine ex4 (hr1.getD (k := par) (by omega)) ?_; intro a1 t1 u1 n1 hOB9; refine and2 hOB9 ?_; clear hOB9; intro hv1 hm1)
      k_steps
      · rename (pLt _ _ = true) => hlt
        dsimp only [WPost]
        rename Fr _ _ _ _ => F9
        rename News _ _ _ _ => N9
        refine ⟨par, by omega, hJi1 _ _ ⟨_, _, _, _, xs₁.set k (xs₁.getD par default), _, rfl, F9, N9, hr1.setAt k hm1, by simp only [List.length_set]; omega, by simpa using hlen, mh, ms, mn, rfl, ?_⟩⟩
        rw [← hgo]
        conv => rhs; rw [sdGo]
        rw [if_pos hk2, ← hpar, if_pos hlt]
      · rename (pLt _ _ = false) => hlt
        dsimp only [WPost]
        k_steps
        refine hQ _ _ _ _ (by assumption) (by assumption) ⟨_, rfl, ?_⟩
        rw [← hgo, sdGo, if_pos hk2, ← hpar, if_neg (by rw [hlt]; decide)]
        exact hr1.setAt k hm0
    · refine WhlIf.no (by simp only [decide_eq_false_iff_not]; omega) ?_
      k_steps
      refine hQ _ _ _ _ (by assumption) (by assumption) ⟨_, rfl, ?_⟩
      rw [← hgo, sdGo, if_neg hk2]
      exact hr1.setAt k hm0
  · exact hJi1 _ _ ⟨_, _, _, vs, xs, _, rfl, F1, N1, hr, hp, rfl, rfl, rfl, rfl, rfl, rfl⟩
end
end Mine
end
section
open PySem PySem.W PyProof.Rows PySem.Calls
set_option maxRecDepth 100000
set_option maxHeartbeats 8000000
namespace Mine
local macro_rules | `(tactic| omega) => `(tactic| lia)
section


local macro_rules | `(tactic| walk_at "call builtin:len") => `(tactic| (k_here; k_dflt (refine len_led (h := ?_)); intros))
local macro_rules | `(tactic| walk_at "binaryOp Add int int") => `(tactic| (k_here; with_reducible refine add_eq (h := ?_)))
theorem suGo_len {α : Type} [Inhabited α] (lt : α → α → Bool) (xs : List α) (pos : Nat) : (suGo lt xs pos).1.length = xs.length := by
  induction h : xs.length - pos using Nat.strongRecOn generalizing xs pos with | _ d ih => ?_
  rw [suGo]
  split
  · rw [ih _ ?_ _ _ rfl, List.length_set]
    simp only [List.length_set, child]
    split <;> omega
  · rfl
theorem child_lt {α : Type} [Inhabited α] (lt : α → α → Bool) (xs : List α) (c : Nat) (h : c < xs.length) : child lt xs c < xs.length := by
  unfold child
  split
  · rename_i h2; simp at h2; omega
  · exact h
theorem suGo_step {α : Type} [Inhabited α] (lt : α → α → Bool) {xs : List α} {p c : Nat} (h : 2 * p + 1 < xs.length) (hc : child lt xs (2 * p + 1) = c) : suGo lt (xs.set p (xs.getD c default)) c = suGo lt xs p := by
  conv => rhs; rw [suGo]
  rw [if_pos h, hc]
theorem child_one {α : Type} [Inhabited α] (lt : α → α → Bool) {xs : List α} {c : Nat} (h : ¬ c + 1 < xs.length) : child lt xs c = c := by
  unfold child
  rw [if_neg]
  simp [h]
theorem siftup_does (w : World) (l n pos : Nat) (tp : Tok) (vs : List Value) (xs : List (Int × Str)) (rest : List (Addr × Obj)) (hr : Rel2 (PairAt rest) vs xs) (hp : pos < xs.length) (hl : xs.length ≤ 1000) (hoff : ∀ p ∈ rest, p.1 ≠ l) :
    Does w 98 [.ref l, .int pos tp] ((l, listOf vs.toArray n) :: rest) 4 80 (fun r news' => ∃ vs', news' = (l, listOf vs'.toArray n) :: rest ∧ Rel2 (PairAt rest) vs' (siftup pLt xs pos)) := by
  have b2 : ∀ k : Int, IntMulOk 2 k := fun k => IntMulOk.of_left (by decide)
  unfold Does; w_top off; k_fill
  intro p loose mean mg mb dp un gd cn cs aa ccd cl outer A₀ base h₀ L m s Q E B F X N T C1 C2 hk dhp hun hQ
  (refine wpAny_call ?_; (k_dflt (refine' code_def (binds := ([(Str.ofString "heap", .ref l), (Str.ofString "pos", .int pos tp)])) ?k1 ?k2 ?k3 ?k4 ?k5 ?kA ?kF ?kK ?k6 ?k7 ?k8 ?k9 ?kB ?_ ?c2 ?c3 ?c4 ?c5; (case kA => exact rfl); (case kF => exact rfl); (case kK => first | assumption | exact rfl); (case k1 => k_asm); (case k2 => k_asm); (case k3 => k_asm); (case k4 => k_asm); (case k5 => k_asm); (case k6 => k_is); (case k7 => k_is); (case k8 => ktr_room); (case k9 => exact BindsTo.of_eq rfl); (case c5 => decide); (case kB => exact locs rfl); (case c2 => exact rfl); (case c3 => exact rfl); (case c4 => exact rfl); k_whole; intro g' L' h' FG' F' N' B' X' T'; (have C1' := CodeHd.up (by assumption : CodeHd _ 34 30) FG'); (have C2' := CodeHd.up (by assumption : CodeHd _ 41 37) FG'); (try dsimp only [List.reverse_cons, List.reverse_nil, List.nil_append, List.cons_append, List.length_cons, List.length_nil] at F'); (try dsimp only); (try k_fold))); refine letAQE ?_; intro A9q E9q Q9q)
  (refine ex4 (hr.getD hp) ?_; intro a0 t0 u0 n0 hOB9; refine and2 hOB9 ?_; clear hOB9; intro hv0 hm0)
  have hlv : vs.length = xs.length := hr.1
  have c1 : (2 : Int) * (pos : Int) = ((2 * pos : Nat) : Int) := by simp
  have c2 : ((2 * pos : Nat) : Int) + 1 = ((2 * pos + 1 : Nat) : Int) := by simp
  have c3 := b2 (pos : Int)
  k_steps
  rename News _ _ _ _ => N1
  rename Fr _ _ _ _ => F1
  unfold Stop
  refine hide2 (α := Nat) (β := Shared) (fun k s' => ∃ h₁ tk₁ m₁ vs₁ xs₁ tp₁ tc₁ ts₁ te₁ pos₁, s' = { s with heap := h₁, toks := tk₁ } ∧ Fr g' L' h₁ m₁ ∧ News g' L' h₁ ((l, listOf vs₁.toArray n) :: rest) ∧ Rel2 (PairAt rest) vs₁ xs₁ ∧ k = xs₁.length - pos₁ ∧ pos₁ < xs₁.length ∧ xs₁.length = xs.length ∧
    m₁ (Str.ofString "heap") = some (.ref l) ∧ m₁ (Str.ofString "startpos") = some (.int pos ts₁) ∧ m₁ (Str.ofString "newitem") = some (.ref a0) ∧ m₁ (Str.ofString "pos") = some (.int (pos₁ : Nat) tp₁) ∧ m₁ (Str.ofString "childpos") = some (.int ((2 * pos₁ + 1 : Nat) : Int) tc₁) ∧ m₁ (Str.ofString "endpos") = some (.int (xs.length : Nat) te₁) ∧ suGo pLt xs₁ pos₁ = suGo pLt xs pos) ?_
  intro J1 hJi1 hJo1
  refine while_induct (J := J1) (by passes_own) ?_ (xs.length - pos) _ ?_
  · (intro k s' hJ9; replace hJ9 := hJo1 _ _ hJ9; (refine ex10 hJ9 ?_; clear hJ9; intro h₁ tk₁ m₁ vs₁ xs₁ tp₁ tc₁ ts₁ te₁ pos₁ hOB9; refine and14 hOB9 ?_; clear hOB9; intro eOB0 F2 N2 hr1 hk0 hk1 hlen mh ms mn mp mc me hgo; subst eOB0))
    clear F1 N1
    have hlv1 : vs₁.length = xs₁.length := hr1.1
    k_steps
    by_cases hk2 : 2 * pos₁ + 1 < xs.length
    · refine WhlIf.yes (by simp only [decide_eq_true_eq]; omega) ?_
      have d1 : ((2 * pos₁ + 1 : Nat) : Int) + 1 = ((2 * pos₁ + 2 : Nat) : Int) := by simp only [Int.natCast_add]; rfl
      (refine ex4 (hr1.getD (k := 2 * pos₁ + 1) (by omega)) ?_; intro a1 t1 u1 n1 hOB9; refine and2 hOB9 ?_; clear hOB9; intro hv1 hm1)
      by_cases hk3 : 2 * pos₁ + 2 < xs.length
      · (refine ex4 (hr1.getD (k := 2 * pos₁ + 2) (by omega)) ?_; intro a2 t2 u2 n2 hOB9; refine and2 hOB9 ?_; clear hOB9; intro hv2 hm2)
        have e1 : (2 : Int) * ((2 * pos₁ + 1 : Nat) : Int) = ((2 * (2 * pos₁ + 1) : Nat) : Int) := by simp
        have e2 : ((2 * (2 * pos₁ + 1) : Nat) : Int) + 1 = ((2 * (2 * pos₁ + 1) + 1 : Nat) : Int) := by simp
        have e3 := b2 ((2 * pos₁ + 1 : Nat) : Int)
        have f1 : (2 : Int) * ((2 * pos₁ + 2 : Nat) : Int) = ((2 * (2 * pos₁ + 2) : Nat) : Int) := by simp
        have f2 : ((2 * (2 * pos₁ + 2) : Nat) : Int) + 1 = ((2 * (2 * pos₁ + 2) + 1 : Nat) : Int) := by simp
        have f3 := b2 ((2 * pos₁ + 2 : Nat) : Int)
        k_steps
        · rename (pLt _ _ = true) => hlt
          rename Fr _ _ _ _ => F9
          rename News _ _ _ _ => N9
          dsimp only [WPost]
          refine ⟨xs₁.length - (2 * pos₁ + 1), by omega, hJi1 _ _ ⟨_, _, _, _, xs₁.set pos₁ (xs₁.getD (2 * pos₁ + 1) default), _, _, _, _, 2 * pos₁ + 1, rfl, F9, N9, hr1.setAt pos₁ hm1, by simp only [List.length_set], by simp only [List.length_set]; omega, by simpa using hlen, mh, ms, mn, rfl, rfl, me, ?_⟩⟩
          rw [← hgo]
          exact suGo_step pLt (by omega) (by unfold child; rw [if_neg]; rw [hlt]; simp)
        · rename (pLt _ _ = false) => hlt
          rename Fr _ _ _ _ => F9
          rename News _ _ _ _ => N9
          dsimp only [WPost]
          refine ⟨xs₁.length - (2 * pos₁ + 2), by omega, hJi1 _ _ ⟨_, _, _, _, xs₁.set pos₁ (xs₁.getD (2 * pos₁ + 2) default), _, _, _, _, 2 * pos₁ + 2, rfl, F9, N9, hr1.setAt pos₁ hm2, by simp only [List.length_set], by simp only [List.length_set]; omega, by simpa using hlen, mh, ms, mn, rfl, rfl, me, ?_⟩⟩
          rw [← hgo]
          exact suGo_step pLt (by omega) (by unfold child; rw [if_pos]; rw [hlt]; simp; omega)
      · have e1 : (2 : Int) * ((2 * pos₁ + 1 : Nat) : Int) = ((2 * (2 * pos₁ + 1) : Nat) : Int) := by simp
        have e2 : ((2 * (2 * pos₁ + 1) : Nat) : Int) + 1 = ((2 * (2 * pos₁ + 1) + 1 : Nat) : Int) := by simp
        have e3 := b2 ((2 * pos₁ + 1 : Nat) : Int)
        k_steps
        · skip
          rename Fr _ _ _ _ => F9
          rename News _ _ _ _ => N9
          dsimp only [WPost]
          refine ⟨xs₁.length - (2 * pos₁ + 1), by omega, hJi1 _ _ ⟨_, _, _, _, xs₁.set pos₁ (xs₁.getD (2 * pos₁ + 1) default), _, _, _, _, 2 * pos₁ + 1, rfl, F9, N9, hr1.setAt pos₁ hm1, by simp only [List.length_set], by simp only [List.length_set]; omega, by simpa using hlen, mh, ms, mn, rfl, rfl, me, ?_⟩⟩
          rw [← hgo]
          exact suGo_step pLt (by omega) (child_one pLt (by omega))
    · refine WhlIf.no (by simp only [decide_eq_false_iff_not]; omega) ?_
      k_steps
      (k_dflt (refine' Does.use ((siftdown_does w l n pos pos₁ ts₁ tp₁ (vs₁.set pos₁ (.ref a0)) (xs₁.set pos₁ (xs.getD pos default)) rest (hr1.setAt pos₁ hm0) (by simp only [List.length_set]; omega) (by simp only [List.length_set]; omega) hoff)) ?k1 ?k2 ?k3 ?k4 ?k5 ?k6 ?k7 ?k8 ?k9 ?k10 ?_; (case k1 => k_asm); (case k2 => k_asm); (case k3 => k_asm); (case k4 => k_asm); (case k5 => k_asm); (case k6 => k_asm); (case k7 => k_asm); (case k8 => first | assumption | exact rfl); (case k9 => ktr_room); (case k10 => ktr_units)); intro r9 n9 h9 tk9 F9 N9 P9)
      obtain ⟨vs₂, rfl, hr2⟩ := P9
      k_steps
      refine hQ _ _ _ _ (by assumption) (by assumption) ⟨_, rfl, ?_⟩
      have e9 : suGo pLt xs₁ pos₁ = (xs₁, pos₁) := by rw [suGo, if_neg (by omega)]
      unfold siftup
      rw [← hgo, e9]
      exact hr2
  · exact hJi1 _ _ ⟨_, _, _, vs, xs, _, _, _, _, pos, rfl, F1, N1, hr, rfl, hp, rfl, rfl, rfl, rfl, rfl, rfl, by rw [← hlv]; rfl, rfl⟩
end
end Mine
end
section
open PySem PySem.W PyProof.Rows PySem.Calls
set_option maxRecDepth 100000
set_option maxHeartbeats 8000000
namespace Mine
theorem sub_ri_reversed : isSubtype (.type "range_iterator") (.type "reversed") = pure false := by rw [isSubtype_type]; kernel_rfl
noncomputable abbrev itD (x n : Int) : Obj := { cls := .type "range_iterator", data := .fields #[rawInt x, rawInt n, rawInt (-1)] }
theorem rr_meets0 (r : Addr) (a b c : Int) (t u v : Tok) (hc0 : ¬ (!(Builtin.Range.rangeFitsLong a && Builtin.Range.rangeFitsLong b && Builtin.Range.rangeFitsLong c && Builtin.Range.rangeFitsLong (-c) && Builtin.Range.rangeFitsLong (a - c) && Builtin.Range.rangeFitsLong (Builtin.Range.rangeSize a b c))) = true) :
    Meets (Builtin.«range.__reversed__» ⟨[.ref r], []⟩) (fun _ R s => s.heap.get? r = some { cls := .type "range", dict := none, data := .fields #[.int a t, .int b u, .int c v], slots := #[] } ∧ R (.ok (.ret (Value.ref s.heap.objs.size))) { s with heap := s.heap.push { cls := .type (if (Builtin.Range.rangeFitsLong a && Builtin.Range.rangeFitsLong b && Builtin.Range.rangeFitsLong c && Builtin.Range.rangeFitsLong (-c) && Builtin.Range.rangeFitsLong (a - c) && Builtin.Range.rangeFitsLong (Builtin.Range.rangeSize a b c)) = true then "range_iterator" else "longrange_iterator"), data := .fields #[rawInt (a + (Builtin.Range.rangeSize a b c - 1) * c), rawInt (Builtin.Range.rangeSize a b c), rawInt (-c)] }, toks := s.toks }) :=
  .of_wp fun prog w A R s h => by obtain ⟨hp, g, d, tk, os⟩ := s; obtain ⟨hl, h⟩ := h; wp_walk; exact ⟨_, rfl, h⟩
theorem fits_small {i : Int} (h1 : -5 ≤ i) (h2 : i < 1000001) : Builtin.Range.rangeFitsLong i = true := by
  unfold Builtin.Range.rangeFitsLong
  simp only [Bool.and_eq_true, decide_eq_true_eq]; (first | lia | omega)
theorem size_up (k : Nat) : Builtin.Range.rangeSize 0 (k : Int) 1 = (k : Int) := by
  unfold Builtin.Range.rangeSize
  rw [if_pos (by decide)]
  split <;> (first | lia | omega)
section
variable {prog : Program} {w : World} {A : Around} {E : Value → Shared → Prop} {s : Shared}
theorem call_range_reversed {r : Addr} {k : Nat} {t u v : Tok} {Q : Value → Shared → Prop} (hr : IsRange s.heap r 0 (k : Int) 1 t u v) (hk : k < 1000000)
    (h : Q (.ref s.heap.objs.size) { s with heap := s.heap.push (itD ((k : Int) - 1) k) }) : wpAny (model prog w) A (call (.builtin "range.__reversed__") [.ref r]) Q E s := by
  have hs : (Builtin.Range.rangeFitsLong 0 && Builtin.Range.rangeFitsLong (k : Int) && Builtin.Range.rangeFitsLong 1 && Builtin.Range.rangeFitsLong (-1) && Builtin.Range.rangeFitsLong (0 - 1) && Builtin.Range.rangeFitsLong (Builtin.Range.rangeSize 0 (k : Int) 1)) = true := by
    simp only [Bool.and_eq_true]
    rw [size_up]
    exact ⟨⟨⟨⟨⟨fits_small (by (first | lia | omega)) (by (first | lia | omega)), fits_small (by (first | lia | omega)) (by (first | lia | omega))⟩, fits_small (by (first | lia | omega)) (by (first | lia | omega))⟩, fits_small (by (first | lia | omega)) (by (first | lia | omega))⟩, fits_small (by (first | lia | omega)) (by (first | lia | omega))⟩, fits_small (by (first | lia | omega)) (by (first | lia | omega))⟩
  refine call_meets F.slot_range_reversed ⟨_, hr, rfl⟩ F.entry_range_reversed (F.args_range_reversed_1 _) (rr_meets0 r 0 (k : Int) 1 t u v (by rw [hs]; decide)) ⟨hr, ?_⟩
  have e : (0 : Int) + (Builtin.Range.rangeSize 0 (k : Int) 1 - 1) * 1 = (k : Int) - 1 := by rw [size_up]; (first | lia | omega)
  simp only [hs, if_true, e]
  rw [size_up]
  exact h
theorem code_reversed_newR {r : Addr} {k : Nat} {t u v : Tok} {Q₁ : Value → Shared → Prop} (hr : IsRange s.heap r 0 (k : Int) 1 t u v) (hk : k < 1000000)
    (h : Q₁ (.ref s.heap.objs.size) { s with heap := s.heap.push (itD ((k : Int) - 1) k) }) :
    codeAny (model prog w) A (.call (.builtin "reversed.__new__") ⟨[.type "reversed", .ref r], []⟩) (wants Q₁ E) s := by
  refine codeAny_of_tree ?_
  show wpAny _ A.in1 (do checkBuiltinCall "reversed.__new__" ⟨[.type "reversed", .ref r], []⟩; again (.builtin "reversed.__new__" ⟨[.type "reversed", .ref r], []⟩)) _ _ s
  refine wpAny_bind (wpAny_of_eq (F.newCall_reversed_1 _) (wpAny_pure ⟨plainId_quiet F.plain_reversed_new _, codeAny_builtin F.entry_reversed_new ?_⟩))
  rw [Around.under_plainId F.plain_reversed_new _]
  unfold Builtin.«reversed.__new__»
  refine wpAny_bind (wpAny_of_eq (newClass_reversed _) ?_)
  try dsimp only
  refine wpAny_bind (wpAny_of_eq (a := ()) (by first | rfl | kernel_rfl) ?_)
  refine wpAny_bind (wpAny_of_eq (a := ()) (by first | rfl | kernel_rfl) ?_)
  try dsimp only
  refine wpAny_bind (wpAny_specialOf (T := "range") ⟨_, hr, rfl⟩ F.slot_range_reversed.lookup ?_)
  try dsimp only
  refine wpAny_bind (wpAny_of_eq (F.slot_range_reversed.bind _) ?_)
  try dsimp only
  first
  | rw [if_neg (show ¬ ((Value.builtin "range.__reversed__" == Value.none) = true) from Bool.false_ne_true)]
  | (show wpAny _ _ (if (Value.builtin "range.__reversed__" == Value.none) = true then _ else _) _ _ _; rw [if_neg (show ¬ ((Value.builtin "range.__reversed__" == Value.none) = true) from Bool.false_ne_true)])
  refine wpAny_bind (wpAny_rule ?_)
  refine wpAny_bind (m := runValue (.call (.builtin "range.__reversed__") ⟨[.ref r], []⟩)) (show wpAny _ _ (call (.builtin "range.__reversed__") [.ref r]) _ _ _ from call_range_reversed hr hk ?_)
  first
  | exact wpAny_pure h
  | exact wpAny_bind (wpAny_pure (wpAny_pure h))
theorem call_reversed_rangeT {r : Addr} {k : Nat} {t u v : Tok} {Q : Value → Shared → Prop} (hr : IsRange s.heap r 0 (k : Int) 1 t u v) (hk : k < 1000000)
    (h : Q (.ref s.heap.objs.size) { s with heap := s.heap.push (itD ((k : Int) - 1) k) }) : wpAny (model prog w) A (call (.type "reversed") [.ref r]) Q E s := by
  refine callType_other (U := "range_iterator") (Q₁ := fun obj s₁ => obj = .ref s.heap.objs.size ∧ s₁ = { s with heap := s.heap.push (itD ((k : Int) - 1) k) }) (by decide +kernel) F.create_reversed ⟨_, _, F.mro_reversed⟩ F.made_reversed sub_ri_reversed (F.typeCall_reversed_1 _) (code_reversed_newR hr hk ⟨rfl, rfl⟩) ?_
  rintro obj s₁ ⟨rfl, rfl⟩
  exact ⟨⟨_, Heap.get?_push_size _ rfl, rfl⟩, h⟩
theorem reversed_range_N {h₀ : Heap} {L : Addr} {m : Str → Option Value} {news : List (Addr × Obj)} {r : Addr} {k : Nat} {t u v : Tok} {Q : Value → Shared → Prop} (F : Fr h₀ L s.heap m) (N : News h₀ L s.heap news) (hr : IsRange s.heap r 0 (k : Int) 1 t u v) (hk : k < 1000000)
    (h : ∀ D h', Fr h₀ L h' m → News h₀ L h' ((D, itD ((k : Int) - 1) k) :: news) → (∀ p ∈ news, p.1 < D) → Q (.ref D) { s with heap := h' }) : wpAny (model prog w) A (call (.type "reversed") [.ref r]) Q E s :=
  call_reversed_rangeT hr hk (h _ _ (F.push _) (News.push F N _) fun p hp => Heap.lt_size (N p hp).1)

/-- a loop down over what reversed(range(k)) gave -/
theorem iter_down {env : Env} {h₀ : Heap} {x : Str} {body : List Stmt} {Q : Flow → Shared → Prop} {I : Addr} {n : Nat} {m₀ : Str → Option Value} {news : List (Addr × Obj)} (J : Nat → (Str → Option Value) → List (Addr × Obj) → Prop)
    (hh : A.handled = none) (F : Fr h₀ env.locals s.heap m₀) (N : News h₀ env.locals s.heap ((I, itD ((n : Int) - 1) n) :: news)) (hoff : ∀ p ∈ news, p.1 ≠ I) (h0 : J 0 m₀ news)
    (step : ∀ i m₁ news₁ t h tk (it : Obj), it.cls = .type "range_iterator" → i < n → J i m₁ news₁ → Fr h₀ env.locals h (fun y => if y = x then some (.int (((n - 1 - i : Nat) : Nat) : Int) t) else m₁ y) → News h₀ env.locals h ((I, it) :: news₁) → (∀ p ∈ news₁, p.1 ≠ I) →
      wpAny (model prog w) A (execs body env) (UnrPost h₀ env.locals { s with heap := h, toks := tk } I it (J (i + 1)) Q) E { s with heap := h, toks := tk })
    (done : ∀ m₁ news₁ h tk, J n m₁ news₁ → Fr h₀ env.locals h m₁ → News h₀ env.locals h news₁ → Q .next { s with heap := h, toks := tk }) :
    wpAny (model prog w) A (pyIter (.ref I)) (fun it s₂ => LoopAtV prog w A h₀ env x body Q E it s₂) E s := by
  have hIx := N _ (.head _)
  refine wpAny_pyIter_rangeiter hIx.1 ?_
  have W := (Walks.range (prog := prog) (w := w) hh I ((n : Int) - 1) (-1) n).bound
  refine ⟨_, _, _, n, _, _, m₀, news, J, rfl, W, ?_, ?_, ?_, ?_, F, (fun p hp => N p (.tail _ hp)), h0, ?_, ?_⟩
  · intro hm
    exact hIx.2.1 (List.mem_singleton.mp hm).symm
  · intro b hb
    rw [List.mem_singleton.mp hb]
    exact hIx.2.2
  · intro p hp hI
    exact hoff p hp (List.mem_singleton.mp hI)
  · show IsRangeIter _ _ _ _ _
    have e1 : (n : Int) - 1 + ((0 : Nat) : Int) * (-1) = (n : Int) - 1 := by (first | lia | omega)
    have e2 : (n : Int) - ((0 : Nat) : Int) = (n : Int) := by (first | lia | omega)
    rw [e1, e2]
    exact hIx.1
  · rintro i v m₁ news₁ s₁ own ⟨hh', tk', rfl⟩ hin ⟨_, t, rfl⟩ hJ hofs hown hget hall hst F₁ N₁
    have hst' : hh'.get? I = some (itD ((n : Int) - 1 + ((i + 1 : Nat) : Int) * (-1)) ((n : Int) - ((i + 1 : Nat) : Int))) := hst
    have hmem := hall I (List.mem_singleton.mpr rfl) hIx.2.2 _ hst'
    have e1 : (n : Int) - 1 + (i : Int) * (-1) = (((n - 1 - i : Nat) : Nat) : Int) := by (first | lia | omega)
    rw [e1] at F₁
    have hoff₁ : ∀ p ∈ news₁, p.1 ≠ I := fun p hp e => hofs p hp (List.mem_singleton.mpr e)
    have N₂ : News h₀ env.locals hh' ((I, itD ((n : Int) - 1 + ((i + 1 : Nat) : Int) * (-1)) ((n : Int) - ((i + 1 : Nat) : Int))) :: news₁) := fun p hp => by
      rcases List.mem_cons.mp hp with rfl | hp
      · exact N₁ _ (List.mem_append_left _ hmem)
      · exact N₁ _ (List.mem_append_right _ hp)
    refine wpAny_mono (step i m₁ news₁ t hh' tk' _ rfl hin hJ F₁ N₂ hoff₁) (fun f s₂ p => ?_) fun _ _ e => e
    have fin : UnrEnd h₀ env.locals { s with heap := hh', toks := tk' } I (itD ((n : Int) - 1 + ((i + 1 : Nat) : Int) * (-1)) ((n : Int) - ((i + 1 : Nat) : Int))) (J (i + 1)) s₂ →
        LoopStepU h₀ env.locals [I] own (J (i + 1)) { s with heap := hh', toks := tk' } .next s₂ := by
      rintro ⟨h', tk, m', news', e, F', N', ho, r⟩
      refine ⟨rfl, h', tk, m', news', e, F', fun p hp => ?_, fun p hp hI => ho p hp (List.mem_singleton.mp hI), r⟩
      rcases List.mem_append.mp hp with hp | hp
      · have h1 : p.1 = I := List.mem_singleton.mp (hown p hp)
        have h2 : hh'.get? p.1 = some p.2 := hget p hp
        have h3 : p = (I, itD ((n : Int) - 1 + ((i + 1 : Nat) : Int) * (-1)) ((n : Int) - ((i + 1 : Nat) : Int))) := by
          rw [h1, hst'] at h2
          exact Prod.ext h1 (Option.some.inj h2).symm
        rw [h3]; exact N' _ (List.mem_cons_self ..)
      · exact N' _ (List.mem_cons_of_mem _ hp)
    cases f with
    | ret v => exact .ret p
    | brk => exact .brk p
    | next => exact .next (fin p)
    | cont => exact .cont (fin p)
  · rintro h' tk m' news' F' N' _ hJ
    exact done m' news' h' tk hJ F' N'
end
end Mine
end
section
open PySem PySem.W PyProof.Rows PySem.Calls
set_option maxRecDepth 100000
set_option maxHeartbeats 8000000
namespace Mine
local macro_rules | `(tactic| omega) => `(tactic| lia)
section


local macro_rules | `(tactic| walk_at "call builtin:len") => `(tactic| (k_here; k_dflt (refine len_eq (h := ?_)); intros))
local macro_rules | `(tactic| walk_at "truthy ref") => `(tactic| (k_here; k_dflt (refine truthy_eq (h := ?_)); intros))
local macro_rules | `(tactic| walk_at "binaryOp Sub int int") => `(tactic| (k_here; with_reducible refine sub_eq (h := ?_)))
local macro_rules | `(tactic| walk_at "binaryOp FloorDiv int int") => `(tactic| (k_here; with_reducible refine floordiv_eq (h := ?_)))
theorem sdGo_len {α : Type} [Inhabited α] (lt : α → α → Bool) (start : Nat) (new : α) (xs : List α) (pos : Nat) : (sdGo lt start new xs pos).length = xs.length := by
  induction pos using Nat.strongRecOn generalizing xs with | _ d ih => ?_
  rw [sdGo]
  split
  · split
    · rw [ih _ (by omega), List.length_set]
    · exact List.length_set
  · exact List.length_set
theorem siftdown_len {α : Type} [Inhabited α] (lt : α → α → Bool) (xs : List α) (a b : Nat) : (siftdown lt xs a b).length = xs.length := sdGo_len ..
theorem siftup_len {α : Type} [Inhabited α] (lt : α → α → Bool) (xs : List α) (a : Nat) : (siftup lt xs a).length = xs.length := by
  unfold siftup
  simp only [siftdown_len, List.length_set, suGo_len]
noncomputable def heapifyGo {α : Type} [Inhabited α] (lt : α → α → Bool) (xs : List α) : Nat → List α
  | 0 => xs
  | k + 1 => heapifyGo lt (siftup lt xs k) k
theorem heapify_does (w : World) (l n : Nat) (vs : List Value) (xs : List (Int × Str)) (rest : List (Addr × Obj)) (hr : Rel2 (PairAt rest) vs xs) (hl : xs.length ≤ 1000) (hoff : ∀ p ∈ rest, p.1 ≠ l) :
    Does w 84 [.ref l] ((l, listOf vs.toArray n) :: rest) 6 120 (fun r news' => ∃ vs', news' = (l, listOf vs'.toArray n) :: rest ∧ Rel2 (PairAt rest) vs' (heapifyGo pLt xs (xs.length / 2))) := by
  unfold Does; w_top off; k_fill
  intro p loose mean mg mb dp un gd cn cs aa ccd cl outer A₀ base h₀ L m s Q E B F X N T C1 C2 hk dhp hun hQ
  (refine wpAny_call ?_; (k_dflt (refine' code_def (binds := ([(Str.ofString "x", .ref l)])) ?k1 ?k2 ?k3 ?k4 ?k5 ?kA ?kF ?kK ?k6 ?k7 ?k8 ?k9 ?kB ?_ ?c2 ?c3 ?c4 ?c5; (case kA => exact rfl); (case kF => exact rfl); (case kK => first | assumption | exact rfl); (case k1 => k_asm); (case k2 => k_asm); (case k3 => k_asm); (case k4 => k_asm); (case k5 => k_asm); (case k6 => k_is); (case k7 => k_is); (case k8 => ktr_room); (case k9 => exact BindsTo.of_eq rfl); (case c5 => decide); (case kB => exact locs rfl); (case c2 => exact rfl); (case c3 => exact rfl); (case c4 => exact rfl); k_whole; intro g' L' h' FG' F' N' B' X' T'; (have C1' := CodeHd.up (by assumption : CodeHd _ 34 30) FG'); (have C2' := CodeHd.up (by assumption : CodeHd _ 41 37) FG'); (try dsimp only [List.reverse_cons, List.reverse_nil, List.nil_append, List.cons_append, List.length_cons, List.length_nil] at F'); (try dsimp only); (try k_fold))); refine letAQE ?_; intro A9q E9q Q9q)
  have hlv : vs.length = xs.length := hr.1
  have e1 : ((xs.length : Nat) : Int).fdiv 2 = ((xs.length / 2 : Nat) : Int) := by rw [Int.fdiv_eq_ediv_of_nonneg _ (by decide)]; norm_cast
  k_steps
  unfold Stop
  rename Fr _ _ _ _ => lF
  (with_unfolding_all refine' For_invVF lF ?k1 ?k2 ?_; (case k1 => exact rfl); (case k2 => exact rfl))
  k_steps
  rename IsRange _ _ _ _ _ _ _ _ => hR
  rename Fr _ _ _ _ => F2
  rename News _ _ _ _ => N2
  refine reversed_range_N F2 N2 hR (by omega) ?_
  intro D h2 F3 N3 hlt
  clear F2 N2
  k_steps
  refine iter_down (n := xs.length / 2) (fun i m₁ news₁ => ∃ vs₁ xs₁, Rel2 (PairAt rest) vs₁ xs₁ ∧ xs₁.length = xs.length ∧ heapifyGo pLt xs₁ (xs.length / 2 - i) = heapifyGo pLt xs (xs.length / 2) ∧ m₁ (Str.ofString "x") = some (.ref l) ∧ news₁ = (l, listOf vs₁.toArray n) :: rest) (by rfl) F3 N3 (lt_off hlt) ⟨vs, xs, hr, rfl, rfl, rfl, rfl⟩ ?_ ?_
  · rintro i m₁ news₁ ti h₁ tk₁ it hitc hi ⟨vs₁, xs₁, hr1, hl1, hgo, mx, rfl⟩ F4 N4 hne
    clear F3 N3
    k_steps
    have N5 : News g' L' h₁ ((l, listOf vs₁.toArray n) :: (D, it) :: rest) := News.rot1 N4
    have hDl : D ≠ l := Ne.symm (hne _ (.head _))
    have hoff2 : ∀ p ∈ (D, it) :: rest, p.1 ≠ l := offC hDl hoff
    (k_dflt (refine' Does.use ((siftup_does w l n (xs.length / 2 - 1 - i) ti vs₁ xs₁ ((D, it) :: rest) (Rel2.mono hr1 fun v x h => PairAt.mono h fun q hq => .tail _ hq) (by omega) (by omega) hoff2)) ?k1 ?k2 ?k3 ?k4 ?k5 ?k6 ?k7 ?k8 ?k9 ?k10 ?_; (case k1 => k_asm); (case k2 => k_asm); (case k3 => k_asm); (case k4 => k_asm); (case k5 => k_asm); (case k6 => k_asm); (case k7 => k_asm); (case k8 => first | assumption | exact rfl); (case k9 => ktr_room); (case k10 => ktr_units)); intro r9 n9 h9 tk9 F9 N9 P9)
    obtain ⟨vs₂, rfl, hr2⟩ := P9
    k_steps
    rename Fr _ _ _ _ => F9
    rename News _ _ _ _ => N9
    have hr3 : Rel2 (PairAt rest) vs₂ (siftup pLt xs₁ (xs.length / 2 - 1 - i)) := hr2.mono fun v x h => by
      obtain ⟨a, t, u, k, rfl, hm⟩ := h
      rcases List.mem_cons.mp hm with e | hm
      · exact absurd (congrArg (fun p => p.2.cls) e) (by
          have hit : it.cls = .type "range_iterator" := hitc
          simp only
          rw [hit]; simp)
      · exact ⟨a, t, u, k, rfl, hm⟩
    refine UnrEnd.intro F9 N9 ((l, listOf vs₂.toArray n) :: rest) (subC m1 (subC (.head _) t2)) (offC (Ne.symm hDl) fun q hq => hne q (.tail _ hq)) ⟨vs₂, _, hr3, by rw [siftup_len, hl1], ?_, mx, rfl⟩
    · rw [← hgo]
      have e : xs.length / 2 - i = (xs.length / 2 - 1 - i) + 1 := by omega
      have e2 : xs.length / 2 - (i + 1) = xs.length / 2 - 1 - i := by omega
      rw [e, e2]; rfl
  · rintro m₁ news₁ h₁ tk₁ ⟨vs₁, xs₁, hr1, hl1, hgo, mx, rfl⟩ F4 N4
    clear F3 N3
    k_steps
    refine hQ _ _ _ _ (by assumption) (by assumption) ⟨vs₁, rfl, ?_⟩
    rw [← hgo, Nat.sub_self]
    exact hr1
theorem heappush_does (w : World) (l n : Nat) (a : Addr) (q : Int × Str) (t u : Tok) (k : Nat) (vs : List Value) (xs : List (Int × Str)) (rest : List (Addr × Obj)) (hr : Rel2 (PairAt rest) vs xs) (hl : xs.length < 1000) (hoff : ∀ p ∈ rest, p.1 ≠ l) (ha : (a, pairObj q.1 t q.2 u k) ∈ rest) :
    Does w 70 [.ref l, .ref a] ((l, listOf vs.toArray n) :: rest) 4 80 (fun r news' => ∃ vs' n', news' = (l, listOf vs'.toArray n') :: rest ∧ Rel2 (PairAt rest) vs' (siftdown pLt (xs ++ [q]) 0 xs.length)) := by
  unfold Does; w_top off; k_fill
  intro p loose mean mg mb dp un gd cn cs aa ccd cl outer A₀ base h₀ L m s Q E B F X N T C1 C2 hk dhp hun hQ
  (refine wpAny_call ?_; (k_dflt (refine' code_def (binds := ([(Str.ofString "heap", .ref l), (Str.ofString "item", .ref a)])) ?k1 ?k2 ?k3 ?k4 ?k5 ?kA ?kF ?kK ?k6 ?k7 ?k8 ?k9 ?kB ?_ ?c2 ?c3 ?c4 ?c5; (case kA => exact rfl); (case kF => exact rfl); (case kK => first | assumption | exact rfl); (case k1 => k_asm); (case k2 => k_asm); (case k3 => k_asm); (case k4 => k_asm); (case k5 => k_asm); (case k6 => k_is); (case k7 => k_is); (case k8 => ktr_room); (case k9 => exact BindsTo.of_eq rfl); (case c5 => decide); (case kB => exact locs rfl); (case c2 => exact rfl); (case c3 => exact rfl); (case c4 => exact rfl); k_whole; intro g' L' h' FG' F' N' B' X' T'; (have C1' := CodeHd.up (by assumption : CodeHd _ 34 30) FG'); (have C2' := CodeHd.up (by assumption : CodeHd _ 41 37) FG'); (try dsimp only [List.reverse_cons, List.reverse_nil, List.nil_append, List.cons_append, List.length_cons, List.length_nil] at F'); (try dsimp only); (try k_fold))); refine letAQE ?_; intro A9q E9q Q9q)
  have hlv : vs.length = xs.length := hr.1
  have hlv2 : (vs ++ [Value.ref a]).length = xs.length + 1 := by simp [hlv]
  have hs : ((xs.length + 1 : Nat) : Int) - 1 = (xs.length : Int) := by omega
  k_steps
  (k_dflt (refine' Does.use ((siftdown_does w l (n + 1) 0 xs.length _ _ (vs ++ [.ref a]) (xs ++ [q]) rest (Rel2.append hr (Rel2.one ⟨a, t, u, k, rfl, ha⟩)) (by simp) (by simp; omega) hoff)) ?k1 ?k2 ?k3 ?k4 ?k5 ?k6 ?k7 ?k8 ?k9 ?k10 ?_; (case k1 => k_asm); (case k2 => k_asm); (case k3 => k_asm); (case k4 => k_asm); (case k5 => k_asm); (case k6 => k_asm); (case k7 => k_asm); (case k8 => first | assumption | exact rfl); (case k9 => ktr_room); (case k10 => ktr_units)); intro r9 n9 h9 tk9 F9 N9 P9)
  obtain ⟨vs₂, rfl, hr2⟩ := P9
  k_steps
  exact hQ _ _ _ _ (by assumption) (by assumption) ⟨_, _, rfl, hr2⟩
/-- what heappop hands on, and leaves -/
noncomputable def popL {α : Type} [Inhabited α] (lt : α → α → Bool) (xs : List α) : List α := if xs.length = 1 then [] else siftup lt (xs.dropLast.set 0 (xs.getD (xs.length - 1) default)) 0
theorem heappop_does (w : World) (l n : Nat) (vs : List Value) (xs : List (Int × Str)) (rest : List (Addr × Obj)) (hr : Rel2 (PairAt rest) vs xs) (hl : xs.length < 1000) (h0 : 0 < xs.length) (hoff : ∀ p ∈ rest, p.1 ≠ l) :
    Does w 77 [.ref l] ((l, listOf vs.toArray n) :: rest) 6 120 (fun r news' => ∃ a t u k vs' n', r = .ref a ∧ (a, pairObj (xs.getD 0 default).1 t (xs.getD 0 default).2 u k) ∈ rest ∧ news' = (l, listOf vs'.toArray n') :: rest ∧ Rel2 (PairAt rest) vs' (popL pLt xs)) := by
  unfold Does; w_top off; k_fill
  intro p loose mean mg mb dp un gd cn cs aa ccd cl outer A₀ base h₀ L m s Q E B F X N T C1 C2 hk dhp hun hQ
  (refine wpAny_call ?_; (k_dflt (refine' code_def (binds := ([(Str.ofString "heap", .ref l)])) ?k1 ?k2 ?k3 ?k4 ?k5 ?kA ?kF ?kK ?k6 ?k7 ?k8 ?k9 ?kB ?_ ?c2 ?c3 ?c4 ?c5; (case kA => exact rfl); (case kF => exact rfl); (case kK => first | assumption | exact rfl); (case k1 => k_asm); (case k2 => k_asm); (case k3 => k_asm); (case k4 => k_asm); (case k5 => k_asm); (case k6 => k_is); (case k7 => k_is); (case k8 => ktr_room); (case k9 => exact BindsTo.of_eq rfl); (case c5 => decide); (case kB => exact locs rfl); (case c2 => exact rfl); (case c3 => exact rfl); (case c4 => exact rfl); k_whole; intro g' L' h' FG' F' N' B' X' T'; (have C1' := CodeHd.up (by assumption : CodeHd _ 34 30) FG'); (have C2' := CodeHd.up (by assumption : CodeHd _ 41 37) FG'); (try dsimp only [List.reverse_cons, List.reverse_nil, List.nil_append, List.cons_append, List.length_cons, List.length_nil] at F'); (try dsimp only); (try k_fold))); refine letAQE ?_; intro A9q E9q Q9q)
  have hlv : vs.length = xs.length := hr.1
  obtain ⟨al, tl, ul, nl, hvl, hml⟩ := hr.getD (k := xs.length - 1) (by omega)
  obtain ⟨a0, t0, u0, n0, hv0, hm0⟩ := hr.getD (k := 0) h0
  have hvs : vs.dropLast ++ [Value.ref al] = vs := by
    have hne : vs ≠ [] := by intro e; rw [e] at hlv; simp at hlv; omega
    have e : vs.getLast hne = .ref al := by
      rw [List.getLast_eq_getElem, ← Option.some_inj, ← List.getElem?_eq_getElem]
      rw [hlv]; exact hvl
    rw [← e]; exact List.dropLast_concat_getLast hne
  have hld : vs.dropLast.length = xs.length - 1 := by simp [hlv]
  k_steps
  refine kl_pop (by assumption) (by assumption) (p := vs.dropLast) (y := .ref al) (by have e := kpa_last (.ref al) vs.dropLast; rw [hvs] at e; simpa using e) (Upd.head hoff) (by simp only [sizeLine]; omega) ?_
  intro h2 F2 N2
  by_cases h1 : xs.length = 1
  · have hz : xs.length - 1 = 0 := by omega
    rw [hz] at hld hvl hml
    k_steps
    refine hQ _ _ _ _ (by assumption) (by assumption) ⟨al, tl, ul, nl, _, _, rfl, hml, rfl, ?_⟩
    have e : popL pLt xs = [] := by unfold popL; rw [if_pos h1]
    rw [e, List.eq_nil_of_length_eq_zero hld]
    exact Rel2.nil
  · have hgt : 0 < xs.length - 1 := by omega
    have hv0' : vs.dropLast[0]? = some (.ref a0) := by
      rw [List.getElem?_dropLast, if_pos (by omega)]; exact hv0
    have hr2 : Rel2 (PairAt rest) (vs.dropLast.set 0 (.ref al)) (xs.dropLast.set 0 (xs.getD (xs.length - 1) default)) := by
      refine Rel2.setAt ?_ 0 hml
      have := Rel2.take hr (xs.length - 1)
      rw [List.dropLast_eq_take, List.dropLast_eq_take, hlv]
      exact this
    k_steps
    (try unfold Stop)
    (try dsimp only)
    (k_dflt (refine' Does.use ((siftup_does w l (n + 1) 0 _ _ _ rest hr2 (by simp only [List.length_set, List.length_dropLast]; omega) (by simp only [List.length_set, List.length_dropLast]; omega) hoff)) ?k1 ?k2 ?k3 ?k4 ?k5 ?k6 ?k7 ?k8 ?k9 ?k10 ?_; (case k1 => k_asm); (case k2 => k_asm); (case k3 => k_asm); (case k4 => k_asm); (case k5 => k_asm); (case k6 => k_asm); (case k7 => k_asm); (case k8 => first | assumption | exact rfl); (case k9 => ktr_room); (case k10 => ktr_units)); intro r9 n9 h9 tk9 F9 N9 P9)
    obtain ⟨vs₂, rfl, hr3⟩ := P9
    k_steps
    refine hQ _ _ _ _ (by assumption) (by assumption) ⟨a0, t0, u0, n0, _, _, rfl, hm0, rfl, ?_⟩
    have e : popL pLt xs = siftup pLt (xs.dropLast.set 0 (xs.getD (xs.length - 1) default)) 0 := by unfold popL; rw [if_neg h1]
    rw [e]
    exact hr3
end
end Mine
end
end
section
open PySem PySem.W PyProof.Rows PySem.Calls
set_option maxRecDepth 100000
set_option maxHeartbeats 8000000
namespace Mine
section
variable {α : Type} [Inhabited α] {lt : α → α → Bool}
structure Ord (lt : α → α → Bool) : Prop where
  irr : ∀ a, lt a a = false
  asym : ∀ a b, lt a b = true → lt b a = false
  trans : ∀ a b c, lt b a = false → lt c b = false → lt c a = false
noncomputable abbrev gd (xs : List α) (k : Nat) : α := xs.getD k default
theorem gd_set (xs : List α) (p k : Nat) (v : α) (hp : p < xs.length) : gd (xs.set p v) k = if k = p then v else gd xs k := by
  unfold gd
  rw [List.getD_eq_getElem?_getD, List.getD_eq_getElem?_getD, List.getElem?_set]
  by_cases h : p = k
  · subst h; simp [hp]
  · have : ¬ k = p := fun e => h e.symm
    simp [h, this]
theorem gd_mem {xs : List α} {k : Nat} (h : k < xs.length) : gd xs k ∈ xs := by
  unfold gd
  rw [List.getD_eq_getElem?_getD, List.getElem?_eq_getElem h]
  exact List.getElem_mem h
theorem mem_gd {xs : List α} {x : α} : x ∈ xs ↔ ∃ k, k < xs.length ∧ gd xs k = x := by
  constructor
  · intro h
    obtain ⟨k, hk, e⟩ := List.getElem_of_mem h
    exact ⟨k, hk, by unfold gd; rw [List.getD_eq_getElem?_getD, List.getElem?_eq_getElem hk]; exact e⟩
  · rintro ⟨k, hk, rfl⟩; exact gd_mem hk
inductive Desc (lo : Nat) : Nat → Prop
  | refl : Desc lo lo
  | left {p : Nat} : Desc lo p → Desc lo (2 * p + 1)
  | right {p : Nat} : Desc lo p → Desc lo (2 * p + 2)
theorem Desc.le {lo p : Nat} (h : Desc lo p) : lo ≤ p := by
  induction h with
  | refl => exact Nat.le_refl _
  | left _ ih => (first | lia | omega)
  | right _ ih => (first | lia | omega)
theorem Desc.par {lo p : Nat} (h : Desc lo p) (hp : lo < p) : Desc lo ((p - 1) / 2) := by
  cases h with
  | refl => exact absurd hp (Nat.lt_irrefl _)
  | @left q h => rwa [show (2 * q + 1 - 1) / 2 = q by (first | lia | omega)]
  | @right q h => rwa [show (2 * q + 2 - 1) / 2 = q by (first | lia | omega)]
/-- the edges whose parent is lo or more are in order -/
noncomputable def HeapFrom (lt : α → α → Bool) (lo : Nat) (xs : List α) : Prop := ∀ k, 0 < k → k < xs.length → lo ≤ (k - 1) / 2 → lt (gd xs k) (gd xs ((k - 1) / 2)) = false
/-- .. but those that touch p -/
noncomputable def HeapBut (lt : α → α → Bool) (lo p : Nat) (xs : List α) : Prop := ∀ k, 0 < k → k < xs.length → lo ≤ (k - 1) / 2 → k ≠ p → (k - 1) / 2 ≠ p → lt (gd xs k) (gd xs ((k - 1) / 2)) = false
noncomputable def Cont (xs : List α) (p : Nat) (x : α) : Prop := ∃ k, k < xs.length ∧ k ≠ p ∧ gd xs k = x

theorem sdGo_heap (o : Ord lt) (lo : Nat) (new : α) : ∀ (p : Nat) (xs : List α), Desc lo p → p < xs.length → HeapBut lt lo p xs →
    (lo < p → ∀ c, 0 < c → c < xs.length → (c - 1) / 2 = p → lt (gd xs c) (gd xs ((p - 1) / 2)) = false) → (∀ c, 0 < c → c < xs.length → (c - 1) / 2 = p → lt (gd xs c) new = false) →
    HeapFrom lt lo (sdGo lt lo new xs p) := by
  intro p
  induction p using Nat.strongRecOn with | _ p ih => ?_
  intro xs hd hp hA hB hC
  have stop : (lo < p → lt new (gd xs ((p - 1) / 2)) = false) → HeapFrom lt lo (xs.set p new) := by
    intro hn k h0 hk hlo
    rw [List.length_set] at hk
    rw [gd_set xs p _ _ hp, gd_set xs p _ _ hp]
    by_cases hkp : k = p
    · subst hkp
      have : (k - 1) / 2 ≠ k := by (first | lia | omega)
      simp only [if_true, this, if_false]
      by_cases hl : lo < k
      · exact hn hl
      · have := hd.le; (first | lia | omega)
    · by_cases hpp : (k - 1) / 2 = p
      · simp only [hkp, if_false, hpp, if_true]
        exact hC k h0 hk hpp
      · simp only [hkp, hpp, if_false]
        exact hA k h0 hk hlo hkp hpp
  rw [sdGo]
  by_cases hl : lo < p
  · rw [if_pos hl]
    by_cases hlt : lt new (xs.getD ((p - 1) / 2) default) = true
    · rw [if_pos hlt]
      have hpar : (p - 1) / 2 < p := by (first | lia | omega)
      have hdp := hd.par hl
      refine ih _ hpar _ hdp (by rw [List.length_set]; (first | lia | omega)) ?_ ?_ ?_
      · intro k h0 hk hlo h1 h2
        rw [List.length_set] at hk
        rw [gd_set xs p _ _ hp, gd_set xs p _ _ hp]
        have hkp : k ≠ p := fun e => h2 (by rw [e])
        by_cases hpp : (k - 1) / 2 = p
        · simp only [hkp, if_false, hpp, if_true]
          exact hB hl k h0 hk hpp
        · simp only [hkp, hpp, if_false]
          exact hA k h0 hk hlo hkp hpp
      · intro hl2 c h0 hc hcp
        rw [List.length_set] at hc
        rw [gd_set xs p _ _ hp, gd_set xs p _ _ hp]
        have hgp : ((p - 1) / 2 - 1) / 2 ≠ p := by (first | lia | omega)
        have h1 : lt (gd xs ((p - 1) / 2)) (gd xs (((p - 1) / 2 - 1) / 2)) = false := hA ((p - 1) / 2) (by (first | lia | omega)) (by (first | lia | omega)) (hdp.par hl2).le (by (first | lia | omega)) hgp
        by_cases hcp' : c = p
        · simp only [hcp', if_true, hgp, if_false]
          exact h1
        · simp only [hcp', hgp, if_false]
          have h2 : lt (gd xs c) (gd xs ((c - 1) / 2)) = false := hA c h0 hc (by rw [hcp]; exact hdp.le) hcp' (by rw [hcp]; (first | lia | omega))
          rw [hcp] at h2
          exact o.trans _ _ _ h1 h2
      · intro c h0 hc hcp
        rw [List.length_set] at hc
        rw [gd_set xs p _ _ hp]
        have h3 := o.asym _ _ hlt
        by_cases hcp' : c = p
        · simp only [hcp', if_true]; exact h3
        · simp only [hcp', if_false]
          have h2 : lt (gd xs c) (gd xs ((c - 1) / 2)) = false := hA c h0 hc (by rw [hcp]; exact hdp.le) hcp' (by rw [hcp]; (first | lia | omega))
          rw [hcp] at h2
          exact o.trans _ _ _ h3 h2
    · rw [if_neg hlt]
      exact stop fun _ => by simpa using hlt
  · rw [if_neg hl]
    exact stop fun h => absurd h hl
theorem sdGo_mem (lt : α → α → Bool) (lo : Nat) (new : α) : ∀ (p : Nat) (xs : List α), p < xs.length → ∀ x, x ∈ sdGo lt lo new xs p ↔ x = new ∨ Cont xs p x := by
  intro p
  induction p using Nat.strongRecOn with | _ p ih => ?_
  intro xs hp x
  have stop : x ∈ xs.set p new ↔ x = new ∨ Cont xs p x := by
    rw [mem_gd]
    constructor
    · rintro ⟨k, hk, e⟩
      rw [List.length_set] at hk
      rw [gd_set xs p _ _ hp] at e
      by_cases h : k = p
      · simp only [h, if_true] at e; exact .inl e.symm
      · simp only [h, if_false] at e; exact .inr ⟨k, hk, h, e⟩
    · rintro (rfl | ⟨k, hk, h, e⟩)
      · exact ⟨p, by rw [List.length_set]; exact hp, by rw [gd_set xs p _ _ hp, if_pos rfl]⟩
      · exact ⟨k, by rw [List.length_set]; exact hk, by rw [gd_set xs p _ _ hp, if_neg h]; exact e⟩
  rw [sdGo]
  by_cases hl : lo < p
  · rw [if_pos hl]
    by_cases hlt : lt new (xs.getD ((p - 1) / 2) default) = true
    · rw [if_pos hlt, ih _ (by (first | lia | omega)) _ (by rw [List.length_set]; (first | lia | omega))]
      have : Cont (xs.set p (xs.getD ((p - 1) / 2) default)) ((p - 1) / 2) x ↔ Cont xs p x := by
        constructor
        · rintro ⟨k, hk, h, e⟩
          rw [List.length_set] at hk
          rw [gd_set xs p _ _ hp] at e
          by_cases hkp : k = p
          · simp only [hkp, if_true] at e; exact ⟨(p - 1) / 2, by (first | lia | omega), by (first | lia | omega), e⟩
          · simp only [hkp, if_false] at e; exact ⟨k, hk, hkp, e⟩
        · rintro ⟨k, hk, h, e⟩
          by_cases hkp : k = (p - 1) / 2
          · exact ⟨p, by rw [List.length_set]; exact hp, by (first | lia | omega), by rw [gd_set xs p _ _ hp, if_pos rfl, ← e, hkp]⟩
          · exact ⟨k, by rw [List.length_set]; exact hk, hkp, by rw [gd_set xs p _ _ hp, if_neg h]; exact e⟩
      rw [this]
    · rw [if_neg hlt]; exact stop
  · rw [if_neg hl]; exact stop

theorem child_cases (lt : α → α → Bool) (xs : List α) (p : Nat) (h : 2 * p + 1 < xs.length) :
    (child lt xs (2 * p + 1) = 2 * p + 1 ∨ child lt xs (2 * p + 1) = 2 * p + 2) ∧ child lt xs (2 * p + 1) < xs.length := by
  refine ⟨?_, child_lt lt xs _ h⟩
  unfold child
  split
  · exact .inr rfl
  · exact .inl rfl
theorem child_least (o : Ord lt) (xs : List α) (p : Nat) (h : 2 * p + 1 < xs.length) (c : Nat) (h0 : 0 < c) (hc : c < xs.length) (hp : (c - 1) / 2 = p) : lt (gd xs c) (gd xs (child lt xs (2 * p + 1))) = false := by
  have hcc : c = 2 * p + 1 ∨ c = 2 * p + 2 := by (first | lia | omega)
  unfold child
  by_cases hb : (decide (2 * p + 1 + 1 < xs.length) && !lt (xs.getD (2 * p + 1) default) (xs.getD (2 * p + 1 + 1) default)) = true
  · rw [if_pos hb]
    have hn : lt (xs.getD (2 * p + 1) default) (xs.getD (2 * p + 1 + 1) default) = false := by
      have := (Bool.and_eq_true_iff.mp hb).2
      simpa using this
    rcases hcc with rfl | rfl
    · exact hn
    · exact o.irr _
  · rw [if_neg hb]
    rcases hcc with rfl | rfl
    · exact o.irr _
    · have hn : lt (xs.getD (2 * p + 1) default) (xs.getD (2 * p + 1 + 1) default) = true := by
        have h2 : decide (2 * p + 1 + 1 < xs.length) = true := decide_eq_true hc
        rw [h2, Bool.true_and] at hb
        simpa using hb
      exact o.asym _ _ hn
theorem suGo_spec (o : Ord lt) (lo : Nat) : ∀ (d : Nat) (xs : List α) (p : Nat), xs.length - p = d → Desc lo p → p < xs.length → HeapBut lt lo p xs →
    (lo < p → ∀ c, 0 < c → c < xs.length → (c - 1) / 2 = p → lt (gd xs c) (gd xs ((p - 1) / 2)) = false) →
    Desc lo (suGo lt xs p).2 ∧ (suGo lt xs p).2 < xs.length ∧ ¬ 2 * (suGo lt xs p).2 + 1 < xs.length ∧ HeapBut lt lo (suGo lt xs p).2 (suGo lt xs p).1 ∧ ∀ x, Cont (suGo lt xs p).1 (suGo lt xs p).2 x ↔ Cont xs p x := by
  intro d
  induction d using Nat.strongRecOn with | _ d ih => ?_
  intro xs p hdd hd hp hA hB
  rw [suGo]
  by_cases h : 2 * p + 1 < xs.length
  · rw [if_pos h]
    obtain ⟨hcc, hcl⟩ := child_cases lt xs p h
    have hleast := child_least o xs p h
    generalize child lt xs (2 * p + 1) = c at hcc hcl hleast
    have hcp : (c - 1) / 2 = p := by (first | lia | omega)
    have hc0 : 0 < c := by (first | lia | omega)
    have hcne : c ≠ p := by (first | lia | omega)
    have hdc : Desc lo c := by
      rcases hcc with rfl | rfl
      · exact hd.left
      · exact hd.right
    have key := ih (xs.length - c) (by (first | lia | omega)) (xs.set p (xs.getD c default)) c (by rw [List.length_set]) hdc (by rw [List.length_set]; exact hcl) ?_ ?_
    · obtain ⟨k1, k2, k3, k4, k5⟩ := key
      rw [List.length_set] at k2 k3
      refine ⟨k1, k2, k3, k4, fun x => (k5 x).trans ?_⟩
      constructor
      · rintro ⟨k, hk, hne, e⟩
        rw [List.length_set] at hk
        rw [gd_set xs p _ _ hp] at e
        by_cases hkp : k = p
        · simp only [hkp, if_true] at e; exact ⟨c, hcl, hcne, e⟩
        · simp only [hkp, if_false] at e; exact ⟨k, hk, hkp, e⟩
      · rintro ⟨k, hk, hne, e⟩
        by_cases hkc : k = c
        · exact ⟨p, by rw [List.length_set]; exact hp, Ne.symm hcne, by rw [gd_set xs p _ _ hp, if_pos rfl, ← e, hkc]⟩
        · exact ⟨k, by rw [List.length_set]; exact hk, hkc, by rw [gd_set xs p _ _ hp, if_neg hne]; exact e⟩
    · intro k h0 hk hlo h1 h2
      rw [List.length_set] at hk
      rw [gd_set xs p _ _ hp, gd_set xs p _ _ hp]
      by_cases hkp : k = p
      · have hne : (k - 1) / 2 ≠ p := by (first | lia | omega)
        simp only [hkp, if_true]
        have hne' : (p - 1) / 2 ≠ p := by (first | lia | omega)
        simp only [hne', if_false]
        have hlp : lo < p := by subst hkp; (first | lia | omega)
        exact hB hlp c hc0 hcl hcp
      · by_cases hpp : (k - 1) / 2 = p
        · simp only [hkp, if_false, hpp, if_true]
          exact hleast k h0 hk hpp
        · simp only [hkp, hpp, if_false]
          exact hA k h0 hk hlo hkp hpp
    · intro hl e h0 he hec
      rw [List.length_set] at he
      rw [gd_set xs p _ _ hp, gd_set xs p _ _ hp]
      have h1 : e ≠ p := by (first | lia | omega)
      simp only [h1, if_false, hcp, if_true]
      have := hA e h0 he (by rw [hec]; exact hdc.le) h1 (by rw [hec]; exact hcne)
      rw [hec] at this
      exact this
  · rw [if_neg h]
    exact ⟨hd, hp, h, hA, fun _ => Iff.rfl⟩

theorem siftup_heap (o : Ord lt) (xs : List α) (i : Nat) (hi : i < xs.length) (h : HeapFrom lt (i + 1) xs) : HeapFrom lt i (siftup lt xs i) ∧ ∀ x, x ∈ siftup lt xs i ↔ x ∈ xs := by
  obtain ⟨k1, k2, k3, k4, k5⟩ := suGo_spec o i _ xs i rfl .refl hi (fun k h0 hk hlo h1 h2 => h k h0 hk (by (first | lia | omega))) (fun hl => absurd hl (Nat.lt_irrefl _))
  have hlen := suGo_len lt xs i
  unfold siftup siftdown
  dsimp only
  generalize (suGo lt xs i).2 = q at k1 k2 k3 k4 k5 hlen ⊢
  generalize (suGo lt xs i).1 = ys at k1 k2 k3 k4 k5 hlen ⊢
  have hq' : q < ys.length := by rw [hlen]; exact k2
  have hnew : (ys.set q (xs.getD i default)).getD q default = xs.getD i default := by
    have := gd_set ys q q (xs.getD i default) hq'
    simpa using this
  rw [hnew]
  constructor
  · refine sdGo_heap o i _ q _ k1 (by rw [List.length_set]; exact hq') ?_ ?_ ?_
    · intro k h0 hk hlo h1 h2
      rw [List.length_set] at hk
      rw [gd_set ys q _ _ hq', gd_set ys q _ _ hq', if_neg h1, if_neg h2]
      exact k4 k h0 hk hlo h1 h2
    · intro _ c h0 hc hcq
      rw [List.length_set] at hc
      (first | lia | omega)
    · intro c h0 hc hcq
      rw [List.length_set] at hc
      (first | lia | omega)
  · intro x
    rw [sdGo_mem lt i _ q _ (by rw [List.length_set]; exact hq')]
    have hc : Cont (ys.set q (xs.getD i default)) q x ↔ Cont ys q x := by
      constructor
      · rintro ⟨k, hk, h1, e⟩
        rw [List.length_set] at hk
        rw [gd_set ys q _ _ hq', if_neg h1] at e
        exact ⟨k, hk, h1, e⟩
      · rintro ⟨k, hk, h1, e⟩
        exact ⟨k, by rw [List.length_set]; exact hk, h1, by rw [gd_set ys q _ _ hq', if_neg h1]; exact e⟩
    rw [hc, k5 x, mem_gd]
    constructor
    · rintro (rfl | ⟨k, hk, _, e⟩)
      · exact ⟨i, hi, rfl⟩
      · exact ⟨k, hk, e⟩
    · rintro ⟨k, hk, e⟩
      by_cases h1 : k = i
      · subst h1; exact .inl e.symm
      · exact .inr ⟨k, hk, h1, e⟩
theorem heapify_heap (o : Ord lt) : ∀ (k : Nat) (xs : List α), k ≤ xs.length → HeapFrom lt k xs → HeapFrom lt 0 (heapifyGo lt xs k) ∧ (∀ x, x ∈ heapifyGo lt xs k ↔ x ∈ xs) ∧ (heapifyGo lt xs k).length = xs.length
  | 0, xs, _, h => ⟨h, fun _ => Iff.rfl, rfl⟩
  | k + 1, xs, hk, h => by
    obtain ⟨h1, h2⟩ := siftup_heap o xs k (by (first | lia | omega)) h
    obtain ⟨g1, g2, g3⟩ := heapify_heap o k (siftup lt xs k) (by rw [siftup_len]; (first | lia | omega)) h1
    exact ⟨g1, fun x => (g2 x).trans (h2 x), g3.trans (siftup_len ..)⟩
theorem heapify_spec (o : Ord lt) (xs : List α) : HeapFrom lt 0 (heapifyGo lt xs (xs.length / 2)) ∧ (∀ x, x ∈ heapifyGo lt xs (xs.length / 2) ↔ x ∈ xs) ∧ (heapifyGo lt xs (xs.length / 2)).length = xs.length :=
  heapify_heap o _ xs (by (first | lia | omega)) (fun k h0 hk hlo => by (first | lia | omega))
noncomputable abbrev push (lt : α → α → Bool) (xs : List α) (q : α) : List α := siftdown lt (xs ++ [q]) 0 xs.length
theorem gd_append (xs : List α) (q : α) (k : Nat) : gd (xs ++ [q]) k = if k = xs.length then q else gd xs k := by
  unfold gd
  rw [List.getD_eq_getElem?_getD, List.getD_eq_getElem?_getD, List.getElem?_append]
  by_cases h : k < xs.length
  · have : k ≠ xs.length := by (first | lia | omega)
    simp [h, this]
  · by_cases h2 : k = xs.length
    · subst h2; simp
    · have : k - xs.length ≠ 0 := by (first | lia | omega)
      have h3 : xs[k]? = none := List.getElem?_eq_none (by (first | lia | omega))
      simp [h, h2, h3, this]
theorem desc_zero : ∀ p, Desc 0 p := by
  intro p
  induction p using Nat.strongRecOn with | _ p ih => ?_
  by_cases h : p = 0
  · subst h; exact .refl
  · have := ih ((p - 1) / 2) (by (first | lia | omega))
    by_cases h2 : p % 2 = 1
    · rw [show p = 2 * ((p - 1) / 2) + 1 by (first | lia | omega)]; exact this.left
    · rw [show p = 2 * ((p - 1) / 2) + 2 by (first | lia | omega)]; exact this.right
theorem push_spec (o : Ord lt) (xs : List α) (q : α) (h : HeapFrom lt 0 xs) : HeapFrom lt 0 (push lt xs q) ∧ (∀ x, x ∈ push lt xs q ↔ x ∈ xs ∨ x = q) ∧ (push lt xs q).length = xs.length + 1 := by
  have hnew : (xs ++ [q]).getD xs.length default = q := by have := gd_append xs q xs.length; simpa using this
  unfold push siftdown
  rw [hnew]
  refine ⟨sdGo_heap o 0 q _ _ (desc_zero _) (by simp) ?_ ?_ ?_, ?_, by rw [sdGo_len]; simp⟩
  · intro k h0 hk hlo h1 h2
    rw [gd_append, gd_append, if_neg h1, if_neg h2]
    exact h k h0 (by simp at hk; (first | lia | omega)) hlo
  · intro _ c h0 hc hcp
    simp at hc; (first | lia | omega)
  · intro c h0 hc hcp
    simp at hc; (first | lia | omega)
  · intro x
    rw [sdGo_mem lt 0 q _ _ (by simp), mem_gd]
    constructor
    · rintro (rfl | ⟨k, hk, h1, e⟩)
      · exact .inr rfl
      · rw [gd_append, if_neg h1] at e
        exact .inl ⟨k, by simp at hk; (first | lia | omega), e⟩
    · rintro (⟨k, hk, e⟩ | rfl)
      · exact .inr ⟨k, by simp; (first | lia | omega), by (first | lia | omega), by rw [gd_append, if_neg (by (first | lia | omega))]; exact e⟩
      · exact .inl rfl
theorem gd_dropLast (xs : List α) (k : Nat) (h : k < xs.length - 1) : gd xs.dropLast k = gd xs k := by
  unfold gd
  rw [List.getD_eq_getElem?_getD, List.getD_eq_getElem?_getD, List.getElem?_dropLast, if_pos h]
theorem pop_spec (o : Ord lt) (xs : List α) (h0 : 0 < xs.length) (h : HeapFrom lt 0 xs) : HeapFrom lt 0 (popL lt xs) ∧ (∀ x, x ∈ xs ↔ x = gd xs 0 ∨ x ∈ popL lt xs) ∧ (popL lt xs).length = xs.length - 1 := by
  unfold popL
  by_cases h1 : xs.length = 1
  · rw [if_pos h1]
    refine ⟨fun k _ hk => by simp at hk, fun x => ?_, by simp [h1]⟩
    rw [mem_gd]
    constructor
    · rintro ⟨k, hk, e⟩
      have : k = 0 := by (first | lia | omega)
      subst this; exact .inl e.symm
    · rintro (rfl | hx)
      · exact ⟨0, h0, rfl⟩
      · cases hx
  · rw [if_neg h1]
    have hl : xs.dropLast.length = xs.length - 1 := by simp
    have hl0 : 0 < xs.dropLast.length := by (first | lia | omega)
    have hup := siftup_heap o (xs.dropLast.set 0 (xs.getD (xs.length - 1) default)) 0 (by rw [List.length_set]; exact hl0) (by
      intro k k0 hk hlo
      rw [List.length_set] at hk
      rw [gd_set _ 0 _ _ hl0, gd_set _ 0 _ _ hl0, if_neg (by (first | lia | omega)), if_neg (by (first | lia | omega)), gd_dropLast _ _ (by (first | lia | omega)), gd_dropLast _ _ (by (first | lia | omega))]
      exact h k k0 (by (first | lia | omega)) (Nat.zero_le _))
    refine ⟨hup.1, fun x => ?_, by rw [siftup_len, List.length_set, hl]⟩
    rw [hup.2 x, mem_gd, mem_gd]
    constructor
    · rintro ⟨k, hk, e⟩
      by_cases hk0 : k = 0
      · subst hk0; exact .inl e.symm
      · refine .inr ?_
        by_cases hkl : k = xs.length - 1
        · exact ⟨0, by rw [List.length_set]; exact hl0, by rw [gd_set _ 0 _ _ hl0, if_pos rfl, ← e, hkl]⟩
        · exact ⟨k, by rw [List.length_set]; (first | lia | omega), by rw [gd_set _ 0 _ _ hl0, if_neg hk0, gd_dropLast _ _ (by (first | lia | omega))]; exact e⟩
    · rintro (rfl | ⟨k, hk, e⟩)
      · exact ⟨0, h0, rfl⟩
      · rw [List.length_set] at hk
        rw [gd_set _ 0 _ _ hl0] at e
        by_cases hk0 : k = 0
        · simp only [hk0, if_true] at e; exact ⟨xs.length - 1, by (first | lia | omega), e⟩
        · simp only [hk0, if_false] at e
          rw [gd_dropLast _ _ (by (first | lia | omega))] at e
          exact ⟨k, by (first | lia | omega), e⟩
theorem heap_min (o : Ord lt) (xs : List α) (h : HeapFrom lt 0 xs) : ∀ x ∈ xs, lt x (gd xs 0) = false := by
  have all : ∀ k, k < xs.length → lt (gd xs k) (gd xs 0) = false := by
    intro k
    induction k using Nat.strongRecOn with | _ k ih => ?_
    intro hk
    by_cases h0 : k = 0
    · subst h0; exact o.irr _
    · exact o.trans _ _ _ (ih ((k - 1) / 2) (by (first | lia | omega)) (by (first | lia | omega))) (h k (by (first | lia | omega)) hk (Nat.zero_le _))
  intro x hx
  obtain ⟨k, hk, rfl⟩ := mem_gd.mp hx
  exact all k hk
end
theorem list_asym {a b : List Nat} (h : a < b) : ¬ b < a := List.lt_asymm h
theorem pLt_ord : Ord pLt where
  irr := fun a => by simp [pLt]
  asym := fun a b h => by
    unfold pLt at h ⊢
    by_cases e : a.1 = b.1
    · by_cases e2 : a.2 = b.2
      · simp [e, e2] at h
      · have h' : a.2.cps.toList < b.2.cps.toList := by simpa [e, e2] using h
        have e3 : ¬ b.2 = a.2 := fun x => e2 x.symm
        simp only [e.symm, beq_self_eq_true, if_true]
        have : (b.2 == a.2) = false := by simpa using e3
        rw [this, if_neg (by decide)]
        exact decide_eq_false (list_asym h')
    · have h' : a.1 < b.1 := by simpa [e] using h
      have : (b.1 == a.1) = false := by simp only [beq_eq_false_iff_ne, ne_eq]; (first | lia | omega)
      rw [this, if_neg (by decide)]
      exact decide_eq_false (by (first | lia | omega))
  trans := fun a b c h1 h2 => by
    have le : ∀ p q : Int × Str, pLt q p = false ↔ p.1 < q.1 ∨ (p.1 = q.1 ∧ p.2.cps.toList ≤ q.2.cps.toList) := by
      intro p q
      unfold pLt
      by_cases e : q.1 = p.1
      · by_cases e2 : q.2 = p.2
        · simp [e, e2]
        · have b1 : (q.1 == p.1) = true := by simpa using e
          have b2 : (q.2 == p.2) = false := by simpa using e2
          rw [b1, b2]
          simp only [if_true, Bool.false_eq_true, if_false, decide_eq_false_iff_not]
          constructor
          · intro h; exact .inr ⟨e.symm, List.not_lt.mp h⟩
          · rintro (h | ⟨_, h⟩)
            · (first | lia | omega)
            · exact List.not_lt.mpr h
      · have b1 : (q.1 == p.1) = false := by simpa using e
        rw [b1]
        simp only [Bool.false_eq_true, if_false, decide_eq_false_iff_not]
        constructor
        · intro h; exact .inl (by (first | lia | omega))
        · rintro (h | ⟨h, _⟩) <;> (first | lia | omega)
    rw [le] at h1 h2 ⊢
    rcases h1 with h1 | ⟨h1, h1'⟩ <;> rcases h2 with h2 | ⟨h2, h2'⟩
    · exact .inl (by (first | lia | omega))
    · exact .inl (by (first | lia | omega))
    · exact .inl (by (first | lia | omega))
    · exact .inr ⟨by (first | lia | omega), List.le_trans h1' h2'⟩
end Mine
end
section
open PySem PySem.W PyProof.Rows PySem.Calls
set_option maxRecDepth 100000
set_option maxHeartbeats 8000000
namespace Mine
section
variable {prog : Program} {w : World} {A : Around} {s : Shared} {h₀ : Heap} {L : Addr} {m : Str → Option Value} {env : Env} {elt : PySem.Expr} {x : Str} {scope : Scope} {cl : List (Str × Addr)} {S : List (Addr × Obj) → Prop} {P : Nat → Value → Prop} {Fin : List Value → List (Addr × Obj) → Prop}
theorem CompEnd.imp {I C D : Addr} {s₁ : Shared} {oI oC oD : Obj} {rest rest' : Value → List (Addr × Obj) → Prop} {y : Value} {s₂ : Shared} (h : ∀ y n, rest y n → rest' y n) (z : LCg.CompEnd h₀ L m s₁ I oI C oC D oD S rest y s₂) : LCg.CompEnd h₀ L m s₁ I oI C oC D oD S rest' y s₂ := by
  obtain ⟨h', tk, n', e, F, N, o, hS, r⟩ := z
  exact ⟨h', tk, n', e, F, N, o, hS, h _ _ r⟩
/-- a list comprehension by what holds of it behind i items -/
theorem comp_induct {n : Nat} (J : Nat → List Value → List (Addr × Obj) → Prop) (h0 : ∀ ys news, J n ys news → Fin ys news)
    (hs : ∀ i ys news, i < n → J i ys news → ∀ v I oI C oC D m₂ h tk (E' : Value → Shared → Prop), P i v → LCg.NsObj oC m₂ → m₂ x = some v → Fr h₀ L h m → News h₀ L h ((I, oI) :: (C, oC) :: (D, LCg.lst ys) :: news) → LCg.Off3 I C D news → ((@Ne Nat I C) ∧ (@Ne Nat I D) ∧ (@Ne Nat C D)) →
      wpAny (model prog w) A (eval elt (compEnvC scope cl C env)) (LCg.CompEnd h₀ L m { s with heap := h, toks := tk } I oI C oC D (LCg.lst ys) S (fun y news' => J (i + 1) (ys ++ [y]) news')) E' { s with heap := h, toks := tk }) :
    ∀ k i ys news, k + i = n → J i ys news → LCg.CompRest prog w A h₀ L m env elt x scope cl s S P Fin k i ys news
  | 0, i, ys, news, e, hJ => LCg.CompRest.zero (h0 _ _ (by have : i = n := by omega
                                                           rw [← this]; exact hJ))
  | k + 1, i, ys, news, e, hJ => LCg.CompRest.succ fun v I oI C oC D m₂ h tk E' hP hC hx F N o3 hne =>
      wpAny_mono (hs i ys news (by omega) hJ v I oI C oC D m₂ h tk E' hP hC hx F N o3 hne) (fun _ _ z => CompEnd.imp (fun y n' hj => comp_induct J h0 hs k (i + 1) (ys ++ [y]) n' (by omega) hj) z) fun _ _ e => e
theorem comp_end {I C D : Addr} {s₁ : Shared} {oI oC oD : Obj} {rest : Value → List (Addr × Obj) → Prop} {y : Value} {h' : Heap} {tk : Nat} {news : List (Addr × Obj)}
    (F : Fr h₀ L h' m) (N : News h₀ L h' ((I, oI) :: (C, oC) :: (D, oD) :: news)) (off : LCg.Off3 I C D news) (hS : S news) (r : rest y news) :
    LCg.CompEnd h₀ L m s₁ I oI C oC D oD S rest y { s₁ with heap := h', toks := tk } := LCg.CompEnd.intro F N news (fun _ h => h) off hS r
theorem strValues_of {vs : List Value} {xs : List Str} (h : StrsAre vs xs) : ∃ l : List (Str × Tok), strValues l = vs ∧ l.map (·.1) = xs := by
  induction h with
  | nil => exact ⟨[], rfl, rfl⟩
  | cons y t _ ih => obtain ⟨l, e1, e2⟩ := ih; exact ⟨(y, t) :: l, by rw [← e1]; rfl, by rw [← e2]; rfl⟩
theorem strs_append {vs ws : List Value} {ns ms : List Str} (a : StrsAre vs ns) (b : StrsAre ws ms) : StrsAre (vs ++ ws) (ns ++ ms) := by
  induction a with
  | nil => exact b
  | cons n t _ ih => exact .cons n t ih
theorem strs_length {vs : List Value} {ns : List Str} (a : StrsAre vs ns) : vs.length = ns.length := by
  induction a with
  | nil => rfl
  | cons n t _ ih => simp [ih]
theorem join_led {E : Value → Shared → Prop} {news : List (Addr × Obj)} {D : Addr} {vs : List Value} {xs : List Str} {n : Nat} {y z : Str} {t : Tok} {Q : Value → Shared → Prop} (N : News h₀ L s.heap news := by k_asm) (hm : (D, listOf vs.toArray n) ∈ news := by k_mem) (hs : StrsAre vs xs := by assumption) (ok : JoinOk y xs = true := by assumption) (e : Txt.join y xs = z := by assumption)
    (h : ∀ t' k, Q (.str z t') { s with toks := k }) : wpAny (model prog w) A (call (.builtin "str.join") [.str y t, .ref D]) Q E s := by
  obtain ⟨l, e1, e2⟩ := strValues_of hs
  subst e1
  exact SC.join ⟨_, (N _ hm).1, rfl, n, rfl⟩ e2 ok (by rw [e]; exact h)
theorem kms_last (l : List Value) : kms_pick l.toArray.toList none (some (-1)) = l.dropLast := by
  unfold kms_pick kms_lo kms_hi
  simp [List.dropLast_eq_take]
theorem off1_all {D : Addr} : ∀ {l : List (Addr × Obj)}, LCg.Off1 D l → ∀ p ∈ l, p.1 ≠ D
  | [], _, _, h => nomatch h
  | _ :: _, x, p, h => by
    rcases List.mem_cons.mp h with rfl | h
    · exact x.1
    · exact off1_all x.2 p h
theorem isList_led {g : Heap} {L : Addr} {h : Heap} {news : List (Addr × Obj)} {l : Addr} {its : Array Value} {n : Nat} (N : News g L h news) (hm : (l, listOf its n) ∈ news) : h.IsList l its := ⟨_, (N _ hm).1, rfl, n, rfl⟩
theorem krvA {prog : Program} {w : World} {A : Around} {E : Value → Shared → Prop} {s : Shared} {h₀ : Heap} {L l : Addr} {m : Str → Option Value} {news : List (Addr × Obj)} {value slice : PySem.Expr} {its : Array Value} {n : Nat} {zs : List Value} {vk : Value} {ops : List Value} {Q : Value → Shared → Prop}
    (h : ∀ D h', Fr h₀ L h' m → News h₀ L h' ((D, listOf zs.toArray 0) :: news) → (∀ p ∈ news, p.1 < D) → Q (.ref D) { s with heap := h' })
    (F : Fr h₀ L s.heap m := by k_asm) (N : News h₀ L s.heap news := by k_asm) (hm : (l, listOf its n) ∈ news := by k_mem) (pk : IsPart vk (some (-1)) := by exact IsPart.int _ _) (e : its.toList.reverse = zs := by assumption)
    (hs : subscripted slice false (.ref l) (.ref s.heap.objs.size) = operate ops (getItem (.ref l) (.ref s.heap.objs.size)) := by with_unfolding_all rfl) (ht : ∀ r, letTemporaryGo value (.ref l) r = pure () := by kmk_pure) (hz : its.size ≤ sizeLine := by (simp only [List.size_toArray, sizeLine]; (first | lia | omega))) :
    wpAny (model prog w) A (subscriptTail value slice (.ref l) (.ref s.heap.objs.size)) Q E { s with heap := s.heap.push { cls := .type "slice", data := .fields #[.none, .none, vk] } } :=
  krv_lit F N (isList_led N hm) pk e h hs ht hz
theorem kmsA {prog : Program} {w : World} {A : Around} {E : Value → Shared → Prop} {s : Shared} {h₀ : Heap} {L l : Addr} {m : Str → Option Value} {news : List (Addr × Obj)} {value slice : PySem.Expr} {its : Array Value} {n : Nat} {zs : List Value} {vl vu : Value} {lo hi : Option Int} {Q : Value → Shared → Prop}
    (h : ∀ D h', Fr h₀ L h' m → News h₀ L h' ((D, listOf zs.toArray 0) :: news) → (∀ p ∈ news, p.1 < D) → Q (.ref D) { s with heap := h' })
    (F : Fr h₀ L s.heap m := by k_asm) (N : News h₀ L s.heap news := by k_asm) (hm : (l, listOf its n) ∈ news := by k_mem) (pl : IsPart vl lo := by kmk_part) (pu : IsPart vu hi := by kmk_part) (e : kms_pick its.toList lo hi = zs := by assumption)
    (hs : subscripted slice false (.ref l) (.ref s.heap.objs.size) = operate [.ref s.heap.objs.size, .ref l] (getItem (.ref l) (.ref s.heap.objs.size)) := by with_unfolding_all rfl) (ht : ∀ r, letTemporaryGo value (.ref l) r = pure () := by kmk_pure) (hz : its.size ≤ sizeLine := by (simp only [List.size_toArray, sizeLine]; (first | lia | omega))) :
    wpAny (model prog w) A (subscriptTail value slice (.ref l) (.ref s.heap.objs.size)) Q E { s with heap := s.heap.push { cls := .type "slice", data := .fields #[vl, vu, .none] } } :=
  kms_slice_lit F N (isList_led N hm) pl pu e h hs ht hz
end
theorem lcU {prog : Program} {w : World} {A : Around} {E : Value → Shared → Prop} {s : Shared} {h₀ : Heap} {L : Addr} {m : Str → Option Value} {env : Env} {elt iter : PySem.Expr} {x : Str} {px : Pos} {scope : Scope} {cl : List (Str × Addr)} {pos : Pos} {Q : Value → Shared → Prop}
    (h : wpAny (model prog w) A (eval iter env) (LCg.CompSrc prog w A h₀ L m env elt x scope cl (fun s₂ => LCg.FinE h₀ L m s₂ Q)) E s) (F₀ : Fr h₀ L s.heap m := by k_asm)
    (hclos : closureFor scope env = pure cl := by with_unfolding_all rfl) (hcell : ∀ y ∈ scope.names, y.2 ≠ .cell := by decide) (hkind : scope.kind = .function := by rfl)
    (hnames : ∀ y ∈ scope.names, y.2 = .local → scope.names.lookup y.1 = some .local := by decide) (hx : scope.names.lookup x = some .local := by rfl)
    (hs : ∀ x, foldedSetIterable iter env x = pure x := by intro _; rfl) : wpAny (model prog w) A (eval (.ListComp elt [⟨.Name x px, iter, [], 0⟩] scope pos) env) Q E s :=
  LCg.ListComp_U F₀ hclos hcell hkind hnames hx h hs
theorem guardK {prog : Program} {w : World} {A : Around} {E : Value → Shared → Prop} {s : Shared} {v st : PySem.Expr} {pos : Pos} {a b : Addr} {Q : Value → Shared → Prop} (h : wpAny (model prog w) A (subscriptTail v (PySem.Expr.Slice none none (some st) pos) (.ref a) (.ref b)) Q E s) :
    wpAny (model prog w) A (subscriptTail v (PySem.Expr.Slice none none (some st) pos) (.ref a) (.ref b)) Q E s := h
theorem guardS {prog : Program} {w : World} {A : Around} {E : Value → Shared → Prop} {s : Shared} {v : PySem.Expr} {p q : Option PySem.Expr} {pos : Pos} {a b : Addr} {Q : Value → Shared → Prop} (h : wpAny (model prog w) A (subscriptTail v (PySem.Expr.Slice p q none pos) (.ref a) (.ref b)) Q E s) :
    wpAny (model prog w) A (subscriptTail v (PySem.Expr.Slice p q none pos) (.ref a) (.ref b)) Q E s := h
end Mine
end
section
open PySem PySem.W PyProof.Rows PySem.Calls Mine
local macro_rules | `(tactic| walk_at "pyIter ref") => `(tactic| (k_here; refine Stop.intro ?_))
local macro_rules | `(tactic| walk_at "eval ListComp") => `(tactic| (k_here; k_dflt (refine lcU ?_)))
local macro_rules | `(tactic| walk_at "CompSrc") => `(tactic| (k_here; refine Stop.intro ?_))
local macro_rules | `(tactic| walk_at "subscriptTail Name Slice ref ref") => `(tactic| (k_here; with_reducible refine guardK ?_; k_dflt (refine krvA ?_); intros; (try k_sweep)))
local macro_rules | `(tactic| walk_at "compareOp NotIn str ref") => `(tactic| (k_here; k_dflt (refine notinA ?_)))
section
open PySem PySem.W PyProof.Rows PySem.Calls
set_option maxRecDepth 100000
set_option maxHeartbeats 8000000
namespace Mine
local macro_rules | `(tactic| omega) => `(tactic| lia)
section

theorem add_eq' {prog : Program} {w : World} {A : Around} {E : Value → Shared → Prop} {s : Shared} {a b k : Int} {t u : Tok} {Q : Value → Shared → Prop} (e : a + b = k := by assumption) (h : Q (.int k s.toks) { s with toks := s.toks + 1 }) :
    wpAny (model prog w) A (binaryOp .Add (.int a t) (.int b u)) Q E s := PyProof.Rows.add_int (by rw [e]; exact h)
local macro_rules | `(tactic| walk_at "binaryOp Add int int") => `(tactic| (k_here; with_reducible refine add_eq' (h := ?_)))
local macro_rules | `(tactic| walk_at "subscriptTail Name Slice ref ref") => `(tactic| (k_here; with_reducible refine guardS ?_; k_dflt (refine kmsA ?_); intros; (try k_sweep)))
local macro_rules | `(tactic| walk_at "call builtin:str.join") => `(tactic| (k_here; k_dflt (refine join_led (h := ?_)); intros))
/-- the word that a draw stands for; the words of the draws, each once -/
noncomputable def wordOf (d : Int) : Str := W15.getD (d.toNat + 1) (Str.ofString "")
noncomputable def wordsGo : List Int → List Str → List Str
  | [], ws => ws
  | d :: ds, ws => wordsGo ds (if ws.contains (wordOf d) then ws else ws ++ [wordOf d])
noncomputable def letter (c : Int) : Str := if c = 0 then Str.ofString "a" else Str.ofString "b"
theorem ints_dropLast {vs : List Value} {ns : List Int} (h : IntsAre vs ns) : IntsAre vs.dropLast ns.dropLast := by
  induction h with
  | nil => exact .nil
  | cons n t h ih =>
    cases h with
    | nil => exact .nil
    | cons n' t' h => exact .cons n t ih
theorem bits_of (d : Int) (h : 0 ≤ d ∧ d < 14) : ∃ a k : Nat, d + 2 = (a : Int) ∧ 0 < a ∧ a < 16 ∧ a < 2 ^ (1 * k) ∧ (((Builtin.Int.intBits (a : Int) : Nat) : Int) + ((1 : Nat) : Int) - 1).fdiv ((1 : Nat) : Int) = (k : Int) ∧ 0 < k ∧ k ≤ 4 ∧ Txt.join (Str.ofString "") (((digs a 1 k).dropLast.reverse).map letter) = wordOf d ∧ JoinOk (Str.ofString "") (((digs a 1 k).dropLast.reverse).map letter) = true ∧ wordOf d ∈ W15 := by
  obtain ⟨a, rfl⟩ : ∃ a : Nat, d = (a : Int) := ⟨d.toNat, by omega⟩
  have ha : a < 14 := by omega
  refine ⟨a + 2, Builtin.Int.intBits ((a + 2 : Nat) : Int), by simp, by omega, by omega, ?_⟩
  have : ∀ a, a < 14 → a + 2 < 2 ^ (1 * Builtin.Int.intBits ((a + 2 : Nat) : Int)) ∧ (((Builtin.Int.intBits ((a + 2 : Nat) : Int) : Nat) : Int) + ((1 : Nat) : Int) - 1).fdiv ((1 : Nat) : Int) = (Builtin.Int.intBits ((a + 2 : Nat) : Int) : Int) ∧ 0 < Builtin.Int.intBits ((a + 2 : Nat) : Int) ∧ Builtin.Int.intBits ((a + 2 : Nat) : Int) ≤ 4 ∧ Txt.join (Str.ofString "") (((digs (a + 2) 1 (Builtin.Int.intBits ((a + 2 : Nat) : Int))).dropLast.reverse).map letter) = wordOf (a : Int) ∧ JoinOk (Str.ofString "") (((digs (a + 2) 1 (Builtin.Int.intBits ((a + 2 : Nat) : Int))).dropLast.reverse).map letter) = true ∧ wordOf (a : Int) ∈ W15 := by decide +kernel
  exact this a ha
theorem law_words_does (w : World) (l nl : Nat) (dv : List Value) (ds : List Int) (own R : List (Addr × Obj)) (hd : IntsAre dv ds) (hb : ∀ d ∈ ds, 0 ≤ d ∧ d < 14) (hl : ds.length ≤ 4) (hT : Tabs R) (ho : ∀ q ∈ (l, listOf dv.toArray nl) :: own, q.1 ≠ 30 ∧ q.1 ≠ 37) (hoff : ∀ p ∈ own ++ R, p.1 ≠ l) :
    Does w 103 [.ref l] ((l, listOf dv.toArray nl) :: (own ++ R)) 22 220 (fun r news' => ∃ Wa wv nw R', r = .ref Wa ∧ news' = (Wa, listOf wv.toArray nw) :: (l, listOf dv.toArray nl) :: (own ++ R') ∧ StrsAre wv (wordsGo ds []) ∧ (∀ x ∈ wordsGo ds [], x ∈ W15) ∧ (wordsGo ds []).length ≤ 4 ∧
      Ext ((l, listOf dv.toArray nl) :: own) R R' ∧ (∀ p ∈ (l, listOf dv.toArray nl) :: (own ++ R'), p.1 ≠ Wa) ∧ ∀ p ∈ (l, listOf dv.toArray nl) :: (own ++ R), p.1 < Wa) := by
  unfold Does; w_top off; k_fill
  intro p loose mean mg mb dp un gd cn cs aa ccd cl outer A₀ base h₀ L m s Q E B F X N T C1 C2 hk dhp hun hQ
  (refine wpAny_call ?_; (k_dflt (refine' code_def (binds := ([(Str.ofString "draws", .ref l)])) ?k1 ?k2 ?k3 ?k4 ?k5 ?kA ?kF ?kK ?k6 ?k7 ?k8 ?k9 ?kB ?_ ?c2 ?c3 ?c4 ?c5; (case kA => exact rfl); (case kF => exact rfl); (case kK => first | assumption | exact rfl); (case k1 => k_asm); (case k2 => k_asm); (case k3 => k_asm); (case k4 => k_asm); (case k5 => k_asm); (case k6 => k_is); (case k7 => k_is); (case k8 => ktr_room); (case k9 => exact BindsTo.of_eq rfl); (case c5 => decide); (case kB => exact locs rfl); (case c2 => exact rfl); (case c3 => exact rfl); (case c4 => exact rfl); k_whole; intro g' L' h' FG' F' N' B' X' T'; (have C1' := CodeHd.up (by assumption : CodeHd _ 34 30) FG'); (have C2' := CodeHd.up (by assumption : CodeHd _ 41 37) FG'); (try dsimp only [List.reverse_cons, List.reverse_nil, List.nil_append, List.cons_append, List.length_cons, List.length_nil] at F'); (try dsimp only); (try k_fold))); refine letAQE ?_; intro A9q E9q Q9q)
  k_steps
  unfold Stop
  rename Fr _ _ _ _ => lF
  (with_unfolding_all refine' For_invVF lF ?k1 ?k2 ?_; (case k1 => exact rfl); (case k2 => exact rfl))
  k_steps
  unfold Stop
  rename Fr _ _ _ _ => F1
  rename News _ _ _ _ => N1
  rename_i Wa hA1 lW hA2
  have hWown : ∀ p ∈ own ++ R, p.1 < Wa := AllLt.out lW.2
  have hWl : l < Wa := lW.1
  have hlr : l ≠ 30 := (ho _ (.head _)).1
  refine iter_listUnr (by rfl) F1 N1 (by k_mem) rfl rfl ?_
  intro I hI
  have hIW : Wa < I := hI _ (.head _)
  have hIl : l < I := hI _ (.tail _ (.head _))
  have hIown : ∀ p ∈ own ++ R, p.1 < I := fun p hp => hI p (.tail _ (.tail _ hp))
  have offs : ∀ R₁, Ext ((I, tabObj #[]) :: (Wa, listOf #[] 0) :: (l, listOf dv.toArray nl) :: own) R R₁ → (∀ p ∈ R₁, p.1 ≠ I) ∧ (∀ p ∈ R₁, p.1 ≠ Wa) ∧ (∀ p ∈ R₁, p.1 ≠ l) ∧ I ≠ 30 ∧ Wa ≠ 30 := fun R₁ ext => by
    have h1 := ext.off (I, tabObj #[]) (.head _) (fun p hp => Nat.ne_of_lt (hIown p (List.mem_append_right _ hp)))
    have h2 := ext.off (Wa, listOf #[] 0) m1 (fun p hp => Nat.ne_of_lt (hWown p (List.mem_append_right _ hp)))
    have h3 := ext.off (l, listOf dv.toArray nl) m2 (fun p hp => hoff p (List.mem_append_right _ hp))
    obtain ⟨⟨ps, h30, _⟩, _⟩ := ext.tabs
    exact ⟨h1, h2, h3, fun e => h1 _ h30 e.symm, fun e => h2 _ h30 e.symm⟩
  refine hide3 (α := List Value) (β := Str → Option Value) (γ := List (Addr × Obj)) (fun rv m₁ news₁ => ∃ (rs : List Int) (wv : List Value) (ws : List Str) (nw : Nat) (R₁ : List (Addr × Obj)), IntsAre rv rs ∧ (∀ d ∈ rs, 0 ≤ d ∧ d < 14) ∧ StrsAre wv ws ∧ ws.length + rs.length ≤ 4 ∧ (∀ x ∈ ws, x ∈ W15) ∧ wordsGo rs ws = wordsGo ds [] ∧
    m₁ (Str.ofString "words") = some (.ref Wa) ∧ Ext ((I, tabObj #[]) :: (Wa, listOf #[] 0) :: (l, listOf dv.toArray nl) :: own) R R₁ ∧ news₁ = (Wa, listOf wv.toArray nw) :: (l, listOf dv.toArray nl) :: (own ++ R₁)) ?_
  intro J1 hJi1 hJo1
  refine list_induct (J := J1) ?_ ?_ _ _ _ ?_
  · (intro m₁ news₁ hJ9; replace hJ9 := hJo1 _ _ _ hJ9; (refine ex5 hJ9 ?_; clear hJ9; intro rs wv ws nw R₁ hOB9; refine and9 hOB9 ?_; clear hOB9; intro hrv hbr hwv hlen hW hgo mw ext eOB8; subst eOB8); intro h₁ tk₁ F2 N2)
    cases hrv
    have ofs := offs R₁ ext
    have hgo' : ws = wordsGo ds [] := hgo
    k_steps
    refine hQ _ _ _ _ (by assumption) (by assumption) ⟨Wa, wv, nw, R₁, rfl, rfl, hgo' ▸ hwv, hgo' ▸ hW, hgo' ▸ (by simpa using hlen), ext.own t2, offC (Nat.ne_of_lt hWl) (offA (fun q hq => Nat.ne_of_lt (hWown q (List.mem_append_left _ hq))) ofs.2.1), ltC hWl hWown⟩
  · (intro v rv m₁ news₁ hJ9; replace hJ9 := hJo1 _ _ _ hJ9; (refine ex5 hJ9 ?_; clear hJ9; intro rs wv ws nw R₁ hOB9; refine and9 hOB9 ?_; clear hOB9; intro hrv hbr hwv hlen hW hgo mw ext eOB8; subst eOB8); intro it h₁ tk₁ hit F2 N2)
    cases hrv with | cons d td hrv => ?_
    rename_i rs
    (refine ex2 (bits_of d (hbr d (.head _))) ?_; intro a k hOB9; refine and10 hOB9 ?_; clear hOB9; intro ea ha1 ha2 ha3 ha4 ha5 ha6 hj1 hj2 hj3)
    k_steps
    (k_dflt (refine' Does.use ((int2digits_ext w a 1 k _ _ ((I, it) :: (Wa, listOf wv.toArray nw) :: (l, listOf dv.toArray nl) :: own) R₁ ha1 ha3 (by decide) (by decide) ha4 ha5 (by omega) ext.tabs (by
      have ofs := offs R₁ ext
      exact offC ofs.2.2.2.1 (offC ofs.2.2.2.2 (offC hlr fun q hq => (ho q (.tail _ hq)).1))))) ?k1 ?k2 ?k3 ?k4 ?k5 ?k6 ?k7 ?k8 ?k9 ?k10 ?_; (case k1 => k_asm); (case k2 => k_asm); (case k3 => k_asm); (case k4 => k_asm); (case k5 => k_asm); (case k6 => k_asm); (case k7 => k_asm); (case k8 => first | assumption | exact rfl); (case k9 => ktr_room); (case k10 => ktr_units)); intro r9 n9 h9 tk9 F9 N9 P9)
    (refine ex3 P9 ?_; clear P9; intro D bv R₂ hOB9; refine and6 hOB9 ?_; clear hOB9; intro eOB0 eOB1 hbv ext2 hlt2 hne2; subst eOB0; subst eOB1)
    have hs1 := kms_last bv
    obtain ⟨cv, hcv⟩ : ∃ cv, cv = bv.dropLast := ⟨_, rfl⟩
    have hs2 : cv.toArray.toList.reverse = cv.reverse := rfl
    have hlb : bv.length ≤ 4 := by have := hbv.length; simp [digs] at this; omega
    have hlc : cv.length ≤ 4 := by rw [hcv]; simp; omega
    rw [← hcv] at hs1
    k_steps
    unfold Stop
    rename Fr _ _ _ _ => F3
    rename News _ _ _ _ => N3
    have hcs : IntsAre cv.reverse ((digs a 1 k).dropLast.reverse) := by rw [hcv]; exact (ints_dropLast hbv).reverse
    have hbit : ∀ c ∈ (digs a 1 k).dropLast.reverse, c = 0 ∨ c = 1 := fun c hc => by
      have hc' := List.dropLast_subset _ (List.mem_reverse.mp hc)
      unfold digs at hc'
      obtain ⟨i, _, rfl⟩ := List.mem_map.mp hc'
      unfold dig
      have : a / 2 ^ (1 * i) % 2 ^ 1 < 2 := Nat.mod_lt _ (by decide)
      omega
    generalize hcse : (digs a 1 k).dropLast.reverse = cs at hcs hbit hj1 hj2
    refine LCg.CompSrc.ledger (by rfl) F3 N3 (.head _) (by simp only [List.size_toArray, List.length_reverse, sizeLine]; omega) ?_
    intro g
    generalize hZ : ((I, it) :: (Wa, listOf wv.toArray nw) :: (l, listOf dv.toArray nl) :: own ++ R₂) = Z at *
    refine comp_induct (J := fun i ys news => StrsAre ys ((cs.take i).map letter) ∧ news = _) ?_ ?_ _ _ _ _ (Nat.add_zero _) ⟨.nil, rfl⟩
    · rintro ys news ⟨hys, rfl⟩
      unfold LCg.FinE
      intro De he tke Fe Ne oe
      have hcl : cs.length = cv.length := by rw [← hcs.length]; simp
      rw [show cs.take cv.reverse.toArray.size = cs from List.take_of_length_le (by simp [hcl])] at hys
      subst hZ
      have ext3 := ext.trans (ext2.ad (own' := (I, tabObj #[]) :: (Wa, listOf #[] 0) :: (l, listOf dv.toArray nl) :: own) (allC ⟨_, .head _, rfl⟩ (allC ⟨_, m1, rfl⟩ (allC ⟨_, m2, rfl⟩ fun p hp => ⟨p, t3 _ hp, rfl⟩))))
      have ofs := offs R₂ ext3
      have offIall : ∀ q ∈ (Wa, listOf wv.toArray nw) :: (l, listOf dv.toArray nl) :: (own ++ R₂), q.1 ≠ I := offC (Nat.ne_of_lt hIW) (offC (Nat.ne_of_lt hIl) (offA (fun q hq => Nat.ne_of_lt (hIown q (List.mem_append_left _ hq))) ofs.1))
      have offWall : ∀ q ∈ (I, it) :: (l, listOf dv.toArray nl) :: (own ++ R₂), q.1 ≠ Wa := offC (Nat.ne_of_gt hIW) (offC (Nat.ne_of_lt hWl) (offA (fun q hq => Nat.ne_of_lt (hWown q (List.mem_append_left _ hq))) ofs.2.1))
      have hlen' : ws.length + (rs.length + 1) ≤ 4 := by simpa using hlen
      k_steps
      · rename (List.any _ _ = true) => hany
        rename Fr _ _ _ _ => F9
        rename News _ _ _ _ => N9
        refine UnrEnd.intro F9 N9 ((Wa, listOf wv.toArray nw) :: (l, listOf dv.toArray nl) :: (own ++ R₂)) t4 offIall ⟨m1, hJi1 _ _ _ ⟨rs, wv, ws, nw, R₂, hrv, fun z hz => hbr z (.tail _ hz), hwv, by omega, hW, ?_, mw, ext3, rfl⟩⟩
        · rw [← hgo]
          have hc : ws.contains (wordOf d) = true := by
            rw [List.contains_iff_mem]
            obtain ⟨y, hy, e⟩ := List.any_eq_true.mp hany
            rwa [beq_iff_eq.mp e] at hy
          show _ = wordsGo rs (if ws.contains (wordOf d) then ws else ws ++ [wordOf d])
          rw [if_pos hc]
      · rename (List.any _ _ = false) => hany
        rename_i tw _ _ F9 N9
        have N10 : News g' L' _ ((Wa, listOf wv.toArray nw) :: (I, it) :: (l, listOf dv.toArray nl) :: (own ++ R₂)) := News.sub N9 (subC m5 (subC m4 t6))
        have hwvl := strs_length hwv
        refine append_K F9 N10 (Upd.head offWall) ?_ (by simp only [List.size_toArray, sizeLine]; omega)
        intro h11 F11 N11
        rw [List.push_toArray] at N11
        k_steps
        refine UnrEnd.intro F11 N11 ((Wa, listOf (wv ++ [Value.str (wordOf d) tw]).toArray (nw + 1)) :: (l, listOf dv.toArray nl) :: (own ++ R₂)) (subC m1 (subC (.head _) t2)) (offC (Nat.ne_of_lt hIW) fun q hq => offIall q (.tail _ hq)) ⟨m1, hJi1 _ _ _ ⟨rs, _, ws ++ [wordOf d], nw + 1, R₂, hrv, fun z hz => hbr z (.tail _ hz), strs_append hwv (.cons _ _ .nil), by simp; omega, ?_, ?_, mw, ext3, rfl⟩⟩
        · intro x hx
          rcases List.mem_append.mp hx with hx | hx
          · exact hW x hx
          · rw [List.mem_singleton.mp hx]; exact hj3
        · rw [← hgo]
          have hc : ¬ ws.contains (wordOf d) = true := by
            rw [List.contains_iff_mem]
            intro hm
            have : ws.any (fun x => x == wordOf d) = true := List.any_eq_true.mpr ⟨_, hm, by simp⟩
            rw [this] at hany; cases hany
          show _ = wordsGo rs (if ws.contains (wordOf d) then ws else ws ++ [wordOf d])
          rw [if_neg hc]
    · rintro i ys news hi ⟨hys, rfl⟩ v I oI C oC D₃ m₂ h tk E' hP hC hx Fe Ne o3 hne
      have hi' : i < cs.length := by rw [← hcs.length]; simpa using hi
      obtain ⟨t9, hv9⟩ := hcs.get i cs[i] (List.getElem?_eq_getElem hi')
      have hv : v = .int cs[i] t9 := by
        have hP' : cv.reverse[i]? = some v := by simpa using hP
        rw [hv9] at hP'; exact (Option.some.inj hP').symm
      subst hv
      have hnext : (cs.take (i + 1)).map letter = (cs.take i).map letter ++ [letter cs[i]] := by
        rw [List.take_add_one, List.getElem?_eq_getElem hi', List.map_append]; rfl
      generalize hci : cs[i] = ci at *
      rcases hbit ci (hci ▸ List.getElem_mem hi') with rfl | rfl
      · k_steps
        rename Fr _ _ _ _ => F9
        rename News _ _ _ _ => N9
        refine comp_end F9 N9 o3 (Or.inr ⟨_, .head _, rfl, _, rfl⟩) ⟨?_, rfl⟩
        rw [hnext]
        exact strs_append hys (.cons _ _ .nil)
      · k_steps
        rename Fr _ _ _ _ => F9
        rename News _ _ _ _ => N9
        refine comp_end F9 N9 o3 (Or.inr ⟨_, .head _, rfl, _, rfl⟩) ⟨?_, rfl⟩
        rw [hnext]
        exact strs_append hys (.cons _ _ .nil)
  · exact hJi1 _ _ _ ⟨ds, [], [], 0, R, hd, hb, .nil, by simpa using hl, (fun _ h => nomatch h), rfl, rfl, Ext.refl hT, rfl⟩
end
end Mine
end
section
open PySem PySem.W PyProof.Rows PySem.Calls
set_option maxRecDepth 100000
set_option maxHeartbeats 8000000
namespace Mine
/-- y less as many letters as x has -/
noncomputable def tl (x y : Str) : Str := Txt.slice y (some (x.length : Int)) none
theorem W_tl (x y : Str) (hx : x ∈ W15) (hy : y ∈ W15) : tl x y ∈ W15 := by
  have := all_W15₂ (P := fun x y => W15.contains (tl x y)) (by decide +kernel) x hx y hy
  simpa using this
/-- the pairs that the words begin with -/
noncomputable def initIn (x : Str) : List Str → List (Int × Str) → List (Int × Str)
  | [], xs => xs
  | y :: ys, xs => initIn x ys (if x != y && sw x y then xs ++ [((y.length : Int), tl x y)] else xs)
noncomputable def initGo (ws : List Str) : List Str → List (Int × Str) → List (Int × Str)
  | [], xs => xs
  | x :: r, xs => initGo ws r (initIn x ws xs)
noncomputable def stepIn (size : Int) (t : Str) : List Str → List (Int × Str) → List (Int × Str)
  | [], xs => xs
  | x :: r, xs => stepIn size t r (if sw t x then push pLt xs (size + (x.length : Int) - (t.length : Int), tl t x) else if sw x t then push pLt xs (size, tl x t) else xs)
noncomputable def sLoop (ws : List Str) : Nat → List (Int × Str) → List Str → Int
  | 0, _, _ => 0
  | f + 1, xs, sn =>
    if xs.length = 0 then 0
    else if (gd xs 0).2 == Str.ofString "" then (gd xs 0).1
    else if sn.any (· == (gd xs 0).2) then sLoop ws f (popL pLt xs) sn
    else sLoop ws f (stepIn (gd xs 0).1 (gd xs 0).2 ws (popL pLt xs)) (sn ++ [(gd xs 0).2])
noncomputable def shortest (ws : List Str) : Int := sLoop ws 91 (heapifyGo pLt (initGo ws ws []) ((initGo ws ws []).length / 2)) []
theorem initIn_0 {x : Str} {xs : List (Int × Str)} : initIn x [] xs = xs := rfl
theorem initIn_s {x y : Str} {ys : List Str} {xs : List (Int × Str)} : initIn x (y :: ys) xs = initIn x ys (if x != y && sw x y then xs ++ [((y.length : Int), tl x y)] else xs) := rfl
theorem initGo_0 {ws : List Str} {xs : List (Int × Str)} : initGo ws [] xs = xs := rfl
theorem initGo_s {ws r : List Str} {x : Str} {xs : List (Int × Str)} : initGo ws (x :: r) xs = initGo ws r (initIn x ws xs) := rfl
theorem stepIn_0 {size : Int} {t : Str} {xs : List (Int × Str)} : stepIn size t [] xs = xs := rfl
theorem stepIn_s {size : Int} {t x : Str} {r : List Str} {xs : List (Int × Str)} : stepIn size t (x :: r) xs = stepIn size t r (if sw t x then push pLt xs (size + (x.length : Int) - (t.length : Int), tl t x) else if sw x t then push pLt xs (size, tl x t) else xs) := rfl
theorem sLoop_s {ws sn : List Str} {f : Nat} {xs : List (Int × Str)} : sLoop ws (f + 1) xs sn = if xs.length = 0 then 0
    else if (gd xs 0).2 == Str.ofString "" then (gd xs 0).1
    else if sn.any (· == (gd xs 0).2) then sLoop ws f (popL pLt xs) sn
    else sLoop ws f (stepIn (gd xs 0).1 (gd xs 0).2 ws (popL pLt xs)) (sn ++ [(gd xs 0).2]) := rfl
theorem initIn_W {x : Str} (hx : x ∈ W15) : ∀ (ys : List Str) (xs : List (Int × Str)), (∀ y ∈ ys, y ∈ W15) → (∀ q ∈ xs, q.2 ∈ W15) → ∀ q ∈ initIn x ys xs, q.2 ∈ W15
  | [], xs, _, h => h
  | y :: ys, xs, hy, h => by
    refine initIn_W hx ys _ (fun z hz => hy z (.tail _ hz)) ?_
    split
    · intro q hq
      rcases List.mem_append.mp hq with hq | hq
      · exact h q hq
      · rw [List.mem_singleton.mp hq]; exact W_tl x y hx (hy y (.head _))
    · exact h
theorem initGo_W {ws : List Str} (hw : ∀ y ∈ ws, y ∈ W15) : ∀ (rs : List Str) (xs : List (Int × Str)), (∀ y ∈ rs, y ∈ W15) → (∀ q ∈ xs, q.2 ∈ W15) → ∀ q ∈ initGo ws rs xs, q.2 ∈ W15
  | [], xs, _, h => h
  | x :: rs, xs, hy, h => initGo_W hw rs _ (fun z hz => hy z (.tail _ hz)) (initIn_W (hy x (.head _)) ws xs hw h)
theorem nodup_snoc {α : Type} {l : List α} {a : α} (h : l.Nodup) (ha : a ∉ l) : (l ++ [a]).Nodup := by
  rw [List.nodup_append]
  refine ⟨h, by simp, fun x hx y hy e => ?_⟩
  rw [List.mem_singleton.mp hy] at e
  exact ha (e ▸ hx)
theorem nodup_le {l l' : List Str} (h : l.Nodup) (hs : ∀ x ∈ l, x ∈ l') : l.length ≤ l'.length := by
  induction l generalizing l' with
  | nil => simp
  | cons a l ih =>
    have ha := hs a (.head _)
    obtain ⟨h1, h2⟩ := List.nodup_cons.mp h
    have := ih (l' := l'.erase a) h2 (fun x hx => (List.mem_erase_of_ne (fun e => h1 (by rw [← e]; exact hx))).mpr (hs x (.tail _ hx)))
    rw [List.length_erase_of_mem ha] at this
    have hp := List.length_pos_of_mem ha
    simp only [List.length_cons]; omega
end Mine
end
section
open PySem PySem.W PyProof.Rows PySem.Calls
set_option maxRecDepth 100000
set_option maxHeartbeats 8000000
namespace Mine
local macro_rules | `(tactic| omega) => `(tactic| lia)
section

local macro_rules | `(tactic| walk_at "truthy ref") => `(tactic| (k_here; k_dflt (refine truthy_eq (h := ?_)); intros))
theorem sub2031 {α : Type _} {a b c d : α} {l : List α} : ∀ q ∈ c :: a :: d :: b :: l, q ∈ a :: b :: c :: d :: l := subC m2 (subC (.head _) (subC m3 (subC m1 t4)))
theorem sub2301 {α : Type _} {a b c d : α} {l : List α} : ∀ q ∈ c :: d :: a :: b :: l, q ∈ a :: b :: c :: d :: l := subC m2 (subC m3 (subC (.head _) (subC m1 t4)))
theorem list_nt {a : Array Value} {n : Nat} : (listOf a n).cls ≠ .type "tuple" := by simp
theorem cls_nt {P : Obj} (h : P.cls = .type "list_iterator") : P.cls ≠ .type "tuple" := by rw [h]; simp
theorem pairs_back {Z : List (Addr × Obj)} {S : Addr} {O : Obj} (hO : O.cls ≠ .type "tuple") {v : Value} {p : Int × Str} (h : PairAt ((S, O) :: Z) v p) : PairAt Z v p := by
  obtain ⟨a, t, u, n, e, hm⟩ := h
  rcases List.mem_cons.mp hm with e2 | hm
  · exact absurd (congrArg (fun p : Addr × Obj => p.2.cls) e2).symm hO
  · exact ⟨a, t, u, n, e, hm⟩
theorem pairs_mid {Z : List (Addr × Obj)} {T : Addr × Obj} {S I : Addr} {O P : Obj} (hO : O.cls ≠ .type "tuple") (hP : P.cls ≠ .type "tuple") {v : Value} {p : Int × Str} (h : PairAt (T :: (I, P) :: (S, O) :: Z) v p) : PairAt (T :: Z) v p := by
  obtain ⟨a, t, u, n, e, hm⟩ := h
  rcases List.mem_cons.mp hm with e2 | hm
  · exact ⟨a, t, u, n, e, e2 ▸ .head _⟩
  · rcases List.mem_cons.mp hm with e2 | hm
    · exact absurd (congrArg (fun p : Addr × Obj => p.2.cls) e2).symm hP
    · rcases List.mem_cons.mp hm with e2 | hm
      · exact absurd (congrArg (fun p : Addr × Obj => p.2.cls) e2).symm hO
      · exact ⟨a, t, u, n, e, .tail _ hm⟩
theorem law_shortest_does (w : World) (wl nw : Nat) (wv : List Value) (ws : List Str) (Z0 : List (Addr × Obj)) (hw : StrsAre wv ws) (hW : ∀ x ∈ ws, x ∈ W15) (hl : ws.length ≤ 4) (hm : (wl, listOf wv.toArray nw) ∈ Z0) :
    Does w 110 [.ref wl] Z0 12 220 (fun r news' => news' = Z0 ∧ ∃ t, r = .int (shortest ws) t) := by
  unfold Does; w_top off; k_fill
  intro p loose mean mg mb dp un gdc cn cs aa ccd cl outer A₀ base h₀ L m s Q E B F X N T C1 C2 hk dhp hun hQ
  (refine wpAny_call ?_; (k_dflt (refine' code_def (binds := ([(Str.ofString "words", .ref wl)])) ?k1 ?k2 ?k3 ?k4 ?k5 ?kA ?kF ?kK ?k6 ?k7 ?k8 ?k9 ?kB ?_ ?c2 ?c3 ?c4 ?c5; (case kA => exact rfl); (case kF => exact rfl); (case kK => first | assumption | exact rfl); (case k1 => k_asm); (case k2 => k_asm); (case k3 => k_asm); (case k4 => k_asm); (case k5 => k_asm); (case k6 => k_is); (case k7 => k_is); (case k8 => ktr_room); (case k9 => exact BindsTo.of_eq rfl); (case c5 => decide); (case kB => exact locs rfl); (case c2 => exact rfl); (case c3 => exact rfl); (case c4 => exact rfl); k_whole; intro g' L' h' FG' F' N' B' X' T'; (have C1' := CodeHd.up (by assumption : CodeHd _ 34 30) FG'); (have C2' := CodeHd.up (by assumption : CodeHd _ 41 37) FG'); (try dsimp only [List.reverse_cons, List.reverse_nil, List.nil_append, List.cons_append, List.length_cons, List.length_nil] at F'); (try dsimp only); (try k_fold))); refine letAQE ?_; intro A9q E9q Q9q)
  k_steps
  unfold Stop
  rename Fr _ _ _ _ => lF
  (with_unfolding_all refine' For_invVF lF ?k1 ?k2 ?_; (case k1 => exact rfl); (case k2 => exact rfl))
  k_steps
  unfold Stop
  rename Fr _ _ _ _ => F1
  rename News _ _ _ _ => N1
  rename_i H hA1 lH hA2
  have wvl := strs_length hw
  refine iter_listUnr (by rfl) F1 N1 (by k_mem) rfl rfl ?_
  intro I hI
  have hIH : H < I := hI _ (.head _)
  have hIZ : ∀ p ∈ Z0, p.1 < I := fun p hp => hI p (.tail _ hp)
  refine hide3 (α := List Value) (β := Str → Option Value) (γ := List (Addr × Obj)) (fun rv m₁ news₁ => ∃ (rs : List Str) (xs : List (Int × Str)) (hv : List Value) (nh : Nat) (Z : List (Addr × Obj)), StrsAre rv rs ∧ (∀ x ∈ rs, x ∈ W15) ∧ Rel2 (PairAt Z) hv xs ∧ xs.length + 4 * rs.length ≤ 16 ∧ initGo ws rs xs = initGo ws ws [] ∧
    m₁ (Str.ofString "words") = some (.ref wl) ∧ m₁ (Str.ofString "heap") = some (.ref H) ∧ (∀ p ∈ Z0, p ∈ Z) ∧ (∀ p ∈ Z, p.1 ≠ H) ∧ (∀ p ∈ Z, p.1 ≠ I) ∧ news₁ = (H, listOf hv.toArray nh) :: Z) ?_
  intro J1 hJi1 hJo1
  refine list_induct (J := J1) ?_ ?_ _ _ _ ?_
  · (intro m₁ news₁ hJ9; replace hJ9 := hJo1 _ _ _ hJ9; (refine ex5 hJ9 ?_; clear hJ9; intro rs xs hv nh Z hOB9; refine and11 hOB9 ?_; clear hOB9; intro hrv hbr hxs hlen hgo mw mh hsub hZH hZI eOB10; subst eOB10); intro h₁ tk₁ F2 N2)
    cases hrv
    have hgo' : xs = initGo ws ws [] := hgo
    have hmZ := hsub _ hm
    clear F1 N1
    k_steps
    (k_dflt (refine' Does.use ((heapify_does w H nh hv xs Z hxs (by simp only [List.length_nil] at hlen; omega) hZH)) ?k1 ?k2 ?k3 ?k4 ?k5 ?k6 ?k7 ?k8 ?k9 ?k10 ?_; (case k1 => k_asm); (case k2 => k_asm); (case k3 => k_asm); (case k4 => k_asm); (case k5 => k_asm); (case k6 => k_asm); (case k7 => k_asm); (case k8 => first | assumption | exact rfl); (case k9 => ktr_room); (case k10 => ktr_units)); intro r9 n9 h9 tk9 F9 N9 P9)
    obtain ⟨hv1, rfl, hxs1⟩ := P9
    have hsp := heapify_spec pLt_ord xs
    k_steps
    unfold Stop
    rename Fr _ _ _ _ => F5
    rename News _ _ _ _ => N5
    rename_i S hS1 lS hS2
    clear F2 N2
    have hSZ : ∀ p ∈ Z, p.1 ≠ S := lt_off (AllLt.out lS.2)
    have hHS : H < S := lS.1
    refine hide2 (α := Nat) (β := Shared) (fun k s' => ∃ h₁ tk₁ m₁ xs₁ hv₁ nh₁ sn sv nsn Z₁ f, s' = { s with heap := h₁, toks := tk₁ } ∧ Fr g' L' h₁ m₁ ∧ News g' L' h₁ ((S, listOf sv.toArray nsn) :: (H, listOf hv₁.toArray nh₁) :: Z₁) ∧ Rel2 (PairAt Z₁) hv₁ xs₁ ∧ HeapFrom pLt 0 xs₁ ∧ (∀ q ∈ xs₁, q.2 ∈ W15) ∧
      StrsAre sv sn ∧ sn.Nodup ∧ (∀ x ∈ sn, x ∈ W15) ∧ k = 5 * (15 - sn.length) + xs₁.length ∧ k ≤ f ∧ f ≤ 91 ∧ sLoop ws f xs₁ sn = shortest ws ∧ m₁ (Str.ofString "words") = some (.ref wl) ∧ m₁ (Str.ofString "heap") = some (.ref H) ∧ m₁ (Str.ofString "seen") = some (.ref S) ∧
      (∀ p ∈ Z0, p ∈ Z₁) ∧ (∀ p ∈ Z₁, p.1 ≠ H) ∧ (∀ p ∈ Z₁, p.1 ≠ S)) ?_
    intro J2 hJi2 hJo2
    refine while_induct (J := J2) (by passes_own) ?_ (75 + (heapifyGo pLt xs (xs.length / 2)).length) _ ?_
    · (intro k s' hJ9; replace hJ9 := hJo2 _ _ hJ9; (refine ex11 hJ9 ?_; clear hJ9; intro h₁ tk₁ m₁ xs₁ hv₁ nh₁ sn sv nsn Z₁ f hOB9; refine and19 hOB9 ?_; clear hOB9; intro eOB0 F6 N6 hxs₁ hheap hxW hsv hnd hsW hk0 hkf hf hgo₁ mw₁ mh₁ ms₁ hsub₁ hZH₁ hZS₁; subst eOB0))
      clear F5 N5
      have hlv₁ : hv₁.length = xs₁.length := hxs₁.1
      k_steps
      by_cases hx0 : xs₁.length = 0
      · refine WhlIf.no (by simp only [decide_eq_false_iff_not]; omega) ?_
        k_steps
        rename News h₀ L _ _ => kN
        refine hQ _ _ _ _ (by assumption) (News.sub kN fun q hq => .tail _ (.tail _ (hsub₁ q hq))) ⟨rfl, _, congrArg (Value.int · _) ?_⟩
        rw [← hgo₁]
        cases f with
        | zero => rfl
        | succ f => rw [sLoop_s, if_pos hx0]
      · refine WhlIf.yes (by simp only [decide_eq_true_eq]; omega) ?_
        have hxl : xs₁.length < 1000 := by omega
        k_steps
        rename News _ _ _ _ => N7
        have N8 : News g' L' _ ((H, listOf hv₁.toArray nh₁) :: (S, listOf sv.toArray nsn) :: Z₁) := News.rot1 N7
        have hoffH : ∀ p ∈ (S, listOf sv.toArray nsn) :: Z₁, p.1 ≠ H := offC (Nat.ne_of_gt hHS) hZH₁
        (k_dflt (refine' Does.use ((heappop_does w H nh₁ hv₁ xs₁ ((S, listOf sv.toArray nsn) :: Z₁) (hxs₁.mono fun v p h => h.mono fun q hq => .tail _ hq) hxl (by omega) hoffH)) ?k1 ?k2 ?k3 ?k4 ?k5 ?k6 ?k7 ?k8 ?k9 ?k10 ?_; (case k1 => k_asm); (case k2 => k_asm); (case k3 => k_asm); (case k4 => k_asm); (case k5 => k_asm); (case k6 => k_asm); (case k7 => k_asm); (case k8 => first | assumption | exact rfl); (case k9 => ktr_room); (case k10 => ktr_units)); intro r9 n9 h9 tk9 F9 N9 P9)
        (refine ex6 P9 ?_; clear P9; intro a t u n9' hv2 nh2 hOB9; refine and4 hOB9 ?_; clear hOB9; intro eOB0 hma eOB2 hxs2; subst eOB0; subst eOB2)
        obtain ⟨hp1, hp2, hp3⟩ := pop_spec pLt_ord xs₁ (by omega) hheap
        have hxs3 : Rel2 (PairAt Z₁) hv2 (popL pLt xs₁) := hxs2.mono fun v p h => pairs_back list_nt h
        have hpW : ∀ q ∈ popL pLt xs₁, q.2 ∈ W15 := fun q hq => hxW q ((hp2 q).mpr (.inr hq))
        have htW : (gd xs₁ 0).2 ∈ W15 := hxW _ (gd_mem (by omega))
        have hsl : sn.length ≤ 15 := nodup_le hnd hsW
        obtain ⟨f', rfl⟩ : ∃ f', f = f' + 1 := ⟨f - 1, by omega⟩
        rw [sLoop_s, if_neg hx0] at hgo₁
        k_steps
        · rename (_ == Str.ofString "") = true => he
          dsimp only [WPost]
          k_steps
          rename News h₀ L _ _ => kN
          refine hQ _ _ _ _ (by assumption) (News.sub kN fun q hq => .tail _ (.tail _ (hsub₁ q hq))) ⟨rfl, _, congrArg (Value.int · _) ?_⟩
          rw [if_pos he] at hgo₁
          exact hgo₁
        · rename (_ == Str.ofString "") = false => he
          rename List.any _ _ = true => hany
          rename Fr _ _ _ _ => F9
          rename News _ _ _ _ => N9
          rw [if_neg (by rw [he]; decide), if_pos hany] at hgo₁
          dsimp only [WPost]
          refine ⟨k - 1, by omega, hJi2 _ _ ⟨_, _, _, popL pLt xs₁, hv2, nh2, sn, sv, nsn, Z₁, f', rfl, F9, News.rot1 N9, hxs3, hp1, hpW, hsv, hnd, hsW, by omega, by omega, by omega, hgo₁, mw₁, mh₁, ms₁, hsub₁, hZH₁, hZS₁⟩⟩
        · rename (_ == Str.ofString "") = false => he
          rename List.any _ _ = false => hany
          rename Fr _ _ _ _ => F9
          rename News _ _ _ _ => N9
          rw [if_neg (by rw [he]; decide), if_neg (by rw [hany]; decide)] at hgo₁
          have hlsv := strs_length hsv
          have hnotin : (gd xs₁ 0).2 ∉ sn := fun hin => by
            have : sn.any (fun x => x == (gd xs₁ 0).2) = true := List.any_eq_true.mpr ⟨_, hin, by simp⟩
            rw [this] at hany; cases hany
          have hnd2 := nodup_snoc hnd hnotin
          have hsW2 : ∀ x ∈ sn ++ [(gd xs₁ 0).2], x ∈ W15 := fun x hx => (List.mem_append.mp hx).elim (hsW x) fun hx => by rw [List.mem_singleton.mp hx]; exact htW
          have hsl2 := nodup_le hnd2 hsW2
          have hW15 : W15.length = 15 := rfl
          rw [List.push_toArray] at N9
          have hmZ₁ := hsub₁ _ hm
          unfold Stop
          rename Fr _ _ _ _ => lF
          (with_unfolding_all refine' For_invVF lF ?k1 ?k2 ?_; (case k1 => exact rfl); (case k2 => exact rfl))
          k_steps
          unfold Stop
          rename Fr _ _ _ _ => F12
          rename News _ _ _ _ => N12
          generalize hsv2e : sv ++ [Value.str (xs₁.getD 0 default).2 u] = sv2 at N12
          have hsv2 : StrsAre sv2 (sn ++ [(gd xs₁ 0).2]) := by rw [← hsv2e]; exact strs_append hsv (.cons _ _ .nil)
          refine iter_listUnr (by rfl) F12 N12 (by k_mem) rfl rfl ?_
          intro I3 hI3
          have hI3H : H < I3 := hI3 _ (.head _)
          have hI3S : S < I3 := hI3 _ (.tail _ (.head _))
          have offK : ∀ Z : List (Addr × Obj), (∀ p ∈ Z, p.1 ≠ I3) → ∀ {hv nh}, ∀ q ∈ (H, listOf hv nh) :: (S, listOf sv2.toArray (nsn + 1)) :: Z, q.1 ≠ I3 := fun Z hZ hv nh => offC (Nat.ne_of_lt hI3H) (offC (Nat.ne_of_lt hI3S) hZ)
          have hpl4 : (popL pLt xs₁).length + ws.length ≤ (popL pLt xs₁).length + 4 := by omega
          generalize hsz : (gd xs₁ 0).1 = sz at *
          generalize htl : (gd xs₁ 0).2 = tt at *
          refine hide3 (α := List Value) (β := Str → Option Value) (γ := List (Addr × Obj)) (fun rv m₂ news₂ => ∃ (rs : List Str) (xs₂ : List (Int × Str)) (hv₂ : List Value) (nh₂ : Nat) (Z₂ : List (Addr × Obj)), StrsAre rv rs ∧ (∀ x ∈ rs, x ∈ W15) ∧ Rel2 (PairAt Z₂) hv₂ xs₂ ∧ HeapFrom pLt 0 xs₂ ∧ (∀ q ∈ xs₂, q.2 ∈ W15) ∧ xs₂.length + rs.length ≤ (popL pLt xs₁).length + 4 ∧ stepIn sz tt rs xs₂ = stepIn sz tt ws (popL pLt xs₁) ∧
            m₂ (Str.ofString "words") = some (.ref wl) ∧ m₂ (Str.ofString "heap") = some (.ref H) ∧ m₂ (Str.ofString "seen") = some (.ref S) ∧ m₂ (Str.ofString "size") = some (.int sz t) ∧ m₂ (Str.ofString "tail") = some (.str tt u) ∧
            (∀ p ∈ Z0, p ∈ Z₂) ∧ (∀ p ∈ Z₂, p.1 ≠ H) ∧ (∀ p ∈ Z₂, p.1 ≠ S) ∧ (∀ p ∈ Z₂, p.1 ≠ I3) ∧ news₂ = (H, listOf hv₂.toArray nh₂) :: (S, listOf sv2.toArray (nsn + 1)) :: Z₂) ?_
          intro J3 hJi3 hJo3
          refine list_induct (J := J3) ?_ ?_ _ _ _ ?_
          · (intro m₂ news₂ hJ9; replace hJ9 := hJo3 _ _ _ hJ9; (refine ex5 hJ9 ?_; clear hJ9; intro rs xs₂ hv₂ nh₂ Z₂ hOB9; refine and17 hOB9 ?_; clear hOB9; intro hrv₂ hbr₂ hxs₂ hheap₂ hxW₂ hlen₂ hgo₂ mw₂ mh₂ ms₂ mz₂ mt₂ hsub₂ hZH₂ hZS₂ hZI₂ eOB16; subst eOB16); intro h₂ tk₂ F13 N13)
            cases hrv₂
            have hgo₂' : xs₂ = stepIn sz tt ws (popL pLt xs₁) := hgo₂
            k_steps
            dsimp only [WPost]
            simp only [List.length_append, List.length_cons, List.length_nil] at hsl2 hlen₂
            refine ⟨5 * (15 - (sn ++ [tt]).length) + xs₂.length, by simp only [List.length_append, List.length_cons, List.length_nil]; omega, hJi2 _ _ ⟨_, _, _, xs₂, hv₂, nh₂, sn ++ [tt], sv2, nsn + 1, Z₂, f', rfl, F13, News.rot1 N13, hxs₂, hheap₂, hxW₂, hsv2, hnd2, hsW2, rfl, by simp only [List.length_append, List.length_cons, List.length_nil]; omega, by omega, by rw [hgo₂']; exact hgo₁, mw₂, mh₂, ms₂, hsub₂, hZH₂, hZS₂⟩⟩
          · (intro v₂ rv₂ m₂ news₂ hJ9; replace hJ9 := hJo3 _ _ _ hJ9; (refine ex5 hJ9 ?_; clear hJ9; intro rs xs₂ hv₂ nh₂ Z₂ hOB9; refine and17 hOB9 ?_; clear hOB9; intro hrv₂ hbr₂ hxs₂ hheap₂ hxW₂ hlen₂ hgo₂ mw₂ mh₂ ms₂ mz₂ mt₂ hsub₂ hZH₂ hZS₂ hZI₂ eOB16; subst eOB16); intro it₃ h₂ tk₂ hit₃ F13 N13)
            cases hrv₂ with | cons y ty hrv₂ => ?_
            rename_i rs
            have hyW := hbr₂ y (.head _)
            have hlx := W_len tt htW
            have hly := W_len y hyW
            clear F12 N12
            k_steps
            (k_dflt (refine' Does.use ((ellipsis_does w tt y _ _ _ htW hyW)) ?k1 ?k2 ?k3 ?k4 ?k5 ?k6 ?k7 ?k8 ?k9 ?k10 ?_; (case k1 => k_asm); (case k2 => k_asm); (case k3 => k_asm); (case k4 => k_asm); (case k5 => k_asm); (case k6 => k_asm); (case k7 => k_asm); (case k8 => first | assumption | exact rfl); (case k9 => ktr_room); (case k10 => ktr_units)); intro r9 n9 h9 tk9 F9 N9 P9)
            obtain ⟨rfl, rfl⟩ := P9
            k_steps
            · rename_i hsw hC ts ks hts T hB F14 N14 lT
              generalize htp : tk9 + 1 + 1 + 1 + 1 + 1 = tp at N14
              have hTp : (tl tt y) ∈ W15 := W_tl _ _ (by assumption) (by assumption)
              have N15 : News g' L' _ ((H, listOf hv₂.toArray nh₂) :: (T, tup2 (.int (sz + (y.length : Int) - (tt.length : Int)) (tp)) (.str (tl tt y) ts)) :: (I3, it₃) :: (S, listOf sv2.toArray (nsn + 1)) :: Z₂) := News.rot2 N14
              clear N14
              have hT : ∀ b, b < T → ∀ p ∈ (T, tup2 (.int (sz + (y.length : Int) - (tt.length : Int)) (tp)) (.str (tl tt y) ts)) :: Z₂, (∀ p ∈ Z₂, p.1 ≠ b) → p.1 ≠ b := fun b hb p hp h => offC (Nat.ne_of_gt hb) h p hp
              have hoff3 : ∀ p ∈ (T, tup2 (.int (sz + (y.length : Int) - (tt.length : Int)) (tp)) (.str (tl tt y) ts)) :: (I3, it₃) :: (S, listOf sv2.toArray (nsn + 1)) :: Z₂, p.1 ≠ H := offC (Nat.ne_of_gt lT.2.1) (offC (Nat.ne_of_gt hI3H) (offC (Nat.ne_of_gt hHS) hZH₂))
              simp only [List.length_append, List.length_cons, List.length_nil] at hsl2 hlen₂
              (k_dflt (refine' Does.use ((heappush_does w H nh₂ T (sz + (y.length : Int) - (tt.length : Int), tl tt y) (tp) ts 0 hv₂ xs₂ ((T, tup2 (.int (sz + (y.length : Int) - (tt.length : Int)) (tp)) (.str (tl tt y) ts)) :: (I3, it₃) :: (S, listOf sv2.toArray (nsn + 1)) :: Z₂) (hxs₂.mono fun v p h => h.mono fun q hq => .tail _ (.tail _ (.tail _ hq))) (by omega) hoff3 (.head _))) ?k1 ?k2 ?k3 ?k4 ?k5 ?k6 ?k7 ?k8 ?k9 ?k10 ?_; (case k1 => k_asm); (case k2 => k_asm); (case k3 => k_asm); (case k4 => k_asm); (case k5 => k_asm); (case k6 => k_asm); (case k7 => k_asm); (case k8 => first | assumption | exact rfl); (case k9 => ktr_room); (case k10 => ktr_units)); intro r9 n9 h9 tk9 F9 N9 P9)
              (refine ex2 P9 ?_; clear P9; intro hv3 nh3 hOB9; refine and2 hOB9 ?_; clear hOB9; intro eOB0 hxs3'; subst eOB0)
              obtain ⟨hps1, hps2, hps3⟩ := push_spec pLt_ord xs₂ (sz + (y.length : Int) - (tt.length : Int), tl tt y) hheap₂
              have hxs4 := hxs3'.mono fun v p h => pairs_mid list_nt (cls_nt hit₃) h
              k_steps
              refine UnrEnd.intro F9 N9 ((H, listOf hv3.toArray nh3) :: (S, listOf sv2.toArray (nsn + 1)) :: (T, tup2 (.int (sz + (y.length : Int) - (tt.length : Int)) (tp)) (.str (tl tt y) ts)) :: Z₂) ?_ (offK _ fun p hp => hT I3 lT.1 p hp hZI₂)
                ⟨.tail _ (.tail _ (.tail _ (hsub₂ _ hm))), hJi3 _ _ _ ⟨rs, push pLt xs₂ (sz + (y.length : Int) - (tt.length : Int), tl tt y), hv3, nh3, _, hrv₂, fun z hz => hbr₂ z (.tail _ hz), hxs4, hps1, fun q hq => ((hps2 q).mp hq).elim (hxW₂ q) (fun e => e ▸ hTp), by omega, ?_, mw₂, mh₂, ms₂, mz₂, mt₂,
                  fun p hp => .tail _ (hsub₂ p hp), fun p hp => hT H lT.2.1 p hp hZH₂, fun p hp => hT S lT.2.2.1 p hp hZS₂, fun p hp => hT I3 lT.1 p hp hZI₂, rfl⟩⟩
              · exact sub2031
              · rw [← hgo₂, stepIn_s, if_pos hsw]
            · (k_dflt (refine' Does.use ((ellipsis_does w y tt _ _ _ hyW htW)) ?k1 ?k2 ?k3 ?k4 ?k5 ?k6 ?k7 ?k8 ?k9 ?k10 ?_; (case k1 => k_asm); (case k2 => k_asm); (case k3 => k_asm); (case k4 => k_asm); (case k5 => k_asm); (case k6 => k_asm); (case k7 => k_asm); (case k8 => first | assumption | exact rfl); (case k9 => ktr_room); (case k10 => ktr_units)); intro r9 n9 h9 tk9 F9 N9 P9)
              obtain ⟨rfl, rfl⟩ := P9
              k_steps
              · rename_i hsn ts1 ks1 hts1 hsw hC ts ks hts T hB F14 N14 lT
                have hTp : (tl y tt) ∈ W15 := W_tl _ _ (by assumption) (by assumption)
                have N15 : News g' L' _ ((H, listOf hv₂.toArray nh₂) :: (T, tup2 (.int (sz) (t)) (.str (tl y tt) ts)) :: (I3, it₃) :: (S, listOf sv2.toArray (nsn + 1)) :: Z₂) := News.rot2 N14
                clear N14
                have hT : ∀ b, b < T → ∀ p ∈ (T, tup2 (.int (sz) (t)) (.str (tl y tt) ts)) :: Z₂, (∀ p ∈ Z₂, p.1 ≠ b) → p.1 ≠ b := fun b hb p hp h => offC (Nat.ne_of_gt hb) h p hp
                have hoff3 : ∀ p ∈ (T, tup2 (.int (sz) (t)) (.str (tl y tt) ts)) :: (I3, it₃) :: (S, listOf sv2.toArray (nsn + 1)) :: Z₂, p.1 ≠ H := offC (Nat.ne_of_gt lT.2.1) (offC (Nat.ne_of_gt hI3H) (offC (Nat.ne_of_gt hHS) hZH₂))
                simp only [List.length_append, List.length_cons, List.length_nil] at hsl2 hlen₂
                (k_dflt (refine' Does.use ((heappush_does w H nh₂ T (sz, tl y tt) (t) ts 0 hv₂ xs₂ ((T, tup2 (.int (sz) (t)) (.str (tl y tt) ts)) :: (I3, it₃) :: (S, listOf sv2.toArray (nsn + 1)) :: Z₂) (hxs₂.mono fun v p h => h.mono fun q hq => .tail _ (.tail _ (.tail _ hq))) (by omega) hoff3 (.head _))) ?k1 ?k2 ?k3 ?k4 ?k5 ?k6 ?k7 ?k8 ?k9 ?k10 ?_; (case k1 => k_asm); (case k2 => k_asm); (case k3 => k_asm); (case k4 => k_asm); (case k5 => k_asm); (case k6 => k_asm); (case k7 => k_asm); (case k8 => first | assumption | exact rfl); (case k9 => ktr_room); (case k10 => ktr_units)); intro r9 n9 h9 tk9 F9 N9 P9)
                (refine ex2 P9 ?_; clear P9; intro hv3 nh3 hOB9; refine and2 hOB9 ?_; clear hOB9; intro eOB0 hxs3'; subst eOB0)
                obtain ⟨hps1, hps2, hps3⟩ := push_spec pLt_ord xs₂ (sz, tl y tt) hheap₂
                have hxs4 := hxs3'.mono fun v p h => pairs_mid list_nt (cls_nt hit₃) h
                k_steps
                refine UnrEnd.intro F9 N9 ((H, listOf hv3.toArray nh3) :: (S, listOf sv2.toArray (nsn + 1)) :: (T, tup2 (.int (sz) (t)) (.str (tl y tt) ts)) :: Z₂) ?_ (offK _ fun p hp => hT I3 lT.1 p hp hZI₂)
                  ⟨.tail _ (.tail _ (.tail _ (hsub₂ _ hm))), hJi3 _ _ _ ⟨rs, push pLt xs₂ (sz, tl y tt), hv3, nh3, _, hrv₂, fun z hz => hbr₂ z (.tail _ hz), hxs4, hps1, fun q hq => ((hps2 q).mp hq).elim (hxW₂ q) (fun e => e ▸ hTp), by omega, ?_, mw₂, mh₂, ms₂, mz₂, mt₂,
                    fun p hp => .tail _ (hsub₂ p hp), fun p hp => hT H lT.2.1 p hp hZH₂, fun p hp => hT S lT.2.2.1 p hp hZS₂, fun p hp => hT I3 lT.1 p hp hZI₂, rfl⟩⟩
                · exact sub2031
                · rw [← hgo₂, stepIn_s, if_neg (by rw [hsn]; decide), if_pos hsw]
              · skip
                have hsn : sw tt y = false := by assumption
                have hsw : sw y tt = false := by assumption
                rename Fr _ _ _ _ => F14
                rename News _ _ _ _ => N14
                refine UnrEnd.intro F14 N14 ((H, listOf hv₂.toArray nh₂) :: (S, listOf sv2.toArray (nsn + 1)) :: Z₂) (fun _ h => h) (offK _ hZI₂)
                  ⟨.tail _ (.tail _ (hsub₂ _ hm)), hJi3 _ _ _ ⟨rs, xs₂, hv₂, nh₂, Z₂, hrv₂, fun z hz => hbr₂ z (.tail _ hz), hxs₂, hheap₂, hxW₂, by simp only [List.length_cons] at hlen₂; omega, ?_, mw₂, mh₂, ms₂, mz₂, mt₂, hsub₂, hZH₂, hZS₂, hZI₂, rfl⟩⟩
                rw [← hgo₂, stepIn_s, if_neg (by rw [hsn]; decide), if_neg (by rw [hsw]; decide)]
          · exact hJi3 _ _ _ ⟨ws, popL pLt xs₁, hv2, nh2, Z₁, hw, hW, hxs3, hp1, hpW, hpl4, rfl, mw₁, mh₁, ms₁, rfl, rfl, hsub₁, hZH₁, hZS₁, fun p hp => Nat.ne_of_lt (hI3 p (.tail _ (.tail _ hp))), rfl⟩
    · exact hJi2 _ _ ⟨_, _, _, _, hv1, nh, [], [], 0, Z, 91, rfl, F5, N5, hxs1, hsp.1, fun q hq => initGo_W hW ws [] hW (fun _ h => nomatch h) q (by rw [← hgo']; exact (hsp.2.1 q).mp hq), .nil, .nil, (fun _ h => nomatch h), rfl, by rw [hsp.2.2]; simp only [List.length_nil] at hlen; omega, Nat.le_refl _, by rw [hgo']; rfl, mw, mh, rfl, hsub, hZH, hSZ⟩
  · (intro v rv m₁ news₁ hJ9; replace hJ9 := hJo1 _ _ _ hJ9; (refine ex5 hJ9 ?_; clear hJ9; intro rs xs hv nh Z hOB9; refine and11 hOB9 ?_; clear hOB9; intro hrv hbr hxs hlen hgo mw mh hsub hZH hZI eOB10; subst eOB10); intro it h₁ tk₁ hit F2 N2)
    cases hrv with | cons x tx hrv => ?_
    rename_i rs
    have hxW := hbr x (.head _)
    have hmZ := hsub _ hm
    k_steps
    unfold Stop
    rename Fr _ _ _ _ => lF
    (with_unfolding_all refine' For_invVF lF ?k1 ?k2 ?_; (case k1 => exact rfl); (case k2 => exact rfl))
    k_steps
    unfold Stop
    rename Fr _ _ _ _ => F3
    rename News _ _ _ _ => N3
    refine iter_listUnr (by rfl) F3 N3 (by k_mem) rfl rfl ?_
    intro I2 hI2
    have hII : I < I2 := hI2 _ (.head _)
    have hI2H : H < I2 := hI2 _ (.tail _ (.head _))
    have offJ : ∀ Z : List (Addr × Obj), (∀ p ∈ Z, p.1 ≠ I2) → ∀ {hv nh}, ∀ q ∈ (I, it) :: (H, listOf hv nh) :: Z, q.1 ≠ I2 := fun Z hZ hv nh => offC (Nat.ne_of_lt hII) (offC (Nat.ne_of_lt hI2H) hZ)
    refine hide3 (α := List Value) (β := Str → Option Value) (γ := List (Addr × Obj)) (fun rv m₁ news₁ => ∃ (rs : List Str) (xs₁ : List (Int × Str)) (hv : List Value) (nh : Nat) (Z : List (Addr × Obj)), StrsAre rv rs ∧ (∀ x ∈ rs, x ∈ W15) ∧ Rel2 (PairAt Z) hv xs₁ ∧ xs₁.length + rs.length ≤ xs.length + 4 ∧ initIn x rs xs₁ = initIn x ws xs ∧
      m₁ (Str.ofString "words") = some (.ref wl) ∧ m₁ (Str.ofString "heap") = some (.ref H) ∧ m₁ (Str.ofString "word") = some (.str x tx) ∧ (∀ p ∈ Z0, p ∈ Z) ∧ (∀ p ∈ Z, p.1 ≠ H) ∧ (∀ p ∈ Z, p.1 ≠ I) ∧ (∀ p ∈ Z, p.1 ≠ I2) ∧ news₁ = (I, it) :: (H, listOf hv.toArray nh) :: Z) ?_
    intro J4 hJi4 hJo4
    refine list_induct (J := J4) ?_ ?_ _ _ _ ?_
    · (intro m₂ news₂ hJ9; replace hJ9 := hJo4 _ _ _ hJ9; (refine ex5 hJ9 ?_; clear hJ9; intro rs2 xs2 hv2 nh2 Z2 hOB9; refine and13 hOB9 ?_; clear hOB9; intro hrv2 hbr2 hxs2 hlen2 hgo2 mw2 mh2 mx2 hsub2 hZH2 hZI2 hZJ2 eOB12; subst eOB12); intro h₂ tk₂ F4 N4)
      cases hrv2
      have hgo2' : xs2 = initIn x ws xs := hgo2
      k_steps
      refine UnrEnd.intro F4 N4 ((H, listOf hv2.toArray nh2) :: Z2) (fun _ h => h) (offC (Nat.ne_of_lt hIH) hZI2) ⟨.tail _ (hsub2 _ hm), hJi1 _ _ _ ⟨rs, xs2, hv2, nh2, Z2, hrv, fun z hz => hbr z (.tail _ hz), hxs2, by simp only [List.length_cons, List.length_nil] at hlen hlen2; omega, ?_, mw2, mh2, hsub2, hZH2, hZI2, rfl⟩⟩
      · rw [← hgo, hgo2']; rfl
    · (intro v2 rv2 m₂ news₂ hJ9; replace hJ9 := hJo4 _ _ _ hJ9; (refine ex5 hJ9 ?_; clear hJ9; intro rs2 xs2 hv2 nh2 Z2 hOB9; refine and13 hOB9 ?_; clear hOB9; intro hrv2 hbr2 hxs2 hlen2 hgo2 mw2 mh2 mx2 hsub2 hZH2 hZI2 hZJ2 eOB12; subst eOB12); intro it2 h₂ tk₂ hit2 F4 N4)
      cases hrv2 with | cons y ty hrv2 => ?_
      rename_i rs2
      have hyW := hbr2 y (.head _)
      have hlx := W_len x hxW
      have hly := W_len y hyW
      k_steps
      · (k_dflt (refine' Does.use ((ellipsis_does w x y _ _ _ hxW hyW)) ?k1 ?k2 ?k3 ?k4 ?k5 ?k6 ?k7 ?k8 ?k9 ?k10 ?_; (case k1 => k_asm); (case k2 => k_asm); (case k3 => k_asm); (case k4 => k_asm); (case k5 => k_asm); (case k6 => k_asm); (case k7 => k_asm); (case k8 => first | assumption | exact rfl); (case k9 => ktr_room); (case k10 => ktr_units)); intro r9 n9 h9 tk9 F9 N9 P9)
        obtain ⟨rfl, rfl⟩ := P9
        k_steps
        · rename (sw x y = true) => hsw
          rename_i hxy ta ka hsz hA ts ks hts T hB F5 N5 lT
          have hxl := hxs2.1
          have N6 : News g' L' _ ((H, listOf hv2.toArray nh2) :: (T, tup2 (.int (y.length : Nat) (tk9 + 1)) (.str (tl x y) ts)) :: (I2, it2) :: (I, it) :: Z2) := News.rot3 N5
          refine append_K F5 N6 (Upd.head ?_) ?_ (by simp only [List.size_toArray, sizeLine]; simp only [List.length_cons] at hlen2 hlen; omega)
          · exact offC (Nat.ne_of_gt lT.2.2.1) (offC (Nat.ne_of_gt hI2H) (offC (Nat.ne_of_gt hIH) hZH2))
          intro h11 F11 N11
          rw [List.push_toArray] at N11
          k_steps
          have hT : ∀ b, b < T → ∀ p ∈ (T, tup2 (.int (y.length : Nat) (tk9 + 1)) (.str (tl x y) ts)) :: Z2, (∀ p ∈ Z2, p.1 ≠ b) → p.1 ≠ b := fun b hb p hp h => offC (Nat.ne_of_gt hb) h p hp
          refine UnrEnd.intro F11 N11 ((I, it) :: (H, listOf (hv2 ++ [Value.ref T]).toArray (nh2 + 1)) :: (T, tup2 (.int (y.length : Nat) (tk9 + 1)) (.str (tl x y) ts)) :: Z2) ?_ (offJ _ fun p hp => hT I2 lT.1 p hp hZJ2)
            ⟨.tail _ (.tail _ (.tail _ (hsub2 _ hm))), hJi4 _ _ _ ⟨rs2, xs2 ++ [((y.length : Int), tl x y)], _, nh2 + 1, _, hrv2, fun z hz => hbr2 z (.tail _ hz), Rel2.append (hxs2.mono fun v p h => h.mono fun q hq => .tail _ hq) (Rel2.one ⟨T, _, _, _, rfl, .head _⟩), by simp only [List.length_cons, List.length_append, List.length_nil] at hlen2 ⊢; omega, ?_, mw2, mh2, mx2,
              fun p hp => .tail _ (hsub2 p hp), fun p hp => hT H lT.2.2.1 p hp hZH2, fun p hp => hT I lT.2.1 p hp hZI2, fun p hp => hT I2 lT.1 p hp hZJ2, rfl⟩⟩
          · exact sub2301
          · rw [← hgo2]
            show _ = initIn x rs2 (if x != y && sw x y then _ else xs2)
            rw [hsw, Bool.and_true, if_pos hxy]
        · rename (sw x y = false) => hsw
          rename Fr _ _ _ _ => F5
          rename News _ _ _ _ => N5
          refine UnrEnd.intro F5 N5 ((I, it) :: (H, listOf hv2.toArray nh2) :: Z2) (fun _ h => h) ?_ ⟨.tail _ (.tail _ (hsub2 _ hm)), hJi4 _ _ _ ⟨rs2, xs2, hv2, nh2, Z2, hrv2, fun z hz => hbr2 z (.tail _ hz), hxs2, by simp only [List.length_cons] at hlen2; omega, ?_, mw2, mh2, mx2, hsub2, hZH2, hZI2, hZJ2, rfl⟩⟩
          · exact offJ Z2 hZJ2
          · rw [← hgo2]
            show _ = initIn x rs2 (if x != y && sw x y then _ else xs2)
            rw [hsw, Bool.and_false, if_neg (by decide)]
      · rename ((x != y) = false) => hne
        rename Fr _ _ _ _ => F5
        refine UnrEnd.intro F5 N4 ((I, it) :: (H, listOf hv2.toArray nh2) :: Z2) (fun _ h => h) ?_ ⟨.tail _ (.tail _ (hsub2 _ hm)), hJi4 _ _ _ ⟨rs2, xs2, hv2, nh2, Z2, hrv2, fun z hz => hbr2 z (.tail _ hz), hxs2, by simp only [List.length_cons] at hlen2; omega, ?_, mw2, mh2, mx2, hsub2, hZH2, hZI2, hZJ2, rfl⟩⟩
        · exact offJ Z2 hZJ2
        · rw [← hgo2]
          show _ = initIn x rs2 (if x != y && sw x y then _ else xs2)
          rw [hne, Bool.false_and, if_neg (by decide)]
    · exact hJi4 _ _ _ ⟨ws, xs, hv, nh, Z, hw, hW, hxs, by omega, rfl, mw, mh, rfl, hsub, hZH, hZI, fun p hp => Nat.ne_of_lt (hI2 p (.tail _ (.tail _ hp))), rfl⟩
  · exact hJi1 _ _ _ ⟨ws, [], [], 0, Z0, hw, hW, Rel2.nil, by simp; omega, rfl, rfl, rfl, fun _ h => h, fun p hp => Nat.ne_of_lt (lH p hp), fun p hp => Nat.ne_of_lt (hIZ p hp), rfl⟩
end
end Mine
end
section
open PySem PySem.W PyProof.Rows PySem.Calls
set_option maxRecDepth 100000
set_option maxHeartbeats 8000000
namespace Mine
noncomputable def readIn (word : Str) : List (Str × Int) → List (Str × Int) → List (Str × Int)
  | [], acc => acc
  | p :: r, acc => readIn word r (kdpPut acc (p.1 ++ word) (kdpLook acc (p.1 ++ word) 0 + p.2))
noncomputable def readWords (ts : List (List (Str × Int))) (size : Nat) : List Str → List (Str × Int) → List (Str × Int)
  | [], acc => acc
  | x :: r, acc => readWords ts size r (if x.length ≤ size then readIn x (ts.getD (size - x.length) []) acc else acc)
noncomputable def readGo (ws : List Str) : Nat → Nat → List (List (Str × Int)) → List (List (Str × Int))
  | 0, _, ts => ts
  | k + 1, size, ts => readGo ws k (size + 1) (ts ++ [readWords ts size ws []])
theorem readIn_0 {word : Str} {acc : List (Str × Int)} : readIn word [] acc = acc := rfl
theorem readIn_s {word : Str} {p : Str × Int} {r acc : List (Str × Int)} : readIn word (p :: r) acc = readIn word r (kdpPut acc (p.1 ++ word) (kdpLook acc (p.1 ++ word) 0 + p.2)) := rfl
theorem readWords_0 {ts : List (List (Str × Int))} {size : Nat} {acc : List (Str × Int)} : readWords ts size [] acc = acc := rfl
theorem readWords_s {ts : List (List (Str × Int))} {size : Nat} {x : Str} {r : List Str} {acc : List (Str × Int)} : readWords ts size (x :: r) acc = readWords ts size r (if x.length ≤ size then readIn x (ts.getD (size - x.length) []) acc else acc) := rfl
theorem readGo_s {ws : List Str} {k size : Nat} {ts : List (List (Str × Int))} : readGo ws (k + 1) size ts = readGo ws k (size + 1) (ts ++ [readWords ts size ws []]) := rfl
noncomputable def readings (ws : List Str) (n : Nat) : List (List (Str × Int)) := readGo ws n 1 [[(Str.ofString "", 1)]]
end Mine
end
local macro_rules | `(tactic| walk_at "pad") => `(tactic| skip)
local macro_rules | `(tactic| walk_at "pad") => `(tactic| skip)
section
open PySem PySem.W PyProof.Rows PyProof.V PySem.Calls
set_option maxRecDepth 100000
set_option maxHeartbeats 8000000
namespace Mine
section

local macro_rules | `(tactic| walk_at "subscriptTail") => `(tactic| (k_here; k_dflt (refine sub_val_led (h := ?_))))
local macro_rules | `(tactic| walk_at "binaryOp Sub int int") => `(tactic| (k_here; with_reducible refine sub_eq (h := ?_)))
/-- the object is a dict of texts to ints -/
noncomputable def DTab (w : World) (o : Obj) (c : List (Str × Int)) : Prop := ∃ kvs, o.IsDictOf (PySem.strKind rwp w) kvs ∧ FlatPairs PyData.str kvs (kdpD c)
noncomputable def TabsAre (w : World) (Z : List (Addr × Obj)) : List Value → List (List (Str × Int)) → Prop := Rel2 (fun v c => ∃ a o, v = .ref a ∧ (a == sysModules) = false ∧ (a, o) ∈ Z ∧ DTab w o c)
theorem items_induct {w : World} {A : Around} {E : Value → Shared → Prop} {s : Shared} {env : Env} {h₀ : Heap} {elts : List PySem.Expr} {kk : Nat} {pos : Pos} {body : List Stmt} {Q : Flow → Shared → Prop} {I : Addr} {lp : Addr × Obj}
    (J : List (Str × Int) → (Str → Option Value) → List (Addr × Obj) → Prop)
    (h0 : ∀ m news, J [] m news → ∀ h tk, Fr h₀ env.locals h m → News h₀ env.locals h news → Q .next { s with heap := h, toks := tk })
    (hs : ∀ (k : Str) (n : Int) r m news, J ((k, n) :: r) m news → ∀ T t t' h tk (it : Obj), it.cls = .type "dict_itemiterator" → IsTup h T #[.str k t, .int n t'] → Fr h₀ env.locals h m → News h₀ env.locals h ((I, it) :: news) →
      wpAny (model rwp w) A (assign (.Tuple elts kk pos) env (.ref T)) (fun _ s₂ => wpAny (model rwp w) A (execs body env) (UnrPostW h₀ env.locals { s with heap := h, toks := tk } [(I, it)] (fun m' n' => lp ∈ n' ∧ J r m' n') Q) E s₂) E { s with heap := h, toks := tk }) :
    ∀ (c : List (Str × Int)) m news, J c m news → ItemsRest rwp w A E h₀ env (.Tuple elts kk pos) body Q s [(I, "dict_itemiterator")] [lp] ((kdpD c).map (fun p => Itm.pairF (kyVal p.1) p.2)) m news := by
  intro c
  induction c with
  | nil => exact fun m news hJ => ItemsRest.zero (h0 m news hJ)
  | cons kn r ih =>
    obtain ⟨k, n⟩ := kn
    intro m news hJ
    refine ItemsRest.pairF fun T t x h tk hx hT F it hc N => ?_
    obtain ⟨t', rfl⟩ := PyProof.V.Flat.int_inv hx
    refine wpAny_mono (hs k n r m news hJ T t t' h tk it hc hT F N) (fun _ s₂ p => wpAny_mono p (fun f s₃ q => ?_) fun _ _ e => e) fun _ _ e => e
    have up : ∀ s₃, UnrEndW h₀ env.locals { s with heap := h, toks := tk } [(I, it)] (fun m' n' => lp ∈ n' ∧ J r m' n') s₃ → UnrEndW h₀ env.locals { s with heap := h, toks := tk } [(I, it)] (fun m' n' => SubL [lp] n' ∧ ItemsRest rwp w A E h₀ env (.Tuple elts kk pos) body Q s [(I, "dict_itemiterator")] [lp] ((kdpD r).map (fun p => Itm.pairF (kyVal p.1) p.2)) m' n') s₃ :=
      fun s₃ q => by
        (refine ex4 q ?_; clear q; intro h' tk' m' n' hOB9; refine and6 hOB9 ?_; clear hOB9; intro e F' N' off a b)
        exact ⟨h', tk', m', n', e, F', N', off, And.intro a trivial, ih m' n' b⟩
    cases f with
    | ret v => exact q
    | brk => exact q
    | next => exact up _ q
    | cont => exact up _ q
theorem mem_kdpPut {c : List (Str × Int)} {k : Str} {v : Int} {p : Str × Int} (h : p ∈ kdpPut c k v) : p.1 = k ∨ ∃ q ∈ c, q.1 = p.1 := by
  unfold kdpPut at h
  split at h
  · obtain ⟨q, hq, rfl⟩ := List.mem_map.mp h
    refine .inr ⟨q, hq, ?_⟩
    split <;> rfl
  · rcases List.mem_append.mp h with h | h
    · exact .inr ⟨p, h, rfl⟩
    · exact .inl (by rw [List.mem_singleton.mp h])
theorem law_readings_does (w : World) (wl nw : Nat) (wv : List Value) (ws : List Str) (tt : Tok) (Z0 : List (Addr × Obj)) (hw : StrsAre wv ws) (hW : ∀ x ∈ ws, 1 ≤ x.length ∧ x.length ≤ 3) (hl : ws.length ≤ 4) (hm : (wl, listOf wv.toArray nw) ∈ Z0) :
    Does w 117 [.ref wl, .int 7 tt] Z0 6 120 (fun r news' => ∃ Ta tn tv Z, r = .ref Ta ∧ news' = (Ta, listOf tv.toArray tn) :: Z ∧ TabsAre w Z tv (readings ws 7) ∧ (∀ p ∈ Z0, p ∈ Z) ∧ (∀ p ∈ Z, p.1 ≠ Ta)) := by
  unfold Does; w_top off; k_fill
  intro p loose mean mg mb dp un gdc cn cs aa ccd cl outer A₀ base h₀ L m s Q E B F X N T C1 C2 hk dhp hun hQ
  (refine wpAny_call ?_; (k_dflt (refine' code_def (binds := ([(Str.ofString "words", .ref wl), (Str.ofString "top", .int 7 tt)])) ?k1 ?k2 ?k3 ?k4 ?k5 ?kA ?kF ?kK ?k6 ?k7 ?k8 ?k9 ?kB ?_ ?c2 ?c3 ?c4 ?c5; (case kA => exact rfl); (case kF => exact rfl); (case kK => first | assumption | exact rfl); (case k1 => k_asm); (case k2 => k_asm); (case k3 => k_asm); (case k4 => k_asm); (case k5 => k_asm); (case k6 => k_is); (case k7 => k_is); (case k8 => ktr_room); (case k9 => exact BindsTo.of_eq rfl); (case c5 => decide); (case kB => exact locs rfl); (case c2 => exact rfl); (case c3 => exact rfl); (case c4 => exact rfl); k_whole; intro g' L' h' FG' F' N' B' X' T'; (have C1' := CodeHd.up (by assumption : CodeHd _ 34 30) FG'); (have C2' := CodeHd.up (by assumption : CodeHd _ 41 37) FG'); (try dsimp only [List.reverse_cons, List.reverse_nil, List.nil_append, List.cons_append, List.length_cons, List.length_nil] at F'); (try dsimp only); (try k_fold))); refine letAQE ?_; intro A9q E9q Q9q)
  k_steps
  rename_i hA oA lA loA hdA hfA apA lB hB lBA hC F1 N1
  generalize h'.objs.size = D0 at *
  have hD0 : DTab w oA [(Str.ofString "", 1)] := ⟨_, hdA, hfA⟩
  unfold Stop
  rename Fr _ _ _ _ => lF
  (with_unfolding_all refine' For_invVF lF ?k1 ?k2 ?_; (case k1 => exact rfl); (case k2 => exact rfl))
  k_steps
  all_goals (try (exfalso; (first | lia | omega)))
  rename_i kSo hD tkD t1 u1 v1 hR F2 N2 hkeep
  clear hkeep kSo
  unfold Stop
  refine iter_rangeUnr (n := 7) (by rfl) hR (by rfl) (by rfl) F2 N2 ?_
  intro I hI
  have hlBI : lB < I := hI _ (.head _)
  have hIZ : ∀ p ∈ Z0, p.1 < I := fun p hp => hI p (.tail _ (.tail _ hp))
  refine hide3 (α := Nat) (β := Str → Option Value) (γ := List (Addr × Obj)) (fun i m₁ news₁ => ∃ (ts : List (List (Str × Int))) (tv : List Value) (tn : Nat) (Z : List (Addr × Obj)), TabsAre w Z tv ts ∧ ts.length = i + 1 ∧ readGo ws (7 - i) (i + 1) ts = readings ws 7 ∧ (∀ k, k < ts.length → (ts.getD k []).length ≤ 4 ^ k ∧ ∀ p ∈ ts.getD k [], p.1.length = k) ∧
    m₁ (Str.ofString "words") = some (.ref wl) ∧ m₁ (Str.ofString "tables") = some (.ref lB) ∧ (∀ p ∈ Z0, p ∈ Z) ∧ (∀ p ∈ Z, p.1 ≠ lB) ∧ (∀ p ∈ Z, p.1 ≠ I) ∧ news₁ = (lB, listOf tv.toArray tn) :: Z) ?_
  intro J1 hJi1 hJo1
  refine range_induct (J := J1) ?_ ?_ _ _ _ _ (by rfl) ?_
  · (intro m₁ news₁ hJ9; replace hJ9 := hJo1 _ _ _ hJ9; (refine ex4 hJ9 ?_; clear hJ9; intro ts tv tn Z hOB9; refine and10 hOB9 ?_; clear hOB9; intro hts htl hgo hbd mw mt hsub hZT hZI eOB9; subst eOB9); intro h₁ tk₁ F3 N3)
    k_steps
    rename Fr h₀ L _ _ => kF
    rename News h₀ L _ _ => kN
    have hgo' : ts = readings ws 7 := hgo
    exact hQ _ _ _ _ kF kN ⟨lB, tn, tv, Z, rfl, rfl, hgo' ▸ hts, hsub, hZT⟩
  · (intro i m₁ news₁ hi hJ9; replace hJ9 := hJo1 _ _ _ hJ9; (refine ex4 hJ9 ?_; clear hJ9; intro ts tv tn Z hOB9; refine and10 hOB9 ?_; clear hOB9; intro hts htl hgo hbd mw mt hsub hZT hZI eOB9; subst eOB9); intro t₁ h₁ tk₁ F3 N3)
    have hmZ := hsub _ hm
    k_steps
    rename_i DT hD1 oD F4 N4 loD hsD fsD hiD fiD lD hD2 F5 N5
    clear hiD fiD F4 N4
    have hDZ : ∀ p ∈ Z, p.1 < DT := AllLt.out lD.2.2
    unfold Stop
    rename Fr _ _ _ _ => lF
    (with_unfolding_all refine' For_invVF lF ?k1 ?k2 ?_; (case k1 => exact rfl); (case k2 => exact rfl))
    k_steps
    unfold Stop
    rename Fr _ _ _ _ => F6
    rename News _ _ _ _ => N6
    refine iter_listUnr (by rfl) F6 N6 (by k_mem) rfl rfl ?_
    intro I2 hI2
    have hI2D : DT < I2 := hI2 _ (.head _)
    have hI2I : I < I2 := hI2 _ (.tail _ (.head _))
    have hI2B : lB < I2 := hI2 _ (.tail _ (.tail _ (.head _)))
    have hI2Z : ∀ p ∈ Z, p.1 < I2 := fun p hp => hI2 _ (.tail _ (.tail _ (.tail _ hp)))
    refine hide3 (α := List Value) (β := Str → Option Value) (γ := List (Addr × Obj)) (fun rv m₂ news₂ => ∃ (rs : List Str) (acc : List (Str × Int)) (o : Obj), StrsAre rv rs ∧ (∀ x ∈ rs, 1 ≤ x.length ∧ x.length ≤ 3) ∧ DTab w o acc ∧ acc.length + rs.length * 4 ^ i ≤ 4 * 4 ^ i ∧ (∀ p ∈ acc, p.1.length = i + 1) ∧ readWords ts (i + 1) rs acc = readWords ts (i + 1) ws [] ∧
      m₂ (Str.ofString "words") = some (.ref wl) ∧ m₂ (Str.ofString "tables") = some (.ref lB) ∧ m₂ (Str.ofString "table") = some (.ref DT) ∧ m₂ (Str.ofString "size") = some (.int (1 + (i : Int)) t₁) ∧
      news₂ = (DT, o) :: (I, itR (1 + ((i + 1 : Nat) : Int)) (((7 : Nat) : Int) - ((i + 1 : Nat) : Int))) :: (lB, listOf tv.toArray tn) :: Z) ?_
    intro J2 hJi2 hJo2
    refine list_induct (J := J2) ?_ ?_ _ _ _ ?_
    · (intro m₂ news₂ hJ9; replace hJ9 := hJo2 _ _ _ hJ9; (refine ex3 hJ9 ?_; clear hJ9; intro rs acc o hOB9; refine and11 hOB9 ?_; clear hOB9; intro hrv hbr hD hal hak hra mw2 mt2 mk2 mz2 eOB10; subst eOB10); intro h₂ tk₂ F7 N7)
      cases hrv
      have hra' : acc = readWords ts (i + 1) ws [] := hra
      k_steps
      have N8 : News g' L' h₂ ((lB, listOf tv.toArray tn) :: (DT, o) :: (I, itR (1 + ((i + 1 : Nat) : Int)) (((7 : Nat) : Int) - ((i + 1 : Nat) : Int))) :: Z) := News.rot2 N7
      refine append_K F7 N8 (Upd.head ?_) ?_ (by have := hts.1; simp only [List.size_toArray, sizeLine]; (first | lia | omega))
      · exact offC (Nat.ne_of_gt lD.2.1) (offC (Nat.ne_of_gt hlBI) hZT)
      intro h11 F11 N11
      rw [List.push_toArray] at N11
      k_steps
      refine UnrEnd.intro F11 N11 ((lB, listOf (tv ++ [Value.ref DT]).toArray (tn + 1)) :: (DT, o) :: Z) ?_ ?_
        (hJi1 _ _ _ ⟨ts ++ [readWords ts (i + 1) ws []], tv ++ [.ref DT], tn + 1, (DT, o) :: Z, Rel2.append (hts.mono fun v c ⟨a, o, e1, e2, e3, e4⟩ => ⟨a, o, e1, e2, .tail _ e3, e4⟩) (Rel2.one ⟨DT, o, rfl, loD, .head _, hra' ▸ hD⟩), by simp [htl], ?_, ?_, mw2, mt2, fun p hp => .tail _ (hsub p hp), ?_, ?_, rfl⟩)
      · exact subC m2 (subC (.head _) (subC m1 t3))
      · exact offC (Nat.ne_of_lt hlBI) (offC (Nat.ne_of_gt lD.1) hZI)
      · have e : 7 - i = (7 - (i + 1)) + 1 := by (first | lia | omega)
        rw [e] at hgo
        exact hgo
      · intro k hk
        rw [List.length_append, htl] at hk
        simp only [List.length_cons, List.length_nil] at hk hal
        by_cases hk2 : k < ts.length
        · have e : (ts ++ [readWords ts (i + 1) ws []]).getD k [] = ts.getD k [] := by
            simp only [List.getD_eq_getElem?_getD, List.getElem?_append_left hk2]
          rw [e]; exact hbd k hk2
        · have e2 : k = i + 1 := by (first | lia | omega)
          have e : (ts ++ [readWords ts (i + 1) ws []]).getD k [] = acc := by
            rw [hra', e2, ← htl]; simp
          rw [e, e2]
          refine ⟨?_, hak⟩
          rw [Nat.pow_succ]; (first | lia | omega)
      · exact offC (Nat.ne_of_gt lD.2.1) hZT
      · exact offC (Nat.ne_of_gt lD.1) hZI
    · (intro v₂ rv₂ m₂ news₂ hJ9; replace hJ9 := hJo2 _ _ _ hJ9; (refine ex3 hJ9 ?_; clear hJ9; intro rs acc o hOB9; refine and11 hOB9 ?_; clear hOB9; intro hrv hbr hD hal hak hra mw2 mt2 mk2 mz2 eOB10; subst eOB10); intro it₂ h₂ tk₂ hit₂ F7 N7)
      cases hrv with | cons x tx hrv => ?_
      rename_i rs
      obtain ⟨hx1, hx3⟩ := hbr x (.head _)
      have offJ : ∀ o, ∀ q ∈ (DT, o) :: (I, itR (1 + ((i + 1 : Nat) : Int)) (((7 : Nat) : Int) - ((i + 1 : Nat) : Int))) :: (lB, listOf tv.toArray tn) :: Z, q.1 ≠ I2 := fun o => offC (Nat.ne_of_lt hI2D) (offC (Nat.ne_of_lt hI2I) (offC (Nat.ne_of_lt hI2B) fun q hq => Nat.ne_of_lt (hI2Z q hq)))
      k_steps
      · rename_i hle
        have hlt : i + 1 - x.length < ts.length := by (first | lia | omega)
        have e1 : (1 + (i : Int)) - (x.length : Int) = ((i + 1 - x.length : Nat) : Int) := by (first | lia | omega)
        obtain ⟨va, hva, DA, oA2, rfl, loA2, hmA, hdA2⟩ := hts.get (k := i + 1 - x.length) (x := ts.getD (i + 1 - x.length) []) (by rw [List.getD_eq_getElem?_getD, List.getElem?_eq_getElem hlt]; rfl)
        obtain ⟨hb1, hb2⟩ := hbd _ hlt
        generalize hce : ts.getD (i + 1 - x.length) [] = c at *
        obtain ⟨kvs2, hdk2, hfk2⟩ := hdA2
        have N8 : News g' L' h₂ ((DA, oA2) :: (I2, it₂) :: (DT, o) :: (I, itR (1 + ((i + 1 : Nat) : Int)) (((7 : Nat) : Int) - ((i + 1 : Nat) : Int))) :: (lB, listOf tv.toArray tn) :: Z) := News.sub N7 (subC (t4 _ hmA) fun _ h => h)
        clear N7
        unfold Stop
        rename Fr _ _ _ _ => lF
        (with_unfolding_all refine' For_turns lF ?_)
        k_steps
        rename_i V hE F9 N9 lV
        clear N8
        unfold Stop
        have hDAD : DA < DT := hDZ _ hmA
        have N10 : News g' L' hE ((DT, o) :: (DA, oA2) :: (I2, it₂) :: (I, itR (1 + ((i + 1 : Nat) : Int)) (((7 : Nat) : Int) - ((i + 1 : Nat) : Int))) :: (lB, listOf tv.toArray tn) :: Z) := News.sub N9 (subC m3 (subC m1 (subC m2 t4)))
        refine kti_items (knd := PySem.strKind _ _) (enc := PyData.str) (by rfl) F9 N10 ⟨_, (N9 _ (.head _)).1, rfl, rfl⟩ (TabAt.ofNews N9 (.tail _ (.head _)) loA2 hdk2 hfk2) (.tail _ (.head _)) (fun _ _ h => Value.isStrOf_shape h) rfl ?_
        intro I4 hI4
        have h4 : 4 ^ i ≤ 4096 := Nat.pow_le_pow_right (by decide) (by (first | lia | omega) : i ≤ 6)
        have h5 : 4 ^ (i + 1 - x.length) ≤ 4 ^ i := Nat.pow_le_pow_right (by decide) (by (first | lia | omega))
        have hI4D : DT < I4 := hI4 _ (.head _)
        have hRD : ∀ p ∈ (DA, oA2) :: (I2, it₂) :: (I, itR (1 + ((i + 1 : Nat) : Int)) (((7 : Nat) : Int) - ((i + 1 : Nat) : Int))) :: (lB, listOf tv.toArray tn) :: Z, p.1 ≠ DT := offC (Nat.ne_of_lt hDAD) (offC (Nat.ne_of_gt hI2D) (offC (Nat.ne_of_lt lD.1) (offC (Nat.ne_of_lt lD.2.1) fun q hq => Nat.ne_of_lt (hDZ q hq))))
        have hRI : ∀ p ∈ (DA, oA2) :: (I2, it₂) :: (I, itR (1 + ((i + 1 : Nat) : Int)) (((7 : Nat) : Int) - ((i + 1 : Nat) : Int))) :: (lB, listOf tv.toArray tn) :: Z, p.1 < I4 := fun q hq => hI4 q (.tail _ hq)
        have hRm : (DA, oA2) ∈ (DA, oA2) :: (I2, it₂) :: (I, itR (1 + ((i + 1 : Nat) : Int)) (((7 : Nat) : Int) - ((i + 1 : Nat) : Int))) :: (lB, listOf tv.toArray tn) :: Z := .head _
        have hRback : ∀ (o' : Obj), ∀ q ∈ (I2, it₂) :: (DT, o') :: (I, itR (1 + ((i + 1 : Nat) : Int)) (((7 : Nat) : Int) - ((i + 1 : Nat) : Int))) :: (lB, listOf tv.toArray tn) :: Z, q ∈ (DT, o') :: (DA, oA2) :: (I2, it₂) :: (I, itR (1 + ((i + 1 : Nat) : Int)) (((7 : Nat) : Int) - ((i + 1 : Nat) : Int))) :: (lB, listOf tv.toArray tn) :: Z := fun o' => subC m2 (subC (.head _) t3)
        have hst : (fun y => if y = Str.ofString "word" then some (Value.str x tx) else m₂ y) (Str.ofString "words") = some (.ref wl) := mw2
        simp only [List.length_cons, Nat.add_mul, Nat.one_mul] at hal
        generalize hRe : (DA, oA2) :: (I2, it₂) :: (I, itR (1 + ((i + 1 : Nat) : Int)) (((7 : Nat) : Int) - ((i + 1 : Nat) : Int))) :: (lB, listOf tv.toArray tn) :: Z = R at hRD hRI hRm hRback
        refine hide3 (α := List (Str × Int)) (β := Str → Option Value) (γ := List (Addr × Obj)) (fun r m₃ news₃ => ∃ (acc' : List (Str × Int)) (o' : Obj), DTab w o' acc' ∧ acc'.length + r.length + rs.length * 4 ^ i ≤ 4 * 4 ^ i ∧ (∀ p ∈ acc', p.1.length = i + 1) ∧ (∀ p ∈ r, p.1.length = i + 1 - x.length) ∧ readIn x r acc' = readIn x c acc ∧
          m₃ (Str.ofString "words") = some (.ref wl) ∧ m₃ (Str.ofString "tables") = some (.ref lB) ∧ m₃ (Str.ofString "table") = some (.ref DT) ∧ m₃ (Str.ofString "size") = some (.int (1 + (i : Int)) t₁) ∧ m₃ (Str.ofString "word") = some (.str x tx) ∧ news₃ = (DT, o') :: R) ?_
        intro J3 hJi3 hJo3
        refine items_induct (w := w) (I := I4) (lp := (DA, oA2)) (J := J3) ?_ ?_ _ _ _ ?_
        · (intro m₃ news₃ hJ9; replace hJ9 := hJo3 _ _ _ hJ9; (refine ex2 hJ9 ?_; clear hJ9; intro acc' o' hOB9; refine and11 hOB9 ?_; clear hOB9; intro hD3 hal3 hak3 hrk3 hre3 mw3 mt3 mk3 mz3 mx3 eOB10; subst eOB10); intro h₃ tk₃ F10 N10)
          have hre' : acc' = readIn x c acc := hre3
          k_steps
          refine UnrEnd.intro F10 (News.sub N10 (hRback o')) ((DT, o') :: (I, itR (1 + ((i + 1 : Nat) : Int)) (((7 : Nat) : Int) - ((i + 1 : Nat) : Int))) :: (lB, listOf tv.toArray tn) :: Z) (fun _ h => h) (offJ o') ⟨t3 _ hmZ, hJi2 _ _ _ ⟨rs, acc', o', hrv, fun z hz => hbr z (.tail _ hz), hD3, ?_, hak3, ?_, mw3, mt3, mk3, mz3, rfl⟩⟩
          · simp only [List.length_nil] at hal3; (first | lia | omega)
          · rw [← hra, readWords_s, if_pos (by (first | lia | omega)), hce, hre']
        · (intro kx nx r m₃ news₃ hJ9; replace hJ9 := hJo3 _ _ _ hJ9; (refine ex2 hJ9 ?_; clear hJ9; intro acc' o' hOB9; refine and11 hOB9 ?_; clear hOB9; intro hD3 hal3 hak3 hrk3 hre3 mw3 mt3 mk3 mz3 mx3 eOB10; subst eOB10); intro T4 t4 t4' h₃ tk₃ it4 hit4 hT4 F10 N10)
          have hkl : kx.length = i + 1 - x.length := hrk3 _ (.head _)
          obtain ⟨kvs3, hdk3, hfk3⟩ := hD3
          have hoff4 : ∀ p ∈ R, p.1 ≠ DT := hRD
          clear hdk2 hfk2 hsD fsD
          k_steps
          rename_i hlen1 _ _ _ hlen2
          rename Fr _ _ _ _ => F12
          rename News _ _ _ _ => N12
          refine kdp_setItem (c := acc') F12 N12 (UpdF.tail (Nat.ne_of_gt hI4D) (UpdF.head hRD)) hdk3 hfk3 (by (first | lia | omega)) ?_
          intro h5 o5 kvs5 F13 N13 hdk5 hfk5
          k_steps
          have hpl := kdpPut_len acc' (kx ++ x) (kdpLook acc' (kx ++ x) 0 + nx)
          refine ⟨h5, _, _, (DT, o5) :: R, rfl, F13, N13, ?_, .tail _ hRm, hJi3 _ _ _ ⟨_, o5, ⟨kvs5, hdk5, hfk5⟩, ?_, ?_, fun q hq => hrk3 q (.tail _ hq), hre3, mw3, mt3, mk3, mz3, mx3, rfl⟩⟩
          · intro q hq q' hq'
            rw [List.mem_singleton.mp hq']
            exact offC (Nat.ne_of_lt hI4D) (fun q hq => Nat.ne_of_lt (hRI q hq)) q hq
          · simp only [List.length_cons] at hal3; (first | lia | omega)
          · intro q hq
            rcases mem_kdpPut hq with e | ⟨q', hq', e⟩
            · rw [e]; (first | lia | omega)
            · rw [← e]; exact hak3 q' hq'
        · exact hJi3 _ _ _ ⟨acc, o, hD, by (first | lia | omega), hak, hb2, rfl, mw2, mt2, mk2, mz2, rfl, rfl⟩
      · rename_i hle
        rename Fr _ _ _ _ => F8
        refine UnrEnd.intro F8 N7 _ (fun _ h => h) (offJ o) ⟨t3 _ hmZ, hJi2 _ _ _ ⟨rs, acc, o, hrv, fun z hz => hbr z (.tail _ hz), hD, ?_, hak, ?_, mw2, mt2, mk2, mz2, rfl⟩⟩
        · simp only [List.length_cons, Nat.add_mul] at hal; (first | lia | omega)
        · rw [← hra, readWords_s, if_neg (by (first | lia | omega))]
    · exact hJi2 _ _ _ ⟨ws, [], oD, hw, hW, ⟨_, hsD, fsD⟩, by simp only [List.length_nil, Nat.zero_add]; exact Nat.mul_le_mul_right _ hl, (fun _ h => nomatch h), rfl, mw, mt, rfl, rfl, rfl⟩
  · refine hJi1 _ _ _ ⟨[[(Str.ofString "", 1)]], [.ref D0], 0, (D0, oA) :: Z0, Rel2.one ⟨D0, oA, rfl, loA, .head _, hD0⟩, rfl, rfl, ?_, rfl, rfl, fun p hp => .tail _ hp, ?_, ?_, rfl⟩
    · intro k hk
      have : k = 0 := by simp at hk; (first | lia | omega)
      subst this
      simp
      rfl
    · exact offC (Nat.ne_of_lt lBA.1) (lt_off (AllLt.out lBA.2))
    · exact offC (Nat.ne_of_lt (hI _ m1)) fun p hp => Nat.ne_of_lt (hIZ p hp)
end
end Mine
end
section
open PySem PySem.W PyProof.Rows PySem.Calls
set_option maxRecDepth 100000
set_option maxHeartbeats 8000000
namespace Mine
section
variable {α : Type}
/-- what hangs over (t), of two readings with other first words; s: the length of the longer -/
inductive Tails (W : List (List α)) : Nat → List α → Prop
  | init {x y t : List α} : x ∈ W → y ∈ W → x ≠ y → y = x ++ t → Tails W y.length t
  | step1 {s : Nat} {t x u : List α} : Tails W s t → t ≠ [] → x ∈ W → x = t ++ u → Tails W (s + u.length) u
  | step2 {s : Nat} {t x u : List α} : Tails W s t → t ≠ [] → x ∈ W → t = x ++ u → Tails W s u
/-- us is a reading -/
noncomputable def Rd (W : List (List α)) (us : List (List α)) : Prop := ∀ x ∈ us, x ∈ W
/-- two readings of one text of length n -/
noncomputable def Amb (W : List (List α)) (n : Nat) : Prop := ∃ us vs, Rd W us ∧ Rd W vs ∧ us ≠ vs ∧ us.flatten = vs.flatten ∧ us.flatten.length = n
theorem Rd.nil {W : List (List α)} : Rd W [] := fun _ h => nomatch h
theorem Rd.snoc {W us : List (List α)} {x : List α} (h : Rd W us) (hx : x ∈ W) : Rd W (us ++ [x]) := fun y hy => by
  rcases List.mem_append.mp hy with hy | hy
  · exact h y hy
  · rw [List.mem_singleton.mp hy]; exact hx
theorem Rd.tail {W us : List (List α)} {x : List α} (h : Rd W (x :: us)) : Rd W us := fun y hy => h y (.tail _ hy)
theorem Rd.head {W us : List (List α)} {x : List α} (h : Rd W (x :: us)) : x ∈ W := h x (.head _)
theorem Tails.sound {W : List (List α)} {s : Nat} {t : List α} (h : Tails W s t) :
    ∃ a us b vs, Rd W (a :: us) ∧ Rd W (b :: vs) ∧ a ≠ b ∧ (a :: us).flatten = (b :: vs).flatten ++ t ∧ (a :: us).flatten.length = s := by
  induction h with
  | @init x y t hx hy hne e =>
    refine ⟨y, [], x, [], fun z hz => ?_, fun z hz => ?_, Ne.symm hne, by simpa using e, by simp⟩
    · rw [List.mem_singleton.mp hz]; exact hy
    · rw [List.mem_singleton.mp hz]; exact hx
  | @step1 s t x u _ _ hx e ih =>
    obtain ⟨a, us, b, vs, h1, h2, h3, h4, h5⟩ := ih
    have e1 : (b :: (vs ++ [x])).flatten = (a :: us).flatten ++ u := by
      rw [h4, e]; simp [List.flatten_append, List.append_assoc]
    refine ⟨b, vs ++ [x], a, us, h2.snoc hx, h1, Ne.symm h3, e1, ?_⟩
    rw [e1, List.length_append, h5]
  | @step2 s t x u _ _ hx e ih =>
    obtain ⟨a, us, b, vs, h1, h2, h3, h4, h5⟩ := ih
    refine ⟨a, us, b, vs ++ [x], h1, h2.snoc hx, h3, ?_, h5⟩
    rw [h4, e]; simp [List.flatten_append, List.append_assoc]
theorem Tails.amb {W : List (List α)} {n : Nat} (h : Tails W n []) : Amb W n := by
  obtain ⟨a, us, b, vs, h1, h2, h3, h4, h5⟩ := h.sound
  exact ⟨a :: us, b :: vs, h1, h2, fun e => h3 (List.cons.inj e).1, by rw [h4, List.append_nil], h5⟩
theorem Tails.close {W : List (List α)} : ∀ (k : Nat) (s : Nat) (t : List α) (us vs : List (List α)), us.length + vs.length = k → Tails W s t → t ≠ [] → Rd W us → Rd W vs → t ++ us.flatten = vs.flatten →
    ∃ s', Tails W s' [] ∧ s' ≤ s + us.flatten.length := by
  intro k
  induction k with
  | zero =>
    intro s t us vs hk hT ht hu hv e
    have h1 : vs = [] := List.eq_nil_of_length_eq_zero (by (first | lia | omega))
    subst h1
    exact absurd (List.append_eq_nil_iff.mp e).1 ht
  | succ k ih =>
    intro s t us vs hk hT ht hu hv e
    cases vs with
    | nil => exact absurd (List.append_eq_nil_iff.mp e).1 ht
    | cons x vs =>
      have hx := hv.head
      rw [List.flatten_cons] at e
      rcases List.append_eq_append_iff.mp e with ⟨u, e1, e2⟩ | ⟨u, e1, e2⟩
      · -- x = t ++ u, us.flatten = u ++ vs.flatten
        have hT' := Tails.step1 hT ht hx e1
        by_cases hu0 : u = []
        · subst hu0
          refine ⟨_, hT', ?_⟩
          simp
        · obtain ⟨s', h1, h2⟩ := ih (s + u.length) u vs us (by simp only [List.length_cons] at hk; (first | lia | omega)) hT' hu0 hv.tail hu e2.symm
          refine ⟨s', h1, ?_⟩
          rw [e2, List.length_append]; (first | lia | omega)
      · -- t = x ++ u, vs.flatten = u ++ us.flatten
        have hT' := Tails.step2 hT ht hx e1
        by_cases hu0 : u = []
        · subst hu0
          exact ⟨_, hT', by (first | lia | omega)⟩
        · exact ih s u us vs (by simp only [List.length_cons] at hk; (first | lia | omega)) hT' hu0 hu hv.tail e2.symm
theorem Amb.tails {W : List (List α)} (hW : ∀ x ∈ W, x ≠ []) {n : Nat} (h : Amb W n) : ∃ s, Tails W s [] ∧ s ≤ n := by
  obtain ⟨us, vs, hu, hv, hne, e, hn⟩ := h
  induction us generalizing vs n with
  | nil =>
    cases vs with
    | nil => exact absurd rfl hne
    | cons y vs =>
      have := e.symm
      rw [List.flatten_cons, List.flatten_nil, List.append_eq_nil_iff] at this
      exact absurd this.1 (hW y hv.head)
  | cons x us ih =>
    cases vs with
    | nil =>
      rw [List.flatten_cons, List.flatten_nil, List.append_eq_nil_iff] at e
      exact absurd e.1 (hW x hu.head)
    | cons y vs =>
      by_cases hxy : x = y
      · subst hxy
        have e' : us.flatten = vs.flatten := by simpa [List.flatten_cons] using e
        obtain ⟨s, h1, h2⟩ := ih vs hu.tail hv.tail (fun h => hne (by rw [h])) e' rfl
        refine ⟨s, h1, ?_⟩
        rw [← hn, List.flatten_cons, List.length_append]; (first | lia | omega)
      · rw [List.flatten_cons, List.flatten_cons] at e
        rw [List.flatten_cons] at hn
        rcases List.append_eq_append_iff.mp e with ⟨t, e1, e2⟩ | ⟨t, e1, e2⟩
        · -- y = x ++ t, us.flatten = t ++ vs.flatten
          have hT := Tails.init hu.head hv.head hxy e1
          have ht : t ≠ [] := fun h0 => hxy (by rw [e1, h0, List.append_nil])
          obtain ⟨s, h1, h2⟩ := Tails.close _ y.length t vs us rfl hT ht hv.tail hu.tail e2.symm
          refine ⟨s, h1, Nat.le_trans h2 ?_⟩
          rw [← hn, ← List.length_append, ← e, List.length_append]; exact Nat.le_refl _
        · -- x = y ++ t, vs.flatten = t ++ us.flatten
          have hT := Tails.init hv.head hu.head (Ne.symm hxy) e1
          have ht : t ≠ [] := fun h0 => hxy (by rw [e1, h0, List.append_nil])
          obtain ⟨s, h1, h2⟩ := Tails.close _ x.length t us vs rfl hT ht hu.tail hv.tail e2.symm
          exact ⟨s, h1, Nat.le_trans h2 (by rw [← hn, List.length_append]; exact Nat.le_refl _)⟩

theorem flatMap_ext {β γ : Type} {l : List β} {f g : β → List γ} (h : ∀ x ∈ l, f x = g x) : l.flatMap f = l.flatMap g := by
  induction l with
  | nil => rfl
  | cons a l ih => rw [List.flatMap_cons, List.flatMap_cons, h a (.head _), ih fun x hx => h x (.tail _ hx)]
/-- all readings of length n (f: fuel, n or more) -/
noncomputable def Rds (W : List (List α)) : Nat → Nat → List (List (List α))
  | _, 0 => [[]]
  | 0, _ + 1 => []
  | f + 1, n + 1 => W.flatMap fun x => if x.length ≤ n + 1 then (Rds W f (n + 1 - x.length)).map (· ++ [x]) else []
theorem Rds_z {W : List (List α)} (f : Nat) : Rds W f 0 = [[]] := by cases f <;> rfl
theorem Rds_0 {W : List (List α)} (n : Nat) : Rds W 0 (n + 1) = [] := rfl
theorem Rds_s {W : List (List α)} (f n : Nat) : Rds W (f + 1) (n + 1) = W.flatMap fun x => if x.length ≤ n + 1 then (Rds W f (n + 1 - x.length)).map (· ++ [x]) else [] := rfl
theorem Rds_fuel {W : List (List α)} (hW : ∀ x ∈ W, 1 ≤ x.length) : ∀ (n f g : Nat), n ≤ f → n ≤ g → Rds W f n = Rds W g n := by
  intro n
  induction n using Nat.strongRecOn with | _ n ih => ?_
  intro f g hf hg
  cases n with
  | zero => cases f <;> cases g <;> rfl
  | succ n =>
    cases f with
    | zero => (first | lia | omega)
    | succ f =>
      cases g with
      | zero => (first | lia | omega)
      | succ g =>
        simp only [Rds_s]
        refine flatMap_ext fun x hx => ?_
        have := hW x hx
        split
        · rw [ih (n + 1 - x.length) (by (first | lia | omega)) f g (by (first | lia | omega)) (by (first | lia | omega))]
        · rfl
theorem mem_Rds {W : List (List α)} (hW : ∀ x ∈ W, 1 ≤ x.length) : ∀ (n f : Nat), n ≤ f → ∀ us, us ∈ Rds W f n ↔ Rd W us ∧ us.flatten.length = n := by
  intro n
  induction n using Nat.strongRecOn with | _ n ih => ?_
  intro f hf us
  cases n with
  | zero =>
    have e : Rds W f 0 = [[]] := by cases f <;> rfl
    rw [e, List.mem_singleton]
    constructor
    · rintro rfl; exact ⟨Rd.nil, rfl⟩
    · rintro ⟨h, e⟩
      cases us with
      | nil => rfl
      | cons x us =>
        have := hW x h.head
        rw [List.flatten_cons, List.length_append] at e; (first | lia | omega)
  | succ n =>
    cases f with
    | zero => (first | lia | omega)
    | succ f =>
      simp only [Rds_s, List.mem_flatMap]
      constructor
      · rintro ⟨x, hx, hm⟩
        have hx1 := hW x hx
        split at hm
        · rename_i hle
          obtain ⟨vs, hvs, rfl⟩ := List.mem_map.mp hm
          obtain ⟨h1, h2⟩ := (ih (n + 1 - x.length) (by (first | lia | omega)) f (by (first | lia | omega)) vs).mp hvs
          refine ⟨h1.snoc hx, ?_⟩
          rw [List.flatten_append, List.length_append, h2]
          simp; (first | lia | omega)
        · cases hm
      · rintro ⟨h, e⟩
        rcases List.eq_nil_or_concat us with rfl | ⟨vs, x, rfl⟩
        · simp at e
        · rw [List.concat_eq_append] at *
          have hx : x ∈ W := h x (by simp)
          have hx1 := hW x hx
          rw [List.flatten_append, List.length_append] at e
          simp only [List.flatten_cons, List.flatten_nil, List.append_nil] at e
          refine ⟨x, hx, ?_⟩
          rw [if_pos (by (first | lia | omega))]
          exact List.mem_map.mpr ⟨vs, (ih (n + 1 - x.length) (by (first | lia | omega)) f (by (first | lia | omega)) vs).mpr ⟨fun y hy => h y (by simp [hy]), by (first | lia | omega)⟩, rfl⟩
theorem nodup_flatMap {β γ : Type} {l : List β} {f : β → List γ} (h : l.Nodup) (h1 : ∀ a ∈ l, (f a).Nodup) (h2 : ∀ a ∈ l, ∀ b ∈ l, a ≠ b → ∀ x ∈ f a, x ∉ f b) : (l.flatMap f).Nodup := by
  induction l with
  | nil => simp
  | cons a l ih =>
    obtain ⟨ha, hl⟩ := List.nodup_cons.mp h
    rw [List.flatMap_cons, List.nodup_append]
    refine ⟨h1 a (.head _), ih hl (fun b hb => h1 b (.tail _ hb)) (fun b hb c hc => h2 b (.tail _ hb) c (.tail _ hc)), ?_⟩
    intro x hx y hy e
    subst e
    obtain ⟨b, hb, hxb⟩ := List.mem_flatMap.mp hy
    exact h2 a (.head _) b (.tail _ hb) (fun e => ha (by rw [e]; exact hb)) x hx hxb
theorem nodup_map_on {β γ : Type} {l : List β} {f : β → γ} (h : l.Nodup) (hi : ∀ a ∈ l, ∀ b ∈ l, f a = f b → a = b) : (l.map f).Nodup := by
  induction l with
  | nil => simp
  | cons a l ih =>
    obtain ⟨ha, hl⟩ := List.nodup_cons.mp h
    rw [List.map_cons, List.nodup_cons]
    refine ⟨fun hm => ?_, ih hl fun b hb c hc => hi b (.tail _ hb) c (.tail _ hc)⟩
    obtain ⟨b, hb, e⟩ := List.mem_map.mp hm
    exact ha (by rw [← hi b (.tail _ hb) a (.head _) e]; exact hb)
theorem inj_of_nodup_map {β γ : Type} {l : List β} {f : β → γ} (h : (l.map f).Nodup) : ∀ a ∈ l, ∀ b ∈ l, f a = f b → a = b := by
  induction l with
  | nil => intro a ha; cases ha
  | cons c l ih =>
    rw [List.map_cons, List.nodup_cons] at h
    intro a ha b hb e
    rcases List.mem_cons.mp ha with ea | ha <;> rcases List.mem_cons.mp hb with eb | hb
    · rw [ea, eb]
    · exact absurd (List.mem_map.mpr ⟨b, hb, by rw [← ea, e]⟩) h.1
    · exact absurd (List.mem_map.mpr ⟨a, ha, by rw [← eb, e]⟩) h.1
    · exact ih h.2 a ha b hb e
theorem nodup_Rds {W : List (List α)} (hN : W.Nodup) : ∀ (f n : Nat), (Rds W f n).Nodup := by
  intro f
  induction f with
  | zero => intro n; cases n <;> simp [Rds_z, Rds_0]
  | succ f ih =>
    intro n
    cases n with
    | zero => simp [Rds_z]
    | succ n =>
      simp only [Rds_s]
      refine nodup_flatMap hN ?_ ?_
      · intro x _
        split
        · exact nodup_map_on (ih _) fun a _ b _ e => List.append_cancel_right e
        · simp
      · intro x _ y _ hne us h1 h2
        split at h1
        · split at h2
          · obtain ⟨a, _, e1⟩ := List.mem_map.mp h1
            obtain ⟨b, _, e2⟩ := List.mem_map.mp h2
            have e := e1.trans e2.symm
            have := List.append_inj' e rfl
            exact hne (by simpa using this.2)
          · cases h2
        · cases h1
/-- the texts of the readings -/
noncomputable def Txs (W : List (List α)) (n : Nat) : List (List α) := (Rds W n n).map List.flatten
theorem Txs_nodup {W : List (List α)} (hW : ∀ x ∈ W, 1 ≤ x.length) (hN : W.Nodup) (n : Nat) : (Txs W n).Nodup ↔ ¬ Amb W n := by
  unfold Txs
  constructor
  · rintro h ⟨us, vs, hu, hv, hne, e, hn⟩
    exact hne (inj_of_nodup_map h us ((mem_Rds hW n n (Nat.le_refl _) us).mpr ⟨hu, hn⟩) vs ((mem_Rds hW n n (Nat.le_refl _) vs).mpr ⟨hv, by rw [← e]; exact hn⟩) e)
  · intro h
    refine nodup_map_on (nodup_Rds hN n n) fun a ha b hb e => ?_
    obtain ⟨a1, a2⟩ := (mem_Rds hW n n (Nat.le_refl _) a).mp ha
    obtain ⟨b1, b2⟩ := (mem_Rds hW n n (Nat.le_refl _) b).mp hb
    exact Classical.byContradiction fun hne => h ⟨a, b, a1, b1, hne, e, a2⟩
theorem Txs_zero (W : List (List α)) : Txs W 0 = [[]] := rfl
theorem Txs_succ {W : List (List α)} (hW : ∀ x ∈ W, 1 ≤ x.length) (n : Nat) : Txs W (n + 1) = W.flatMap fun x => if x.length ≤ n + 1 then (Txs W (n + 1 - x.length)).map (· ++ x) else [] := by
  unfold Txs
  simp only [Rds_s]
  rw [List.map_flatMap]
  refine flatMap_ext fun x hx => ?_
  have hx1 := hW x hx
  split
  · rw [Rds_fuel hW (n + 1 - x.length) n (n + 1 - x.length) (by (first | lia | omega)) (Nat.le_refl _), List.map_map, List.map_map]
    refine List.map_congr_left fun us _ => ?_
    simp [List.flatten_append]
  · rfl
end
end Mine
end
section
open PySem PySem.W PyProof.Rows PySem.Calls
set_option maxRecDepth 100000
set_option maxHeartbeats 8000000
namespace Mine
noncomputable abbrev lst (x : Str) : List Nat := x.cps.toList
theorem lst_inj {x y : Str} (h : lst x = lst y) : x = y := by
  cases x; cases y
  have := Array.toList_inj.mp h
  simp only at this
  rw [this]
theorem lst_len (x : Str) : (lst x).length = x.length := rfl
theorem lst_nil {x : Str} (h : lst x = []) : x = Str.ofString "" := lst_inj (h.trans rfl)
theorem lst_append (x y : Str) : lst (x ++ y) = lst x ++ lst y := by
  show (x.cps ++ y.cps).toList = _
  rw [Array.toList_append]
theorem W_lst_tl (x y : Str) (hx : x ∈ W15) (hy : y ∈ W15) : lst (tl x y) = (lst y).drop (lst x).length := by
  have := all_W15₂ (P := fun x y => decide (lst (tl x y) = (lst y).drop (lst x).length)) (by decide +kernel) x hx y hy
  simpa using this
theorem sw_iff {x y : Str} (hx : x ∈ W15) (hy : y ∈ W15) : sw x y = true ↔ lst y = lst x ++ lst (tl x y) := by
  rw [W_lst_tl x y hx hy]
  unfold sw
  rw [List.isPrefixOf_iff_prefix, List.prefix_iff_eq_append]
  exact ⟨Eq.symm, Eq.symm⟩
theorem sw_of {x y : Str} {u : List Nat} (hx : x ∈ W15) (hy : y ∈ W15) (h : lst y = lst x ++ u) : sw x y = true ∧ lst (tl x y) = u := by
  have h1 : sw x y = true := by
    unfold sw
    rw [List.isPrefixOf_iff_prefix]
    exact ⟨u, h.symm⟩
  refine ⟨h1, ?_⟩
  have := (sw_iff hx hy).mp h1
  rw [h] at this
  exact (List.append_cancel_left this).symm
theorem sw_len {x y : Str} (hx : x ∈ W15) (hy : y ∈ W15) (h : sw x y = true) : y.length = x.length + (tl x y).length := by
  have := congrArg List.length ((sw_iff hx hy).mp h)
  rw [List.length_append] at this
  exact this

theorem mem_initIn (x : Str) (q : Int × Str) : ∀ (ys : List Str) (xs : List (Int × Str)), q ∈ initIn x ys xs ↔ q ∈ xs ∨ ∃ y ∈ ys, x ≠ y ∧ sw x y = true ∧ q = ((y.length : Int), tl x y)
  | [], xs => by simp [initIn_0]
  | y :: ys, xs => by
    rw [initIn_s, mem_initIn x q ys]
    by_cases h : (x != y && sw x y) = true
    · rw [if_pos h]
      have h' : x ≠ y ∧ sw x y = true := by simpa using h
      rw [List.mem_append, List.mem_singleton]
      constructor
      · rintro ((h1 | h1) | ⟨z, hz, h1⟩)
        · exact .inl h1
        · exact .inr ⟨y, .head _, h'.1, h'.2, h1⟩
        · exact .inr ⟨z, .tail _ hz, h1⟩
      · rintro (h1 | ⟨z, hz, h1⟩)
        · exact .inl (.inl h1)
        · rcases List.mem_cons.mp hz with rfl | hz
          · exact .inl (.inr h1.2.2)
          · exact .inr ⟨z, hz, h1⟩
    · rw [if_neg h]
      constructor
      · rintro (h1 | ⟨z, hz, h1⟩)
        · exact .inl h1
        · exact .inr ⟨z, .tail _ hz, h1⟩
      · rintro (h1 | ⟨z, hz, h1⟩)
        · exact .inl h1
        · rcases List.mem_cons.mp hz with rfl | hz
          · exact absurd (by simpa using ⟨h1.1, h1.2.1⟩) h
          · exact .inr ⟨z, hz, h1⟩
theorem mem_initGo (ws : List Str) (q : Int × Str) : ∀ (rs : List Str) (xs : List (Int × Str)), q ∈ initGo ws rs xs ↔ q ∈ xs ∨ ∃ x ∈ rs, ∃ y ∈ ws, x ≠ y ∧ sw x y = true ∧ q = ((y.length : Int), tl x y)
  | [], xs => by simp [initGo_0]
  | x :: rs, xs => by
    rw [initGo_s, mem_initGo ws q rs, mem_initIn]
    constructor
    · rintro ((h | h) | ⟨z, hz, h⟩)
      · exact .inl h
      · exact .inr ⟨x, .head _, h⟩
      · exact .inr ⟨z, .tail _ hz, h⟩
    · rintro (h | ⟨z, hz, h⟩)
      · exact .inl (.inl h)
      · rcases List.mem_cons.mp hz with rfl | hz
        · exact .inl (.inr h)
        · exact .inr ⟨z, hz, h⟩
theorem initIn_len (x : Str) : ∀ (ys : List Str) (xs : List (Int × Str)), (initIn x ys xs).length ≤ xs.length + ys.length
  | [], xs => by simp [initIn_0]
  | y :: ys, xs => by
    rw [initIn_s]
    refine Nat.le_trans (initIn_len x ys _) ?_
    split <;> simp <;> (first | lia | omega)
theorem initGo_len (ws : List Str) : ∀ (rs : List Str) (xs : List (Int × Str)), (initGo ws rs xs).length ≤ xs.length + rs.length * ws.length
  | [], xs => by simp [initGo_0]
  | x :: rs, xs => by
    rw [initGo_s]
    refine Nat.le_trans (initGo_len ws rs _) ?_
    have := initIn_len x ws xs
    rw [List.length_cons, Nat.succ_mul]; (first | lia | omega)
/-- what the word x makes of the tail (size, t) -/
noncomputable def Foll (size : Int) (t x : Str) (q : Int × Str) : Prop := (sw t x = true ∧ q = (size + (x.length : Int) - (t.length : Int), tl t x)) ∨ (sw t x = false ∧ sw x t = true ∧ q = (size, tl x t))
theorem stepIn_spec (size : Int) (t : Str) : ∀ (rs : List Str) (xs : List (Int × Str)), HeapFrom pLt 0 xs →
    HeapFrom pLt 0 (stepIn size t rs xs) ∧ (∀ q, q ∈ stepIn size t rs xs ↔ q ∈ xs ∨ ∃ x ∈ rs, Foll size t x q) ∧ (stepIn size t rs xs).length ≤ xs.length + rs.length
  | [], xs, h => ⟨h, fun q => by simp [stepIn_0], by simp [stepIn_0]⟩
  | x :: rs, xs, h => by
    rw [stepIn_s]
    have one : ∀ (zs : List (Int × Str)), (∀ q, q ∈ zs ↔ q ∈ xs ∨ Foll size t x q) → HeapFrom pLt 0 zs → zs.length ≤ xs.length + 1 →
        HeapFrom pLt 0 (stepIn size t rs zs) ∧ (∀ q, q ∈ stepIn size t rs zs ↔ q ∈ xs ∨ ∃ y ∈ x :: rs, Foll size t y q) ∧ (stepIn size t rs zs).length ≤ xs.length + (x :: rs).length := by
      intro zs h1 h2 h3
      obtain ⟨g1, g2, g3⟩ := stepIn_spec size t rs zs h2
      refine ⟨g1, fun q => ?_, by rw [List.length_cons]; (first | lia | omega)⟩
      rw [g2 q, h1 q]
      constructor
      · rintro ((h | h) | ⟨z, hz, h⟩)
        · exact .inl h
        · exact .inr ⟨x, .head _, h⟩
        · exact .inr ⟨z, .tail _ hz, h⟩
      · rintro (h | ⟨z, hz, h⟩)
        · exact .inl (.inl h)
        · rcases List.mem_cons.mp hz with rfl | hz
          · exact .inl (.inr h)
          · exact .inr ⟨z, hz, h⟩
    by_cases h1 : sw t x = true
    · rw [if_pos h1]
      obtain ⟨p1, p2, p3⟩ := push_spec pLt_ord xs (size + (x.length : Int) - (t.length : Int), tl t x) h
      refine one _ (fun q => ?_) p1 (by (first | lia | omega))
      rw [p2 q]
      constructor
      · rintro (h | h)
        · exact .inl h
        · exact .inr (.inl ⟨h1, h⟩)
      · rintro (h | h | h)
        · exact .inl h
        · exact .inr h.2
        · rw [h1] at h; cases h.1
    · rw [if_neg h1]
      have h1' : sw t x = false := by simpa using h1
      by_cases h2 : sw x t = true
      · rw [if_pos h2]
        obtain ⟨p1, p2, p3⟩ := push_spec pLt_ord xs (size, tl x t) h
        refine one _ (fun q => ?_) p1 (by (first | lia | omega))
        rw [p2 q]
        constructor
        · rintro (h | h)
          · exact .inl h
          · exact .inr (.inr ⟨h1', h2, h⟩)
        · rintro (h | h | h)
          · exact .inl h
          · exact absurd h.1 h1
          · exact .inr h.2.2
      · rw [if_neg h2]
        refine one _ (fun q => ?_) h (by (first | lia | omega))
        constructor
        · exact .inl
        · rintro (h | h | h)
          · exact h
          · exact absurd h.1 h1
          · exact absurd h.2.1 h2
theorem pLt_le {p q : Int × Str} (h : pLt p q = false) : q.1 ≤ p.1 := by
  unfold pLt at h
  by_cases e : p.1 = q.1
  · (first | lia | omega)
  · have : (p.1 == q.1) = false := by simpa using e
    rw [this] at h
    simp only [Bool.false_eq_true, if_false, decide_eq_false_iff_not] at h
    (first | lia | omega)
section
variable {ws : List Str}
noncomputable def TP (ws : List Str) (q : Int × Str) : Prop := q.2 ∈ W15 ∧ ∃ s : Nat, q.1 = (s : Int) ∧ Tails (ws.map lst) s (lst q.2)
noncomputable def Cov (xs D : List (Int × Str)) (q : Int × Str) : Prop := q ∈ xs ∨ ∃ d ∈ D, d.2 = q.2 ∧ d.1 ≤ q.1
theorem TP.init (hw : ∀ x ∈ ws, x ∈ W15) {x y : Str} (hx : x ∈ ws) (hy : y ∈ ws) (hne : x ≠ y) (h : sw x y = true) : TP ws ((y.length : Int), tl x y) :=
  ⟨W_tl x y (hw x hx) (hw y hy), y.length, rfl, Tails.init (List.mem_map_of_mem hx) (List.mem_map_of_mem hy) (fun e => hne (lst_inj e)) ((sw_iff (hw x hx) (hw y hy)).mp h)⟩
theorem TP.foll (hw : ∀ x ∈ ws, x ∈ W15) {size : Int} {t x : Str} {q : Int × Str} (hx : x ∈ ws) (h : TP ws (size, t)) (ht : t ≠ Str.ofString "") (hf : Foll size t x q) : TP ws q ∧ size ≤ q.1 := by
  obtain ⟨h1, s, h2, h3⟩ := h
  have ht' : lst t ≠ [] := fun e => ht (lst_nil e)
  simp only at h1 h2 h3
  rcases hf with ⟨a, rfl⟩ | ⟨_, a, rfl⟩
  · have hlen := sw_len h1 (hw x hx) a
    refine ⟨⟨W_tl t x h1 (hw x hx), s + (tl t x).length, ?_, ?_⟩, ?_⟩
    · simp only; rw [h2]; (first | lia | omega)
    · exact Tails.step1 h3 ht' (List.mem_map_of_mem hx) ((sw_iff h1 (hw x hx)).mp a)
    · simp only; (first | lia | omega)
  · refine ⟨⟨W_tl x t (hw x hx) h1, s, h2, ?_⟩, Int.le_refl _⟩
    exact Tails.step2 h3 ht' (List.mem_map_of_mem hx) ((sw_iff (hw x hx) h1).mp a)
/-- every tail is ahead, or has been met as short -/
theorem tails_cov (hw : ∀ x ∈ ws, x ∈ W15) {xs D : List (Int × Str)} (hD : ∀ d ∈ D, TP ws d ∧ d.2 ≠ Str.ofString "")
    (hI : ∀ x ∈ ws, ∀ y ∈ ws, x ≠ y → sw x y = true → Cov xs D ((y.length : Int), tl x y))
    (hF : ∀ d ∈ D, ∀ x ∈ ws, ∀ q, Foll d.1 d.2 x q → Cov xs D q) {s : Nat} {t : List Nat} (h : Tails (ws.map lst) s t) :
    ∃ t' ∈ W15, lst t' = t ∧ ((∃ q ∈ xs, q.1 ≤ (s : Int)) ∨ ∃ d ∈ D, d.2 = t' ∧ d.1 ≤ (s : Int)) := by
  have cov : ∀ (q : Int × Str) (s : Nat), Cov xs D q → q.1 ≤ (s : Int) → (∃ q ∈ xs, q.1 ≤ (s : Int)) ∨ ∃ d ∈ D, d.2 = q.2 ∧ d.1 ≤ (s : Int) := by
    rintro q s (h | ⟨d, h1, h2, h3⟩) hs
    · exact .inl ⟨q, h, hs⟩
    · exact .inr ⟨d, h1, h2, by (first | lia | omega)⟩
  induction h with
  | @init x y t hx hy hne e =>
    obtain ⟨x, hxw, rfl⟩ := List.mem_map.mp hx
    replace hx := hxw
    clear hxw
    obtain ⟨y, hyw, rfl⟩ := List.mem_map.mp hy
    replace hy := hyw
    clear hyw
    obtain ⟨h1, h2⟩ := sw_of (hw x hx) (hw y hy) e
    refine ⟨tl x y, W_tl x y (hw x hx) (hw y hy), h2, ?_⟩
    exact cov ((y.length : Int), tl x y) _ (hI x hx y hy (fun e => hne (by rw [e])) h1) (Int.le_refl _)
  | @step1 s t x u _ ht hx e ih =>
    obtain ⟨t', ht', rfl, ih⟩ := ih
    obtain ⟨x, hxw, rfl⟩ := List.mem_map.mp hx
    replace hx := hxw
    clear hxw
    obtain ⟨h1, h2⟩ := sw_of ht' (hw x hx) e
    refine ⟨tl t' x, W_tl t' x ht' (hw x hx), h2, ?_⟩
    rcases ih with ⟨q, hq, hs⟩ | ⟨d, hd, rfl, hs⟩
    · exact .inl ⟨q, hq, by (first | lia | omega)⟩
    · have hlen := sw_len ht' (hw x hx) h1
      have hu : u.length = (tl d.2 x).length := by rw [← h2]; rfl
      exact cov (d.1 + (x.length : Int) - (d.2.length : Int), tl d.2 x) _ (hF d hd x hx _ (.inl ⟨h1, rfl⟩)) (by simp only; (first | lia | omega))
  | @step2 s t x u _ ht hx e ih =>
    obtain ⟨t', ht', rfl, ih⟩ := ih
    obtain ⟨x, hxw, rfl⟩ := List.mem_map.mp hx
    replace hx := hxw
    clear hxw
    obtain ⟨h1, h2⟩ := sw_of (hw x hx) ht' e
    refine ⟨tl x t', W_tl x t' (hw x hx) ht', h2, ?_⟩
    rcases ih with ⟨q, hq, hs⟩ | ⟨d, hd, rfl, hs⟩
    · exact .inl ⟨q, hq, hs⟩
    · by_cases hb : sw d.2 x = true
      · -- both begin with each other: they are one
        have e1 := sw_len ht' (hw x hx) hb
        have e2 := sw_len (hw x hx) ht' h1
        have e3 : tl d.2 x = tl x d.2 := (W_nil _ (W_tl _ _ ht' (hw x hx)) (by (first | lia | omega))).trans (W_nil _ (W_tl _ _ (hw x hx) ht') (by (first | lia | omega))).symm
        have := cov (d.1 + (x.length : Int) - (d.2.length : Int), tl d.2 x) s (hF d hd x hx _ (.inl ⟨hb, rfl⟩)) (by simp only; (first | lia | omega))
        simp only [e3] at this
        exact this
      · exact cov (d.1, tl x d.2) s (hF d hd x hx _ (.inr ⟨by simpa using hb, h1, rfl⟩)) hs
/-- r tells the shortest text of two readings -/
noncomputable def Least (ws : List Str) (r : Int) : Prop := (∃ s : Nat, 0 < s ∧ r = (s : Int) ∧ Tails (ws.map lst) s [] ∧ ∀ s', Tails (ws.map lst) s' [] → s ≤ s') ∨ (r = 0 ∧ ∀ s', ¬ Tails (ws.map lst) s' [])
theorem tails_pos (h0 : ∀ x ∈ ws, 1 ≤ x.length) {s : Nat} {t : List Nat} (h : Tails (ws.map lst) s t) : 0 < s := by
  obtain ⟨a, us, b, vs, h1, _, _, _, h5⟩ := h.sound
  obtain ⟨x, hx, e⟩ := List.mem_map.mp h1.head
  have := h0 x hx
  have e2 : a.length = x.length := by rw [← e]; rfl
  rw [← h5, List.flatten_cons, List.length_append]; (first | lia | omega)
theorem sLoop_spec (hw : ∀ x ∈ ws, x ∈ W15) (h0 : ∀ x ∈ ws, 1 ≤ x.length) (hl : ws.length ≤ 4) : ∀ (f : Nat) (xs D : List (Int × Str)) (sn : List Str), D.map Prod.snd = sn → sn.Nodup → HeapFrom pLt 0 xs → (∀ q ∈ xs, TP ws q) → (∀ d ∈ D, TP ws d ∧ d.2 ≠ Str.ofString "") →
    (∀ d ∈ D, ∀ q ∈ xs, d.1 ≤ q.1) → (∀ x ∈ ws, ∀ y ∈ ws, x ≠ y → sw x y = true → Cov xs D ((y.length : Int), tl x y)) → (∀ d ∈ D, ∀ x ∈ ws, ∀ q, Foll d.1 d.2 x q → Cov xs D q) →
    5 * (15 - sn.length) + xs.length ≤ f → Least ws (sLoop ws f xs sn) := by
  have none : ∀ (D : List (Int × Str)), (∀ d ∈ D, TP ws d ∧ d.2 ≠ Str.ofString "") → (∀ x ∈ ws, ∀ y ∈ ws, x ≠ y → sw x y = true → Cov [] D ((y.length : Int), tl x y)) → (∀ d ∈ D, ∀ x ∈ ws, ∀ q, Foll d.1 d.2 x q → Cov [] D q) → Least ws 0 := by
    intro D hD hI hF
    refine .inr ⟨rfl, fun s' hs' => ?_⟩
    obtain ⟨t', _, e, ⟨q, hq, _⟩ | ⟨d, hd, e2, _⟩⟩ := tails_cov hw hD hI hF hs'
    · cases hq
    · exact (hD d hd).2 (e2.trans (lst_nil e))
  intro f
  induction f with
  | zero =>
    intro xs D sn _ _ _ _ hD _ hI hF hfu
    have : xs = [] := List.eq_nil_of_length_eq_zero (by (first | lia | omega))
    subst this
    exact none D hD hI hF
  | succ f ih =>
    intro xs D sn hsn hnd hH hT hD hc hI hF hfu
    rw [sLoop_s]
    by_cases hx : xs.length = 0
    · rw [if_pos hx]
      have : xs = [] := List.eq_nil_of_length_eq_zero hx
      subst this
      exact none D hD hI hF
    · rw [if_neg hx]
      have hm : gd xs 0 ∈ xs := gd_mem (by (first | lia | omega))
      have hmin := fun q hq => pLt_le (heap_min pLt_ord xs hH q hq)
      obtain ⟨hp1, hp2, hp3⟩ := pop_spec pLt_ord xs (by (first | lia | omega)) hH
      have hTm := hT _ hm
      generalize gd xs 0 = m at hm hmin hp2 hTm ⊢
      have hsub : ∀ q ∈ popL pLt xs, q ∈ xs := fun q hq => (hp2 q).mpr (.inr hq)
      by_cases he : (m.2 == Str.ofString "") = true
      · rw [if_pos he]
        have he' : m.2 = Str.ofString "" := by simpa using he
        obtain ⟨_, s, e1, e2⟩ := hTm
        rw [he'] at e2
        refine .inl ⟨s, tails_pos h0 e2, e1, e2, fun s' hs' => ?_⟩
        obtain ⟨t', _, e, ⟨q, hq, hle⟩ | ⟨d, hd, e3, _⟩⟩ := tails_cov hw hD hI hF hs'
        · have := hmin q hq
          (first | lia | omega)
        · exact absurd (e3.trans (lst_nil e)) (hD d hd).2
      · rw [if_neg he]
        have he' : m.2 ≠ Str.ofString "" := by simpa using he
        by_cases hs : sn.any (· == m.2) = true
        · rw [if_pos hs]
          obtain ⟨t, ht, e⟩ := List.any_eq_true.mp hs
          have e' : t = m.2 := by simpa using e
          rw [← hsn] at ht
          obtain ⟨d, hd, e2⟩ := List.mem_map.mp ht
          have cov : ∀ q, Cov xs D q → Cov (popL pLt xs) D q := by
            rintro q (h | h)
            · rcases (hp2 q).mp h with rfl | h
              · exact .inr ⟨d, hd, e2.trans e', hc d hd q hm⟩
              · exact .inl h
            · exact .inr h
          exact ih (popL pLt xs) D sn hsn hnd hp1 (fun q hq => hT q (hsub q hq)) hD (fun d hd q hq => hc d hd q (hsub q hq)) (fun x hx y hy h1 h2 => cov _ (hI x hx y hy h1 h2)) (fun d hd x hx q hq => cov _ (hF d hd x hx q hq)) (by (first | lia | omega))
        · rw [if_neg hs]
          have hsn2 : m.2 ∉ sn := fun h => hs (List.any_eq_true.mpr ⟨m.2, h, by simp⟩)
          have hnd2 := nodup_snoc hnd hsn2
          have hsnW : ∀ x ∈ sn ++ [m.2], x ∈ W15 := by
            intro x hx
            rcases List.mem_append.mp hx with hx | hx
            · rw [← hsn] at hx
              obtain ⟨d, hd, rfl⟩ := List.mem_map.mp hx
              exact (hD d hd).1.1
            · rw [List.mem_singleton.mp hx]; exact hTm.1
          have hlen := nodup_le hnd2 hsnW
          have h15 : W15.length = 15 := by decide
          obtain ⟨g1, g2, g3⟩ := stepIn_spec m.1 m.2 ws (popL pLt xs) hp1
          have cov : ∀ q, Cov xs D q → Cov (stepIn m.1 m.2 ws (popL pLt xs)) (D ++ [m]) q := by
            rintro q (h | ⟨d, hd, h⟩)
            · rcases (hp2 q).mp h with rfl | h
              · exact .inr ⟨q, by simp, rfl, Int.le_refl _⟩
              · exact .inl ((g2 q).mpr (.inl h))
            · exact .inr ⟨d, by simp [hd], h⟩
          refine ih _ (D ++ [m]) (sn ++ [m.2]) (by simp [hsn]) hnd2 g1 ?_ ?_ ?_ (fun x hx y hy h1 h2 => cov _ (hI x hx y hy h1 h2)) ?_ ?_
          · intro q hq
            rcases (g2 q).mp hq with h | ⟨x, hx, h⟩
            · exact hT q (hsub q h)
            · exact (TP.foll hw hx hTm he' h).1
          · intro d hd
            rcases List.mem_append.mp hd with hd | hd
            · exact hD d hd
            · rw [List.mem_singleton.mp hd]; exact ⟨hTm, he'⟩
          · have hmq : ∀ q ∈ stepIn m.1 m.2 ws (popL pLt xs), m.1 ≤ q.1 := by
              intro q hq
              rcases (g2 q).mp hq with h | ⟨x, hx, h⟩
              · exact hmin q (hsub q h)
              · exact (TP.foll hw hx hTm he' h).2
            intro d hd q hq
            rcases List.mem_append.mp hd with hd | hd
            · exact Int.le_trans (hc d hd m hm) (hmq q hq)
            · rw [List.mem_singleton.mp hd]; exact hmq q hq
          · intro d hd x hx q hq
            rcases List.mem_append.mp hd with hd | hd
            · exact cov _ (hF d hd x hx q hq)
            · rw [List.mem_singleton.mp hd] at hq
              exact .inl ((g2 q).mpr (.inr ⟨x, hx, hq⟩))
          · rw [List.length_append] at hlen ⊢
            simp only [List.length_cons, List.length_nil] at hlen ⊢
            (first | lia | omega)
theorem shortest_least (hw : ∀ x ∈ ws, x ∈ W15) (h0 : ∀ x ∈ ws, 1 ≤ x.length) (hl : ws.length ≤ 4) : Least ws (shortest ws) := by
  obtain ⟨h1, h2, h3⟩ := heapify_spec pLt_ord (initGo ws ws [])
  have hlen := initGo_len ws ws []
  have h16 : ws.length * ws.length ≤ 4 * 4 := Nat.mul_le_mul hl hl
  unfold shortest
  refine sLoop_spec hw h0 hl 91 _ [] [] rfl List.nodup_nil h1 ?_ (fun d hd => nomatch hd) (fun d hd => nomatch hd) ?_ (fun d hd => nomatch hd) ?_
  · intro q hq
    rcases (mem_initGo ws q ws []).mp ((h2 q).mp hq) with h | ⟨x, hx, y, hy, a, b, rfl⟩
    · cases h
    · exact TP.init hw hx hy a b
  · intro x hx y hy a b
    exact .inl ((h2 _).mpr ((mem_initGo ws _ ws []).mpr (.inr ⟨x, hx, y, hy, a, b, rfl⟩)))
  · rw [h3]
    simp only [List.length_nil] at hlen ⊢
    (first | lia | omega)
/-- .. as of readings -/
theorem shortest_amb (hw : ∀ x ∈ ws, x ∈ W15) (h0 : ∀ x ∈ ws, 1 ≤ x.length) (hl : ws.length ≤ 4) :
    (∃ s : Nat, 0 < s ∧ shortest ws = (s : Int) ∧ Amb (ws.map lst) s ∧ ∀ s', Amb (ws.map lst) s' → s ≤ s') ∨ (shortest ws = 0 ∧ ∀ s', ¬ Amb (ws.map lst) s') := by
  have hne : ∀ x ∈ ws.map lst, x ≠ [] := by
    intro x hx e
    obtain ⟨y, hy, rfl⟩ := List.mem_map.mp hx
    have := h0 y hy
    have h2 : y.length = 0 := by rw [← lst_len, e]; rfl
    (first | lia | omega)
  rcases shortest_least hw h0 hl with ⟨s, a, b, c, d⟩ | ⟨a, b⟩
  · refine .inl ⟨s, a, b, c.amb, fun s' h => ?_⟩
    obtain ⟨s2, h1, h2⟩ := h.tails hne
    exact Nat.le_trans (d s2 h1) h2
  · refine .inr ⟨a, fun s' h => ?_⟩
    obtain ⟨s2, h1, _⟩ := h.tails hne
    exact b s2 h1
end
end Mine
end
section
open PySem PySem.W PyProof.Rows PySem.Calls
set_option maxRecDepth 100000
set_option maxHeartbeats 8000000
namespace Mine
/-- a table as a measure -/
noncomputable def tsum (c : List (Str × Int)) (f : List Nat → Int) : Int := (c.map fun p => p.2 * f (lst p.1)).sum
noncomputable def vsum (c : List (Str × Int)) : Int := (c.map Prod.snd).sum
structure Good (c : List (Str × Int)) : Prop where
  keys : (c.map Prod.fst).Nodup
  pos : ∀ p ∈ c, 0 < p.2
/-- c counts the texts of l -/
structure Cnt (c : List (Str × Int)) (l : List (List Nat)) : Prop where
  good : Good c
  sum : ∀ f, tsum c f = (l.map f).sum
theorem tsum_cons (p : Str × Int) (c : List (Str × Int)) (f : List Nat → Int) : tsum (p :: c) f = p.2 * f (lst p.1) + tsum c f := by simp [tsum]
theorem tsum_append (c d : List (Str × Int)) (f : List Nat → Int) : tsum (c ++ d) f = tsum c f + tsum d f := by simp [tsum]
theorem map_put_off {c : List (Str × Int)} {k : Str} {v : Int} (h : k ∉ c.map Prod.fst) : c.map (fun p => if decide (p.1 = k) then (p.1, v) else p) = c := by
  have : ∀ p ∈ c, (fun p : Str × Int => if decide (p.1 = k) then (p.1, v) else p) p = id p := by
    intro p hp
    have hne : p.1 ≠ k := fun e => h (by rw [← e]; exact List.mem_map_of_mem hp)
    simp [hne]
  rw [List.map_congr_left this, List.map_id]
theorem tsum_map_put {k : Str} {m : Int} (f : List Nat → Int) : ∀ {c : List (Str × Int)}, (c.map Prod.fst).Nodup → k ∈ c.map Prod.fst →
    tsum (c.map (fun p => if decide (p.1 = k) then (p.1, kdpLook c k 0 + m) else p)) f = tsum c f + m * f (lst k)
  | [], _, h => nomatch h
  | p :: c, hn, h => by
    rw [List.map_cons, List.nodup_cons] at hn
    by_cases e : p.1 = k
    · subst e
      have hl : kdpLook (p :: c) p.1 0 = p.2 := by simp [kdpLook]
      rw [hl, List.map_cons, map_put_off hn.1, tsum_cons, tsum_cons]
      simp only [decide_true, if_true]
      rw [Int.add_mul]; (first | lia | omega)
    · have hl : kdpLook (p :: c) k 0 = kdpLook c k 0 := by simp [kdpLook, e]
      have hk : k ∈ c.map Prod.fst := by
        rcases List.mem_cons.mp (by simpa only [List.map_cons] using h) with h | h
        · exact absurd h.symm e
        · exact h
      rw [hl, List.map_cons, tsum_cons, tsum_cons, tsum_map_put f hn.2 hk]
      simp only [e, decide_false, Bool.false_eq_true, if_false]
      (first | lia | omega)
theorem has_iff {c : List (Str × Int)} {k : Str} : (c.any fun p => decide (p.1 = k)) = true ↔ k ∈ c.map Prod.fst := by
  rw [List.any_eq_true, List.mem_map]
  constructor
  · rintro ⟨p, hp, e⟩; exact ⟨p, hp, of_decide_eq_true e⟩
  · rintro ⟨p, hp, e⟩; exact ⟨p, hp, decide_eq_true e⟩
theorem look_nn {c : List (Str × Int)} (h : ∀ p ∈ c, 0 < p.2) (k : Str) : 0 ≤ kdpLook c k 0 := by
  unfold kdpLook
  cases hf : c.find? (fun p => decide (p.1 = k)) with
  | none => simp
  | some p =>
    have := h p (List.mem_of_find?_eq_some hf)
    simp; (first | lia | omega)
theorem put_spec {c : List (Str × Int)} (g : Good c) (k : Str) {m : Int} (hm : 0 < m) : Good (kdpPut c k (kdpLook c k 0 + m)) ∧ ∀ f, tsum (kdpPut c k (kdpLook c k 0 + m)) f = tsum c f + m * f (lst k) := by
  have hl := look_nn g.pos k
  unfold kdpPut
  by_cases h : (c.any fun p => decide (p.1 = k)) = true
  · rw [if_pos h]
    refine ⟨⟨?_, ?_⟩, fun f => tsum_map_put f g.keys (has_iff.mp h)⟩
    · rw [List.map_map]
      have : (Prod.fst ∘ fun p : Str × Int => if decide (p.1 = k) = true then (p.1, kdpLook c k 0 + m) else p) = Prod.fst := by
        funext p
        simp only [Function.comp]
        split <;> rfl
      rw [this]; exact g.keys
    · intro p hp
      obtain ⟨q, hq, rfl⟩ := List.mem_map.mp hp
      split
      · show 0 < kdpLook c k 0 + m; (first | lia | omega)
      · exact g.pos q hq
  · rw [if_neg h]
    have hk : k ∉ c.map Prod.fst := fun hk => h (has_iff.mpr hk)
    have h0 : kdpLook c k 0 = 0 := by
      unfold kdpLook
      have : c.find? (fun p => decide (p.1 = k)) = none := by
        rw [List.find?_eq_none]
        intro p hp e
        exact h (List.any_eq_true.mpr ⟨p, hp, e⟩)
      rw [this]; rfl
    refine ⟨⟨?_, ?_⟩, fun f => ?_⟩
    · rw [List.map_append, List.nodup_append]
      refine ⟨g.keys, by simp, fun a ha b hb e => ?_⟩
      have hb' : b = k := by simpa using hb
      exact hk (by rw [← hb', ← e]; exact ha)
    · intro p hp
      rcases List.mem_append.mp hp with hp | hp
      · exact g.pos p hp
      · rw [List.mem_singleton.mp hp]; show 0 < kdpLook c k 0 + m; (first | lia | omega)
    · rw [tsum_append, h0, Int.zero_add, tsum_cons]; simp [tsum]
theorem readIn_spec (x : Str) : ∀ (r acc : List (Str × Int)), (∀ p ∈ r, 0 < p.2) → Good acc → Good (readIn x r acc) ∧ ∀ f, tsum (readIn x r acc) f = tsum acc f + tsum r (fun t => f (t ++ lst x))
  | [], acc, _, g => ⟨g, fun f => by simp [readIn_0, tsum]⟩
  | p :: r, acc, hr, g => by
    obtain ⟨g1, e1⟩ := put_spec g (p.1 ++ x) (hr p (.head _))
    obtain ⟨g2, e2⟩ := readIn_spec x r _ (fun q hq => hr q (.tail _ hq)) g1
    refine ⟨g2, fun f => ?_⟩
    rw [readIn_s, e2 f, e1 f, tsum_cons, lst_append]; (first | lia | omega)
section
variable {ws : List Str}
/-- the tables so far count the texts -/
noncomputable def TabsOk (ws : List Str) (ts : List (List (Str × Int))) : Prop := ∀ i, i < ts.length → Cnt (ts.getD i []) (Txs (ws.map lst) i)
theorem sum_map_flatMap {β γ : Type} (g : β → List γ) (f : γ → Int) (l : List β) : ((l.flatMap g).map f).sum = (l.map fun x => ((g x).map f).sum).sum := by
  induction l with
  | nil => rfl
  | cons a l ih => simp [ih]
theorem readWords_spec {ts : List (List (Str × Int))} (hts : TabsOk ws ts) : ∀ (rs : List Str) (acc : List (Str × Int)), (∀ x ∈ rs, 1 ≤ x.length) → Good acc →
    Good (readWords ts ts.length rs acc) ∧ ∀ f, tsum (readWords ts ts.length rs acc) f = tsum acc f + ((rs.map lst).map fun x => ((if x.length ≤ ts.length then (Txs (ws.map lst) (ts.length - x.length)).map (· ++ x) else []).map f).sum).sum
  | [], acc, _, g => ⟨g, fun f => by simp [readWords_0]⟩
  | x :: rs, acc, h0, g => by
    have hx := h0 x (.head _)
    rw [readWords_s]
    by_cases h : x.length ≤ ts.length
    · rw [if_pos h]
      have hc := hts (ts.length - x.length) (by (first | lia | omega))
      obtain ⟨g1, e1⟩ := readIn_spec x (ts.getD (ts.length - x.length) []) acc hc.good.pos g
      obtain ⟨g2, e2⟩ := readWords_spec hts rs _ (fun y hy => h0 y (.tail _ hy)) g1
      refine ⟨g2, fun f => ?_⟩
      have h' : (lst x).length ≤ ts.length := h
      rw [e2 f, e1 f, hc.sum, List.map_cons, List.map_cons, List.sum_cons, if_pos h', List.map_map]
      have : (List.map (fun t => f (t ++ lst x)) (Txs (ws.map lst) (ts.length - x.length))) = (List.map (f ∘ fun t => t ++ lst x) (Txs (ws.map lst) (ts.length - (lst x).length))) := rfl
      rw [this, Int.add_assoc, ← List.map_map]
    · rw [if_neg h]
      obtain ⟨g2, e2⟩ := readWords_spec hts rs acc (fun y hy => h0 y (.tail _ hy)) g
      refine ⟨g2, fun f => ?_⟩
      have h' : ¬ (lst x).length ≤ ts.length := h
      rw [e2 f, List.map_cons, List.map_cons, List.sum_cons, if_neg h']
      simp
theorem W_len1 (h0 : ∀ x ∈ ws, 1 ≤ x.length) : ∀ x ∈ ws.map lst, 1 ≤ x.length := by
  intro x hx
  obtain ⟨y, hy, rfl⟩ := List.mem_map.mp hx
  exact h0 y hy
theorem readGo_spec (h0 : ∀ x ∈ ws, 1 ≤ x.length) : ∀ (k size : Nat) (ts : List (List (Str × Int))), ts.length = size → 0 < size → TabsOk ws ts → TabsOk ws (readGo ws k size ts) ∧ (readGo ws k size ts).length = size + k
  | 0, size, ts, e, _, h => ⟨h, e⟩
  | k + 1, size, ts, e, hp, h => by
    subst e
    obtain ⟨g, hs⟩ := readWords_spec h ws [] h0 ⟨by simp, fun p hp => nomatch hp⟩
    rw [readGo_s]
    have key := readGo_spec h0 k (ts.length + 1) (ts ++ [readWords ts ts.length ws []]) (by simp) (by (first | lia | omega)) ?_
    · exact ⟨key.1, by rw [key.2]; (first | lia | omega)⟩
    · intro i hi
      rw [List.length_append, List.length_singleton] at hi
      rw [List.getD_eq_getElem?_getD, List.getElem?_append]
      by_cases h1 : i < ts.length
      · rw [if_pos h1, ← List.getD_eq_getElem?_getD]; exact h i h1
      · have : i = ts.length := by (first | lia | omega)
        subst this
        rw [if_neg h1, Nat.sub_self]
        refine ⟨g, fun f => ?_⟩
        obtain ⟨n, hn⟩ : ∃ n, ts.length = n + 1 := ⟨ts.length - 1, by (first | lia | omega)⟩
        show tsum (readWords ts ts.length ws []) f = _
        rw [hs f]
        simp only [hn]
        rw [Txs_succ (W_len1 h0), sum_map_flatMap]
        simp [tsum]
theorem readings_spec (h0 : ∀ x ∈ ws, 1 ≤ x.length) (k : Nat) : TabsOk ws (readings ws k) ∧ (readings ws k).length = k + 1 := by
  unfold readings
  have := readGo_spec h0 k 1 [[(Str.ofString "", 1)]] rfl (by (first | lia | omega)) (by
    intro i hi
    have : i = 0 := by simp at hi; (first | lia | omega)
    subst this
    refine ⟨⟨by simp, fun p hp => ?_⟩, fun f => ?_⟩
    · have : p = (Str.ofString "", 1) := by simpa using hp
      rw [this]; decide
    · show tsum [(Str.ofString "", 1)] f = _
      rw [Txs_zero]
      have : lst (Str.ofString "") = [] := rfl
      simp [tsum, this])
  exact ⟨this.1, by rw [this.2]; (first | lia | omega)⟩
end
theorem Cnt.length {c : List (Str × Int)} {l : List (List Nat)} (h : Cnt c l) : vsum c = (l.length : Int) := by
  have := h.sum (fun _ => 1)
  unfold tsum at this
  unfold vsum
  simp only [Int.mul_one] at this
  have e : (c.map fun p => p.2) = c.map Prod.snd := rfl
  rw [e] at this
  rw [this]
  clear this e h
  induction l with
  | nil => rfl
  | cons a l ih => simp only [List.map_cons, List.sum_cons, ih, List.length_cons]; (first | lia | omega)
noncomputable def ind (t : List Nat) (u : List Nat) : Int := if u = t then 1 else 0
theorem sum_ind (t : List Nat) (l : List (List Nat)) : (l.map (ind t)).sum = (l.count t : Int) := by
  induction l with
  | nil => rfl
  | cons a l ih =>
    rw [List.map_cons, List.sum_cons, ih, List.count_cons]
    unfold ind
    by_cases e : a = t
    · simp [e]; (first | lia | omega)
    · simp [e]
theorem tsum_ind_off {c : List (Str × Int)} {t : List Nat} (h : ∀ p ∈ c, lst p.1 ≠ t) : tsum c (ind t) = 0 := by
  induction c with
  | nil => rfl
  | cons p c ih =>
    rw [tsum_cons, ih fun q hq => h q (.tail _ hq)]
    simp [ind, h p (.head _)]
theorem tsum_ind {c : List (Str × Int)} (hn : (c.map Prod.fst).Nodup) {p : Str × Int} (hp : p ∈ c) : tsum c (ind (lst p.1)) = p.2 := by
  induction c with
  | nil => cases hp
  | cons q c ih =>
    rw [List.map_cons, List.nodup_cons] at hn
    rw [tsum_cons]
    rcases List.mem_cons.mp hp with e | hp
    · subst e
      rw [tsum_ind_off fun r hr e => hn.1 (by rw [← lst_inj e]; exact List.mem_map_of_mem hr)]
      simp [ind]
    · rw [ih hn.2 hp]
      have : lst q.1 ≠ lst p.1 := fun e => hn.1 (by rw [lst_inj e]; exact List.mem_map_of_mem hp)
      simp [ind, this]
theorem vsum_le {c : List (Str × Int)} (h : ∀ p ∈ c, p.2 ≤ 1) : vsum c ≤ c.length := by
  induction c with
  | nil => simp [vsum]
  | cons p c ih =>
    have h1 := h p (.head _)
    have h2 := ih fun q hq => h q (.tail _ hq)
    unfold vsum at h2 ⊢
    rw [List.map_cons, List.sum_cons, List.length_cons]; (first | lia | omega)
theorem vsum_ge {c : List (Str × Int)} (h : ∀ p ∈ c, 0 < p.2) : (c.length : Int) ≤ vsum c := by
  induction c with
  | nil => simp [vsum]
  | cons p c ih =>
    have h1 := h p (.head _)
    have h2 := ih fun q hq => h q (.tail _ hq)
    unfold vsum at h2 ⊢
    rw [List.map_cons, List.sum_cons, List.length_cons]; (first | lia | omega)
theorem vsum_gt {c : List (Str × Int)} (h : ∀ p ∈ c, 0 < p.2) {p : Str × Int} (hp : p ∈ c) (h2 : 2 ≤ p.2) : (c.length : Int) < vsum c := by
  induction c with
  | nil => cases hp
  | cons q c ih =>
    have h1 := h q (.head _)
    have hge := vsum_ge fun q hq => h q (.tail _ hq)
    unfold vsum at hge ih ⊢
    rw [List.map_cons, List.sum_cons, List.length_cons]
    rcases List.mem_cons.mp hp with rfl | hp
    · (first | lia | omega)
    · have := ih (fun q hq => h q (.tail _ hq)) hp
      (first | lia | omega)
theorem Cnt.twice {c : List (Str × Int)} {l : List (List Nat)} (h : Cnt c l) : (c.length : Int) < vsum c ↔ ¬ l.Nodup := by
  constructor
  · intro hlt hn
    have := vsum_le (c := c) fun p hp => by
      rw [← tsum_ind h.good.keys hp, h.sum, sum_ind]
      have := List.nodup_iff_count.mp hn (lst p.1)
      (first | lia | omega)
    (first | lia | omega)
  · intro hn
    refine Classical.byContradiction fun hle => hn (List.nodup_iff_count.mpr fun t => ?_)
    have e := h.sum (ind t)
    rw [sum_ind] at e
    by_cases ht : ∃ p ∈ c, lst p.1 = t
    · obtain ⟨p, hp, rfl⟩ := ht
      rw [tsum_ind h.good.keys hp] at e
      by_cases h2 : 2 ≤ p.2
      · exact absurd (vsum_gt h.good.pos hp h2) hle
      · (first | lia | omega)
    · rw [tsum_ind_off fun p hp e => ht ⟨p, hp, e⟩] at e
      (first | lia | omega)
/-- how many readings: by how many words have each length -/
noncomputable def nn (c1 c2 c3 : Nat) : Nat → Nat × Nat × Nat
  | 0 => (1, 0, 0)
  | n + 1 => (c1 * (nn c1 c2 c3 n).1 + c2 * (nn c1 c2 c3 n).2.1 + c3 * (nn c1 c2 c3 n).2.2, (nn c1 c2 c3 n).1, (nn c1 c2 c3 n).2.1)
theorem nn_s {c1 c2 c3 n : Nat} : nn c1 c2 c3 (n + 1) = (c1 * (nn c1 c2 c3 n).1 + c2 * (nn c1 c2 c3 n).2.1 + c3 * (nn c1 c2 c3 n).2.2, (nn c1 c2 c3 n).1, (nn c1 c2 c3 n).2.1) := rfl
section
variable {ws : List Str}
noncomputable def lens (ws : List Str) : List Int := ws.map fun x => (x.length : Int)
theorem sum_lens (hl : ∀ x ∈ ws, 1 ≤ x.length ∧ x.length ≤ 3) (g : Nat → Nat) : (ws.map fun x => g x.length).sum = (lens ws).count 1 * g 1 + (lens ws).count 2 * g 2 + (lens ws).count 3 * g 3 := by
  unfold lens
  induction ws with
  | nil => simp
  | cons x ws ih =>
    have ih' := ih fun y hy => hl y (.tail _ hy)
    have hx := hl x (.head _)
    rw [List.map_cons, List.sum_cons, ih', List.map_cons, List.count_cons, List.count_cons, List.count_cons]
    have : x.length = 1 ∨ x.length = 2 ∨ x.length = 3 := by (first | lia | omega)
    rcases this with e | e | e <;> rw [e] <;> simp [Nat.add_mul] <;> (first | lia | omega)
theorem len_Txs (hl : ∀ x ∈ ws, 1 ≤ x.length ∧ x.length ≤ 3) : ∀ n, nn ((lens ws).count 1) ((lens ws).count 2) ((lens ws).count 3) n = ((Txs (ws.map lst) n).length, if 1 ≤ n then (Txs (ws.map lst) (n - 1)).length else 0, if 2 ≤ n then (Txs (ws.map lst) (n - 2)).length else 0)
  | 0 => by rw [Txs_zero]; rfl
  | n + 1 => by
    rw [nn_s, len_Txs hl n]
    have h := sum_lens hl (fun k => if k ≤ n + 1 then (Txs (ws.map lst) (n + 1 - k)).length else 0)
    have e : (Txs (ws.map lst) (n + 1)).length = (ws.map fun x => (fun k => if k ≤ n + 1 then (Txs (ws.map lst) (n + 1 - k)).length else 0) x.length).sum := by
      rw [Txs_succ (W_len1 fun x hx => (hl x hx).1), List.length_flatMap, List.map_map]
      congr 1
      refine List.map_congr_left fun x _ => ?_
      show (if (lst x).length ≤ n + 1 then _ else _ : List (List Nat)).length = _
      by_cases hle : x.length ≤ n + 1
      · have hle' : (lst x).length ≤ n + 1 := hle
        rw [if_pos hle', List.length_map]
        simp only [hle, if_true]
        rfl
      · have hle' : ¬ (lst x).length ≤ n + 1 := hle
        rw [if_neg hle']
        simp only [hle, if_false]
        rfl
    rw [e, h]
    have a1 : 1 ≤ n + 1 := by (first | lia | omega)
    have a2 : n + 1 - 1 = n := by (first | lia | omega)
    simp only [a1, if_true, a2]
    refine Prod.ext ?_ (Prod.ext rfl ?_)
    · by_cases h2 : 1 ≤ n
      · have b2 : 2 ≤ n + 1 := by (first | lia | omega)
        have b3 : n + 1 - 2 = n - 1 := by (first | lia | omega)
        simp only [h2, b2, if_true, b3]
        by_cases h3 : 2 ≤ n
        · have b4 : 3 ≤ n + 1 := by (first | lia | omega)
          have b5 : n + 1 - 3 = n - 2 := by (first | lia | omega)
          simp only [h3, b4, if_true, b5]
        · have b4 : ¬ 3 ≤ n + 1 := by (first | lia | omega)
          simp only [h3, b4, if_false]
      · have b2 : ¬ 2 ≤ n + 1 := by (first | lia | omega)
        have b3 : ¬ 2 ≤ n := by (first | lia | omega)
        have b4 : ¬ 3 ≤ n + 1 := by (first | lia | omega)
        simp only [h2, b2, b3, b4, if_false]
    · by_cases h2 : 1 ≤ n
      · have b2 : 2 ≤ n + 1 := by (first | lia | omega)
        have b3 : n + 1 - 2 = n - 1 := by (first | lia | omega)
        simp only [h2, b2, if_true, b3]
      · have b2 : ¬ 2 ≤ n + 1 := by (first | lia | omega)
        simp only [h2, b2, if_false]
theorem lens_total (hl : ∀ x ∈ ws, 1 ≤ x.length ∧ x.length ≤ 3) : (lens ws).count 1 + (lens ws).count 2 + (lens ws).count 3 = ws.length := by
  have := sum_lens hl fun _ => 1
  have e : (ws.map fun _ => 1).sum = ws.length := by
    clear this hl
    induction ws with
    | nil => rfl
    | cons a l ih => rw [List.map_cons, List.sum_cons, ih, List.length_cons]; (first | lia | omega)
  (first | lia | omega)
/-- the divisor -/
noncomputable def dvs (c1 c2 c3 : Nat) : Int := dval [-(c3 : Int), -(c2 : Int), -(c1 : Int), 1] 20 0 4
theorem dvs_bound : ∀ c1, c1 < 5 → ∀ c2, c2 < 5 → ∀ c3, c3 < 5 → 2 ^ 59 ≤ dvs c1 c2 c3 ∧ (1 ≤ c1 + c2 + c3 → dvs c1 c2 c3 < 2 ^ 60) := by decide +kernel
theorem digs_nn : ∀ c1, c1 < 5 → ∀ c2, c2 < 5 → ∀ c3, c3 < 5 → (1 ≤ c1 + c2 + c3 ∧ c1 + c2 + c3 ≤ 4) → (digs (2 ^ 200 / dvs c1 c2 c3).toNat 20 8).reverse = (List.range 8).map fun n => ((nn c1 c2 c3 n).1 : Int) := by decide +kernel
theorem quot_bits : ∀ c1, c1 < 5 → ∀ c2, c2 < 5 → ∀ c3, c3 < 5 → (1 ≤ c1 + c2 + c3 ∧ c1 + c2 + c3 ≤ 4) → 0 < (2 ^ 200 / dvs c1 c2 c3).toNat ∧ (2 ^ 200 / dvs c1 c2 c3).toNat < 2 ^ (20 * 8) ∧ (((Builtin.Int.intBits ((2 ^ 200 / dvs c1 c2 c3).toNat : Int) : Nat) : Int) + (20 : Nat) - 1).fdiv (20 : Nat) = (8 : Nat) := by decide +kernel
theorem kraft_nn : ∀ c1, c1 < 5 → ∀ c2, c2 < 5 → ∀ c3, c3 < 5 → c1 + c2 + c3 ≤ 4 → 8 < 4 * c1 + 2 * c2 + c3 → ∃ n, n < 12 ∧ 2 ^ n < (nn c1 c2 c3 n).1 := by decide +kernel
/-- the texts over a and b -/
noncomputable def bins : Nat → List (List Nat)
  | 0 => [[]]
  | n + 1 => (bins n).map (97 :: ·) ++ (bins n).map (98 :: ·)
theorem bins_s {n : Nat} : bins (n + 1) = (bins n).map (97 :: ·) ++ (bins n).map (98 :: ·) := rfl
theorem bins_0 : bins 0 = [[]] := rfl
theorem bins_len : ∀ n, (bins n).length = 2 ^ n
  | 0 => rfl
  | n + 1 => by rw [bins_s, List.length_append, List.length_map, List.length_map, bins_len n, Nat.pow_succ]; (first | lia | omega)
theorem mem_bins : ∀ (t : List Nat), (∀ c ∈ t, c = 97 ∨ c = 98) → t ∈ bins t.length
  | [], _ => by simp [bins_0]
  | c :: t, h => by
    have ih := mem_bins t fun d hd => h d (.tail _ hd)
    rw [List.length_cons, bins_s, List.mem_append, List.mem_map, List.mem_map]
    rcases h c (.head _) with rfl | rfl
    · exact .inl ⟨t, ih, rfl⟩
    · exact .inr ⟨t, ih, rfl⟩
theorem nodup_le2 {l l' : List (List Nat)} (h : l.Nodup) (hs : ∀ x ∈ l, x ∈ l') : l.length ≤ l'.length := by
  induction l generalizing l' with
  | nil => simp
  | cons a l ih =>
    have ha := hs a (.head _)
    obtain ⟨h1, h2⟩ := List.nodup_cons.mp h
    have := ih (l' := l'.erase a) h2 (fun x hx => (List.mem_erase_of_ne (fun e => h1 (by rw [← e]; exact hx))).mpr (hs x (.tail _ hx)))
    rw [List.length_erase_of_mem ha] at this
    have hp := List.length_pos_of_mem ha
    simp only [List.length_cons]; (first | lia | omega)
theorem W_letters (x : Str) (hx : x ∈ W15) : ∀ c ∈ lst x, c = 97 ∨ c = 98 := by
  have := all_W15 (P := fun x => (lst x).all fun c => c == 97 || c == 98) (by decide +kernel) x hx
  intro c hc
  have := List.all_eq_true.mp this c hc
  simpa using this
theorem Txs_le (hw : ∀ x ∈ ws, x ∈ W15) (h0 : ∀ x ∈ ws, 1 ≤ x.length) (n : Nat) (h : (Txs (ws.map lst) n).Nodup) : (Txs (ws.map lst) n).length ≤ 2 ^ n := by
  rw [← bins_len n]
  refine nodup_le2 h fun t ht => ?_
  obtain ⟨us, hus, rfl⟩ := List.mem_map.mp ht
  obtain ⟨h1, h2⟩ := (mem_Rds (W_len1 h0) n n (Nat.le_refl _) us).mp hus
  rw [← h2]
  refine mem_bins _ fun c hc => ?_
  obtain ⟨x, hx, hc⟩ := List.mem_flatten.mp hc
  obtain ⟨y, hy, rfl⟩ := List.mem_map.mp (h1 x hx)
  exact W_letters y (hw y hy) c hc
theorem map_nodup (hn : ws.Nodup) : (ws.map lst).Nodup := nodup_map_on hn fun _ _ _ _ e => lst_inj e

theorem nn_small : ∀ c1, c1 < 5 → ∀ c2, c2 < 5 → ∀ c3, c3 < 5 → ∀ i, i < 8 → (nn c1 c2 c3 i).1 ≤ 16777216 := by decide +kernel
theorem table_small (hl : ∀ x ∈ ws, 1 ≤ x.length ∧ x.length ≤ 3) (h4 : ws.length ≤ 4) {i : Nat} (hi : i < 8) : ((readings ws 7).getD i []).length ≤ 16777216 := by
  have ht := lens_total hl
  obtain ⟨ok, hlen⟩ := readings_spec (fun x hx => (hl x hx).1) 7
  have hc := ok i (by (first | lia | omega))
  have h1 := vsum_ge hc.good.pos
  have h2 := hc.length
  have h3 := nn_small ((lens ws).count 1) (by (first | lia | omega)) ((lens ws).count 2) (by (first | lia | omega)) ((lens ws).count 3) (by (first | lia | omega)) i hi
  rw [len_Txs hl i] at h3
  simp only at h3
  (first | lia | omega)
/-- the law's three claims, in plain words -/
theorem plain_sums (hl : ∀ x ∈ ws, 1 ≤ x.length ∧ x.length ≤ 3) (h1 : 1 ≤ ws.length) (h4 : ws.length ≤ 4) :
    (digs (2 ^ 200 / dvs ((lens ws).count 1) ((lens ws).count 2) ((lens ws).count 3)).toNat 20 8).reverse = (readings ws 7).map vsum := by
  have ht := lens_total hl
  rw [digs_nn _ (by (first | lia | omega)) _ (by (first | lia | omega)) _ (by (first | lia | omega)) ⟨by (first | lia | omega), by (first | lia | omega)⟩]
  obtain ⟨ok, hlen⟩ := readings_spec (fun x hx => (hl x hx).1) 7
  refine List.ext_getElem (by simp [hlen]) fun i h1 h2 => ?_
  rw [List.getElem_map, List.getElem_map, List.getElem_range]
  have hi : i < (readings ws 7).length := by simpa using h2
  have := (ok i hi).length
  rw [List.getD_eq_getElem?_getD, List.getElem?_eq_getElem hi] at this
  rw [len_Txs hl i]
  exact this.symm
theorem plain_twice (hw : ∀ x ∈ ws, x ∈ W15) (hl : ∀ x ∈ ws, 1 ≤ x.length) (hn : ws.Nodup) (h4 : ws.length ≤ 4) :
    (((List.range 8).filter fun i => decide ((((readings ws 7).getD i []).length : Int) < vsum ((readings ws 7).getD i []))).map (fun i : Nat => (i : Int)) ++ [0]).getD 0 0 = if shortest ws < 8 then shortest ws else 0 := by
  obtain ⟨ok, hlen⟩ := readings_spec hl 7
  have key : ∀ i, i < 8 → ((((readings ws 7).getD i []).length : Int) < vsum ((readings ws 7).getD i []) ↔ Amb (ws.map lst) i) := by
    intro i hi
    rw [(ok i (by (first | lia | omega))).twice, Txs_nodup (W_len1 hl) (map_nodup hn)]
    exact Classical.not_not
  generalize hp : (fun i => decide ((((readings ws 7).getD i []).length : Int) < vsum ((readings ws 7).getD i []))) = p
  have hp' : ∀ i, i < 8 → (p i = true ↔ Amb (ws.map lst) i) := by
    intro i hi
    rw [← key i hi, ← hp]
    simp
  have none : (∀ i, i < 8 → p i = false) → (List.range 8).filter p = [] := by
    intro h
    rw [List.filter_eq_nil_iff]
    intro i hi
    rw [h i (by simpa using hi)]; decide
  rcases shortest_amb hw hl h4 with ⟨s, s0, e, a, b⟩ | ⟨e, b⟩
  · rw [e]
    by_cases h8 : s < 8
    · rw [if_pos (by (first | lia | omega))]
      have hs := (hp' s h8).mpr a
      have hb : ∀ i, i < s → p i = false := by
        intro i hi
        cases hpi : p i with
        | false => rfl
        | true => exact absurd (b i ((hp' i (by (first | lia | omega))).mp hpi)) (by (first | lia | omega))
      have e8 : List.range 8 = List.range s ++ s :: (List.range (7 - s)).map (s + 1 + ·) := by
        have : ∀ s, s < 8 → List.range 8 = List.range s ++ s :: (List.range (7 - s)).map (s + 1 + ·) := by decide
        exact this s h8
      have e0 : (List.range s).filter p = [] := by
        rw [List.filter_eq_nil_iff]
        intro i hi
        rw [hb i (by simpa using hi)]; decide
      rw [e8, List.filter_append, e0, List.filter_cons_of_pos hs]
      simp
    · rw [if_neg (by (first | lia | omega)), none]
      · rfl
      · intro i hi
        cases hpi : p i with
        | false => rfl
        | true => exact absurd (b i ((hp' i hi).mp hpi)) (by (first | lia | omega))
  · rw [e, if_pos (by decide), none]
    · rfl
    · intro i hi
      cases hpi : p i with
      | false => rfl
      | true => exact absurd ((hp' i hi).mp hpi) (b i)
theorem plain_kraft (hw : ∀ x ∈ ws, x ∈ W15) (hl : ∀ x ∈ ws, 1 ≤ x.length ∧ x.length ≤ 3) (hn : ws.Nodup) (h4 : ws.length ≤ 4) : 0 < shortest ws ∨ (ws.map fun x => 8 / 2 ^ x.length).sum ≤ 8 := by
  have h0 := fun x hx => (hl x hx).1
  rcases shortest_amb hw h0 h4 with ⟨s, s0, e, _, _⟩ | ⟨e, b⟩
  · exact .inl (by (first | lia | omega))
  · refine .inr ?_
    have ht := lens_total hl
    have hs := sum_lens hl fun k => 8 / 2 ^ k
    have hs' : (ws.map fun x => 8 / 2 ^ x.length).sum = (lens ws).count 1 * 4 + (lens ws).count 2 * 2 + (lens ws).count 3 * 1 := hs
    refine Classical.byContradiction fun hgt => ?_
    obtain ⟨n, _, hn2⟩ := kraft_nn ((lens ws).count 1) (by (first | lia | omega)) ((lens ws).count 2) (by (first | lia | omega)) ((lens ws).count 3) (by (first | lia | omega)) (by (first | lia | omega)) (by (first | lia | omega))
    rw [len_Txs hl n] at hn2
    have := Txs_le hw h0 n ((Txs_nodup (W_len1 h0) (map_nodup hn) n).mpr (b n))
    simp only at hn2
    (first | lia | omega)
end
end Mine
end
section
open PySem PySem.W PyProof.Rows PySem.Calls
set_option maxRecDepth 100000
set_option maxHeartbeats 8000000
namespace Mine
/-- a sign for lines of mine: they halt the walk where this is known -/
noncomputable def HaltG : Prop := True
theorem HaltG.stop {P : Prop} (h : Stop P) (_h : HaltG := by assumption) : P := h
/-- a name takes the value of a choice: the value gets a letter -/
theorem storeIte {M : Model} {A : Around} {env : Env} {x : Str} {Q : Unit → Shared → Prop} {E : Value → Shared → Prop} {s : Shared} {c : Prop} [Decidable c] {a b : Int} {t : Tok}
    (h : ∀ v t', v = (if c then a else b) → wpAny M A (storeName env x (.int v t')) Q E s) : wpAny M A (storeName env x (.int (if c then a else b) t)) Q E s := h _ _ rfl
theorem strs_get {vs : List Value} {xs : List Str} (h : StrsAre vs xs) : ∀ (i : Nat) (x : Str), xs[i]? = some x → ∃ t, vs[i]? = some (.str x t) := by
  induction h with
  | nil => intro i x e; simp at e
  | cons y t _ ih =>
    intro i x e
    cases i with
    | zero => simp only [List.getElem?_cons_zero, Option.some.injEq] at e ⊢; exact ⟨t, by rw [e]⟩
    | succ i => simp only [List.getElem?_cons_succ] at e ⊢; exact ih i x e
theorem sum_cast (f : Str → Nat) (l : List Str) : (l.map fun x => ((f x : Nat) : Int)).sum = ((l.map f).sum : Nat) := by
  induction l with
  | nil => rfl
  | cons a l ih => rw [List.map_cons, List.map_cons, List.sum_cons, List.sum_cons, ih]; omega
theorem filter_range_pos {p : Nat → Bool} {i : Nat} (h : p i = true) : (List.range (i + 1)).filter p = (List.range i).filter p ++ [i] := by
  rw [List.range_succ, List.filter_append, List.filter_cons_of_pos h, List.filter_nil]
theorem filter_range_neg {p : Nat → Bool} {i : Nat} (h : ¬ p i = true) : (List.range (i + 1)).filter p = (List.range i).filter p := by
  rw [List.range_succ, List.filter_append, List.filter_cons_of_neg h, List.filter_nil, List.append_nil]
section
variable {prog : Program} {w : World} {A : Around} {s : Shared} {h₀ : Heap} {L : Addr} {m : Str → Option Value} {env : Env} {ct elt : PySem.Expr} {x : Str} {scope : Scope} {cl : List (Str × Addr)} {S : List (Addr × Obj) → Prop} {P : Nat → Value → Prop} {Fin : List Value → List (Addr × Obj) → Prop}
/-- .. with a test -/
theorem compT_induct {n : Nat} (J : Nat → List Value → List (Addr × Obj) → Prop) (h0 : ∀ ys news, J n ys news → Fin ys news)
    (hs : ∀ i ys news, i < n → J i ys news → ∀ v I oI C oC D m₂ h tk (E' : Value → Shared → Prop), P i v → LCg.NsObj oC m₂ → m₂ x = some v → Fr h₀ L h m → News h₀ L h ((I, oI) :: (C, oC) :: (D, LCg.lst ys) :: news) → LCg.Off3 I C D news → ((@Ne Nat I C) ∧ (@Ne Nat I D) ∧ (@Ne Nat C D)) →
      wpAny (model prog w) A (isTrue ct (compEnvC scope cl C env) (eval ct (compEnvC scope cl C env))) (fun ok s' => if ok = true then
        wpAny (model prog w) A (eval elt (compEnvC scope cl C env)) (LCg.CompEnd h₀ L m { s with heap := h, toks := tk } I oI C oC D (LCg.lst ys) S (fun y news' => J (i + 1) (ys ++ [y]) news')) E' s'
        else LCg.CompEnd h₀ L m { s with heap := h, toks := tk } I oI C oC D (LCg.lst ys) S (fun _ news' => J (i + 1) ys news') Value.none s') E' { s with heap := h, toks := tk }) :
    ∀ k i ys news, k + i = n → J i ys news → LCt.CompRestT prog w A h₀ L m env ct elt x scope cl s S P Fin k i ys news
  | 0, i, ys, news, e, hJ => LCt.CompRestT.zero (h0 _ _ (by have : i = n := by omega
                                                            rw [← this]; exact hJ))
  | k + 1, i, ys, news, e, hJ => LCt.CompRestT.succ fun v I oI C oC D m₂ h tk E' hP hC hx F N o3 hne =>
      wpAny_mono (hs i ys news (by omega) hJ v I oI C oC D m₂ h tk E' hP hC hx F N o3 hne) (fun ok s' z => by
        cases ok with
        | true =>
          simp only [if_true] at z ⊢
          exact wpAny_mono z (fun _ _ z => CompEnd.imp (fun y n' hj => compT_induct J h0 hs k (i + 1) (ys ++ [y]) n' (by omega) hj) z) fun _ _ e => e
        | false =>
          simp only [Bool.false_eq_true, if_false] at z ⊢
          exact CompEnd.imp (fun y n' hj => compT_induct J h0 hs k (i + 1) ys n' (by omega) hj) z) fun _ _ e => e
end
section
variable {prog : Program} {w : World} {A : Around} {E : Value → Shared → Prop} {s : Shared} {h₀ : Heap} {L : Addr}
theorem ne_same {news : List (Addr × Obj)} {a b : Addr} {va vb : List Value} {ns ms : List Int} {n k : Nat} {Q : Value → Shared → Prop} (N : News h₀ L s.heap news) (ha : (a, listOf va.toArray n) ∈ news) (ia : IntsAre va ns) (hb : (b, listOf vb.toArray k) ∈ news) (ib : IntsAre vb ms) (e : ns = ms) (hu : A.units + 64 < cLine)
    (h : Q (.bool false) s) : wpAny (model prog w) A (compareOp .NotEq (.ref a) (.ref b)) Q E s :=
  ne_intsK (isList_led N ha) ia (isList_led N hb) ib hu (by simpa [e] using h)
end
theorem alcU {prog : Program} {w : World} {A : Around} {E : Value → Shared → Prop} {s : Shared} {h₀ : Heap} {L : Addr} {m : Str → Option Value} {env : Env} {elt iter : PySem.Expr} {x y : Str} {px py : Pos} {scope : Scope} {cl : List (Str × Addr)} {pos spos : Pos} {Q : Flow → Shared → Prop}
    (h : wpAny (model prog w) A (eval iter env) (LCg.CompSrc prog w A h₀ L m env elt x scope cl (fun s₂ => LCg.FinA h₀ L m s₂ y Q)) E s) (F₀ : Fr h₀ L s.heap m := by k_asm) (hLe : env.locals = L := by rfl)
    (hsw : swapsWith (.ListComp elt [⟨.Name x px, iter, [], 0⟩] scope pos) (some (.Name y py)) spos.line env = pure true := by with_unfolding_all rfl)
    (hclos : closureFor scope env = pure cl := by with_unfolding_all rfl) (hcell : ∀ z ∈ scope.names, z.2 ≠ .cell := by decide) (hkind : scope.kind = .function := by rfl)
    (hnames : ∀ z ∈ scope.names, z.2 = .local → scope.names.lookup z.1 = some .local := by decide) (hx : scope.names.lookup x = some .local := by rfl)
    (hy : env.kindOf y = some .local := by rfl) (hp : (env.scope.kind == .class || (env.scope.kind == .module && env.locals != env.globals)) = false := by rfl)
    (hs : ∀ x, foldedSetIterable iter env x = pure x := by intro _; rfl) :
    wpAny (model prog w) A (exec (.Assign [.Name y py] (.ListComp elt [⟨.Name x px, iter, [], 0⟩] scope pos) spos) env) Q E s :=
  LCg.Assign_ListComp_U F₀ hLe hsw hclos hcell hkind hnames hx hy hp h hs
theorem alcT {prog : Program} {w : World} {A : Around} {E : Value → Shared → Prop} {s : Shared} {h₀ : Heap} {L : Addr} {m : Str → Option Value} {env : Env} {ct elt iter : PySem.Expr} {x y : Str} {px py : Pos} {scope : Scope} {cl : List (Str × Addr)} {pos spos : Pos} {Q : Flow → Shared → Prop}
    (h : wpAny (model prog w) A (eval iter env) (LCt.CompSrcT prog w A h₀ L m env ct elt x scope cl (fun s₂ => LCg.FinA h₀ L m s₂ y Q)) E s) (F₀ : Fr h₀ L s.heap m := by k_asm) (hLe : env.locals = L := by rfl)
    (hsw : swapsWith (.ListComp elt [⟨.Name x px, iter, [ct], 0⟩] scope pos) (some (.Name y py)) spos.line env = pure true := by with_unfolding_all rfl)
    (hclos : closureFor scope env = pure cl := by with_unfolding_all rfl) (hcell : ∀ z ∈ scope.names, z.2 ≠ .cell := by decide) (hkind : scope.kind = .function := by rfl)
    (hnames : ∀ z ∈ scope.names, z.2 = .local → scope.names.lookup z.1 = some .local := by decide) (hx : scope.names.lookup x = some .local := by rfl)
    (hy : env.kindOf y = some .local := by rfl) (hp : (env.scope.kind == .class || (env.scope.kind == .module && env.locals != env.globals)) = false := by rfl)
    (hs : ∀ x, foldedSetIterable iter env x = pure x := by intro _; rfl) :
    wpAny (model prog w) A (exec (.Assign [.Name y py] (.ListComp elt [⟨.Name x px, iter, [ct], 0⟩] scope pos) spos) env) Q E s :=
  LCt.Assign_ListComp_T F₀ hLe hsw hclos hcell hkind hnames hx hy hp h hs
theorem kbaA {prog : Program} {w : World} {A : Around} {E : Value → Shared → Prop} {s : Shared} {value slice : PySem.Expr} {o i : Value} {Q : Value → Shared → Prop} (h : wpAny (model prog w) A (subscriptTail (PySem.Expr.Name (PySem.Str.ofString "_") ⟨0, 0, 0, 0⟩) slice o i) Q E s) : wpAny (model prog w) A (subscriptTail value slice o i) Q E s := kba_turn (fun _ => rfl) h
end Mine
end
section
open PySem PySem.W PyProof.Rows PyProof.V PySem.Calls
set_option maxRecDepth 100000
set_option maxHeartbeats 20000000
namespace Mine
section

local macro_rules | `(tactic| walk_at "exec Assign cons ListComp") => `(tactic| (k_here; k_dflt (refine alcU ?_)))
local macro_rules | `(tactic| walk_at "exec Assign cons ListComp") => `(tactic| (k_here; lct_look; k_dflt (refine alcT ?_)))
local macro_rules | `(tactic| walk_at "binaryOp Add ref ref") => `(tactic| (k_here; refine HaltG.stop ?_))
local macro_rules | `(tactic| walk_at "compareOp LtE int int") => `(tactic| (k_here; refine HaltG.stop ?_))
local macro_rules | `(tactic| walk_at "exec Return some") => `(tactic| (k_here; refine HaltG.stop ?_))
local macro_rules | `(tactic| walk_at "subscriptTail Name") => `(tactic| (k_here; k_dflt (refine sub_val_led (h := ?_))))
local macro_rules | `(tactic| walk_at "subscriptTail Name") => `(tactic| (k_here; k_dflt (refine item_led (h := ?_))))
local macro_rules | `(tactic| walk_at "ite") => `(tactic| (k_here; first | with_reducible refine ite_pos (by assumption) ?_ | with_reducible refine ite_neg (by assumption) ?_))
local macro_rules | `(tactic| walk_at "CompSrcT") => `(tactic| (k_here; refine Stop.intro ?_))
local macro_rules | `(tactic| walk_at "callWith ref") => `(tactic| (k_here; k_dflt (refine callWith_K (by k_asm) (by k_is) ?_)))
local macro_rules | `(tactic| walk_at "call ref") => `(tactic| (k_here; refine Stop.intro ?_))
local macro_rules | `(tactic| walk_at "subscriptTail BinOp") => `(tactic| (k_here; k_dflt (refine kbaA ?_)))
local macro_rules | `(tactic| walk_at "compareOp NotEq ref ref") => `(tactic| (k_here; refine Stop.intro ?_))
local macro_rules | `(tactic| walk_at "storeName") => `(tactic| (k_here; with_reducible refine storeIte ?_; intro _ _ _))
theorem three4 {a b c n : Nat} (h : a + b + c = n) (hn : n ≤ 4) : a ≤ 4 ∧ b ≤ 4 ∧ c ≤ 4 := by omega
theorem negAbs {c : Nat} (h : c ≤ 4) : (-(c : Int)).natAbs < 2 ^ 64 := by omega
theorem vcb {v l : Int} (h : v = if (if l < 4 then l else 4) > 3 then (if l < 4 then l else 4) else 3) : 3 ≤ v ∧ v ≤ 4 := by
  subst h
  repeat' split
  all_goals omega
theorem cntb {v : Int} (h : 3 ≤ v ∧ v ≤ 4) (n : Nat) : 3 ≤ min v.toNat (n + (0 + 1 + 1 + 1)) ∧ min v.toNat (n + (0 + 1 + 1 + 1)) ≤ 4 := by omega
theorem wordOf_len (d : Int) (h : 0 ≤ d ∧ d < 14) : 1 ≤ (wordOf d).length ∧ (wordOf d).length ≤ 3 := by
  obtain ⟨a, rfl⟩ : ∃ a : Nat, d = (a : Int) := ⟨d.toNat, by omega⟩
  have ha : a < 14 := by omega
  have : ∀ a, a < 14 → 1 ≤ (wordOf ((a : Nat) : Int)).length ∧ (wordOf ((a : Nat) : Int)).length ≤ 3 := by decide +kernel
  exact this a ha
theorem wordsGo_len : ∀ (ds : List Int) (ws : List Str), (∀ d ∈ ds, 0 ≤ d ∧ d < 14) → (∀ x ∈ ws, 1 ≤ x.length ∧ x.length ≤ 3) → ∀ x ∈ wordsGo ds ws, 1 ≤ x.length ∧ x.length ≤ 3
  | [], ws, _, h => h
  | d :: ds, ws, hd, h => by
    refine wordsGo_len ds _ (fun z hz => hd z (.tail _ hz)) ?_
    split
    · exact h
    · intro x hx
      rcases List.mem_append.mp hx with hx | hx
      · exact h x hx
      · rw [List.mem_singleton.mp hx]; exact wordOf_len d (hd d (.head _))
theorem wordsGo_nodup : ∀ (ds : List Int) (ws : List Str), ws.Nodup → (wordsGo ds ws).Nodup
  | [], ws, h => h
  | d :: ds, ws, h => by
    refine wordsGo_nodup ds _ ?_
    split
    · exact h
    · rename_i hc
      exact nodup_snoc h (by simpa using hc)
theorem wordsGo_ge : ∀ (ds : List Int) (ws : List Str), ws.length ≤ (wordsGo ds ws).length
  | [], ws => Nat.le_refl _
  | d :: ds, ws => by
    refine Nat.le_trans ?_ (wordsGo_ge ds _)
    split
    · exact Nat.le_refl _
    · simp
theorem wordsGo_pos {ds : List Int} (h : 0 < ds.length) : 1 ≤ (wordsGo ds []).length := by
  cases ds with
  | nil => simp at h
  | cons d ds => exact Nat.le_trans (by simp) (wordsGo_ge ds _)
theorem law_holds : PySem.Challenge.rw_pg0228_01.Holds := hd (by
  k_go0
  (all_goals try k_fold)
  rename_i w s0 s1 mg mb G Y fa o pm cd doc ho hcd hg X V T B TE TW script hs hlay0 hL0 hr0 hl2 as1 as2 sl sv as3 hL ra w1 r0 hI hr hc1 hc2 hD h1 tk1 cO hcO X0 XX TT K F N l0 C2

  rename CodeHd _ (34, 30).fst _ => C1
  rename Fr _ _ _ _ => Fz
  rename News _ _ _ _ => Nz
  rename 37 < _ ∧ 30 < _ => lz
  rename CodeHd _ (41, 37).fst _ => C2
  have C1' : CodeHd (ghostOf s1.heap [(41, 37), (34, 30)]) 34 30 := C1
  have C2' : CodeHd (ghostOf s1.heap [(41, 37), (34, 30)]) 41 37 := C2
  have lN : 37 < s1.heap.objs.size ∧ 30 < s1.heap.objs.size := lz
  clear C1 C2 lz G Y X V B TE TW hs hlay0 hL0 hr0 hl2 ra w1 r0 hr hD hL T hT8 hT9 ho hcd
  generalize ghostOf s1.heap [(41, 37), (34, 30)] = g0 at *
  generalize s1.heap.objs.size = L0 at *
  (try dsimp only)
  (try dsimp only at Fz X0 hcO K TT)
  have F0 : Fr g0 L0 h1 (fun y => if y = Str.ofString "script" then some (.ref sl) else none) := Fz
  have hc0 : cO.data = Data.cell none := hcO
  clear Fz hcO X0
  refine letAQE ?_; intro A9q E9q Q9q
  k_steps
  all_goals (try exact default)
  rename_i hb1 k1 hb2 k2 vc tc hvc hb3 la hb4 lla D1 ws1 hb5 hI1 lD1 D2 xs hb6 F2 N2 hI2 hC2 hL2 lD2
  obtain ⟨ds, hds, hd3, hd4⟩ : ∃ ds, IntsAre xs ds ∧ 3 ≤ ds.length ∧ ds.length ≤ 4 := by
    refine ⟨_, hI2, ?_⟩
    rw [List.length_take, List.length_append]
    simp only [List.length_cons, List.length_nil]
    exact cntb (vcb hvc) _
  clear hI2 hC2 hL2 hvc
  have hxl := hds.length
  unfold Stop
  refine LCg.CompSrc.ledger (by rfl) F2 N2 (.head _) (by simp only [List.size_toArray, sizeLine]; omega) ?_
  intro g
  refine comp_induct (J := fun i ys news => IntsAre ys ((ds.take i).map fun a => a.fmod 14) ∧ news = _) ?_ ?_ _ _ _ _ (Nat.add_zero _) ⟨.nil, rfl⟩
  · rintro ys news ⟨hys, rfl⟩
    unfold LCg.FinE
    intro De he tke Fe Ne oe
    rw [show ds.take xs.toArray.size = ds from List.take_of_length_le (by simp [hxl])] at hys
    have hT0 : Tabs [(37, tabObj #[]), (30, tabObj #[])] := ⟨⟨#[], m1, Or.inl rfl⟩, ⟨#[], .head _, Or.inl rfl⟩⟩
    have N3 : News g0 L0 he ((De, listOf ys.toArray ys.length) :: ([(L0 + 1, cO)] ++ [(37, tabObj #[]), (30, tabObj #[])])) := News.sub Ne (subC (.head _) (subC (by k_mem) (subC (by k_mem) (subC (by k_mem) nilS))))
    have hoffe := off1_all oe
    have hDe : ∀ p ∈ [(L0 + 1, cO)] ++ [(37, tabObj #[]), (30, tabObj #[])], p.1 ≠ De := fun q hq => hoffe q (subC (by k_mem) (subC (by k_mem) (subC (by k_mem) nilS)) q hq)
    have hb14 : ∀ d ∈ ds.map (fun a => a.fmod 14), 0 ≤ d ∧ d < 14 := fun d hd => by
      obtain ⟨a, _, rfl⟩ := List.mem_map.mp hd
      exact ⟨Int.fmod_nonneg_of_pos _ (by decide), Int.fmod_lt_of_pos _ (by decide)⟩
    clear Ne oe hds lD2 lD1 hI1
    generalize hdse : ds.map (fun a => a.fmod 14) = dm at *
    have hdm : dm.length ≤ 4 := by rw [← hdse]; simpa using hd4
    k_steps
    all_goals (try exact default)
    unfold Stop
    (try dsimp only)
    (k_dflt (refine' Does.use ((law_words_does w De ys.length ys dm [(L0 + 1, cO)] [(37, tabObj #[]), (30, tabObj #[])] hys hb14 hdm hT0 (by
      exact allC ⟨fun e => hDe (30, tabObj #[]) m2 e.symm, fun e => hDe (37, tabObj #[]) m1 e.symm⟩ (allC ⟨by show L0 + 1 ≠ 30; omega, by show L0 + 1 ≠ 37; omega⟩ fun _ h => nomatch h)) hDe)) ?k1 ?k2 ?k3 ?k4 ?k5 ?k6 ?k7 ?k8 ?k9 ?k10 ?_; (case k1 => k_asm); (case k2 => k_asm); (case k3 => k_asm); (case k4 => k_asm); (case k5 => k_asm); (case k6 => k_asm); (case k7 => k_asm); (case k8 => first | assumption | exact rfl); (case k9 => ktr_room); (case k10 => ktr_units)); intro r9 n9 h9 tk9 F9 N9 P9)
    (refine ex4 P9 ?_; clear P9; intro Wa wv nw R1 hOB9; refine and8 hOB9 ?_; clear hOB9; intro eOB0 eOB1 hwv hwW hwl ext1 hoW hltW; subst eOB0; subst eOB1)
    have hw3 := wordsGo_len dm [] hb14 (fun _ h => nomatch h)
    have hwn := wordsGo_nodup dm [] List.nodup_nil
    have hw1 := wordsGo_pos (ds := dm) (by rw [← hdse, List.length_map]; omega)
    generalize hws : wordsGo dm [] = ws at *
    clear N3 Fe
    k_steps
    all_goals (try exact default)
    unfold Stop
    (try dsimp only)
    (k_dflt (refine' Does.use ((law_shortest_does w Wa nw wv ws _ hwv hwW hwl (.head _))) ?k1 ?k2 ?k3 ?k4 ?k5 ?k6 ?k7 ?k8 ?k9 ?k10 ?_; (case k1 => k_asm); (case k2 => k_asm); (case k3 => k_asm); (case k4 => k_asm); (case k5 => k_asm); (case k6 => k_asm); (case k7 => k_asm); (case k8 => first | assumption | exact rfl); (case k9 => ktr_room); (case k10 => ktr_units)); intro r9 n9 h9 tk9 F9 N9 P9)
    obtain ⟨rfl, tsh, rfl⟩ := P9
    k_steps
    all_goals (try exact default)
    unfold Stop
    (try dsimp only)
    (k_dflt (refine' Does.use ((law_readings_does w Wa nw wv ws _ _ hwv hw3 hwl (.head _))) ?k1 ?k2 ?k3 ?k4 ?k5 ?k6 ?k7 ?k8 ?k9 ?k10 ?_; (case k1 => k_asm); (case k2 => k_asm); (case k3 => k_asm); (case k4 => k_asm); (case k5 => k_asm); (case k6 => k_asm); (case k7 => k_asm); (case k8 => first | assumption | exact rfl); (case k9 => ktr_room); (case k10 => ktr_units)); intro r9 n9 h9 tk9 F9 N9 P9)
    (refine ex4 P9 ?_; clear P9; intro Ta tn tv Z hOB9; refine and5 hOB9 ?_; clear hOB9; intro eOB0 eOB1 hTab hZ0 hZTa; subst eOB0; subst eOB1)
    have hcZ : (L0 + 1, cO) ∈ Z := hZ0 _ m2
    have hWZ : (Wa, listOf wv.toArray nw) ∈ Z := hZ0 _ (.head _)
    have hR1Z : ∀ p ∈ R1, p ∈ Z := fun p hp => hZ0 p (t3 p hp)
    have uniq : ∀ (a : Addr) (o o' : Obj), (a, o) ∈ Z → (a, o') ∈ Z → o = o' := fun a o o' h1 h2 => Option.some.inj ((N9 _ (.tail _ h1)).1.symm.trans (N9 _ (.tail _ h2)).1)
    obtain ⟨⟨ps1, hp1, _⟩, ⟨ps2, hp2, _⟩⟩ := ext1.tabs
    have hTW : Wa ≠ L0 + 1 ∧ Wa ≠ 30 ∧ Wa ≠ 37 := by
      have h1 := hltW (L0 + 1, cO) m1
      have h2 := hltW (30, tabObj #[]) m3
      have h3 := hltW (37, tabObj #[]) m2
      exact ⟨Nat.ne_of_gt h1, Nat.ne_of_gt h2, Nat.ne_of_gt h3⟩
    obtain ⟨Kd, hKd⟩ : ∃ Kd, Kd = Z.filter (fun p => decide (p.1 ≠ L0 + 1 ∧ p.1 ≠ 30 ∧ p.1 ≠ 37)) := ⟨_, rfl⟩
    have hK : ∀ p ∈ Kd, p ∈ Z ∧ p.1 ≠ L0 + 1 ∧ p.1 ≠ 30 ∧ p.1 ≠ 37 := fun p hp => by
      rw [hKd] at hp
      have := List.mem_filter.mp hp
      exact ⟨this.1, of_decide_eq_true this.2⟩
    have hWK : (Wa, listOf wv.toArray nw) ∈ Kd := by rw [hKd]; exact List.mem_filter.mpr ⟨hWZ, decide_eq_true hTW⟩
    have hTab2 : TabsAre w Kd tv (readings ws 7) := by
      unfold TabsAre at hTab ⊢
      refine hTab.mono ?_
      rintro v c ⟨a, o, e1, e2, e3, e4⟩
      refine ⟨a, o, e1, e2, ?_, e4⟩
      rw [hKd]
      obtain ⟨kvs, ⟨es, ep, _, hdat, _⟩, _⟩ := e4
      refine List.mem_filter.mpr ⟨e3, decide_eq_true ⟨fun e => ?_, fun e => ?_, fun e => ?_⟩⟩
      · have e' : a = L0 + 1 := e
        subst e'
        have := uniq _ _ _ e3 hcZ
        rw [this, hc0] at hdat; cases hdat
      · have e' : a = 30 := e
        subst e'
        have := uniq _ _ _ e3 (hR1Z _ hp1)
        rw [this] at hdat; cases hdat
      · have e' : a = 37 := e
        subst e'
        have := uniq _ _ _ e3 (hR1Z _ hp2)
        rw [this] at hdat; cases hdat
    have hT30 : Ta ≠ L0 + 1 ∧ Ta ≠ 30 ∧ Ta ≠ 37 := ⟨fun e => hZTa _ hcZ e.symm, fun e => hZTa _ (hR1Z _ hp1) e.symm, fun e => hZTa _ (hR1Z _ hp2) e.symm⟩
    have hRc : ∀ p ∈ R1, p.1 ≠ L0 + 1 := ext1.off (L0 + 1, cO) m1 (offC (by show 37 ≠ L0 + 1; omega) (offC (by show 30 ≠ L0 + 1; omega) fun _ h => nomatch h))
    have N10 : News g0 L0 h9 ((L0 + 1, cO) :: (Ta, listOf tv.toArray tn) :: (Kd ++ R1)) := News.sub N9 (subC (.tail _ hcZ) (subC (.head _) fun q hq => .tail _ ((List.mem_append.mp hq).elim (fun h => (hK q h).1) (hR1Z q))))
    have hoffc : ∀ p ∈ (Ta, listOf tv.toArray tn) :: (Kd ++ R1), p.1 ≠ L0 + 1 := offC hT30.1 (offA (fun q hq => (hK q hq).2.1) hRc)
    have hTabs1 := ext1.tabs
    clear N9 uniq hTab hcZ hWZ hKd hp1 hp2 hltW hoW hoffe hDe
    k_steps
    all_goals (try exact default)
    rename_i hA1 hA2 _ _ hA3 cO2 F11 N11 hc1
    have hwvl := strs_length hwv
    unfold Stop
    refine LCg.CompSrc.ledger (by rfl) F11 N11 (.tail _ (.tail _ (List.mem_append_left _ hWK))) (by simp only [List.size_toArray, sizeLine]; omega) ?_
    intro g2
    refine comp_induct (J := fun i ys news => IntsAre ys ((ws.take i).map fun x => (x.length : Int)) ∧ news = _) ?_ ?_ _ _ _ _ (Nat.add_zero _) ⟨.nil, rfl⟩
    · rintro lv news ⟨hlv, rfl⟩
      unfold LCg.FinA
      intro Dl hel tkl Fl Nl ol
      rw [show ws.take wv.toArray.size = ws from List.take_of_length_le (by simp [hwvl])] at hlv
      k_steps
      all_goals (try exact default)
      rename_i _ _ _ hE1 ld hE2 F12 N12 lld
      obtain ⟨c1, hc1e⟩ : ∃ c1 : Nat, c1 = (ws.map fun x => (x.length : Int)).count 1 := ⟨_, rfl⟩
      obtain ⟨c2, hc2e⟩ : ∃ c2 : Nat, c2 = (ws.map fun x => (x.length : Int)).count 2 := ⟨_, rfl⟩
      obtain ⟨c3, hc3e⟩ : ∃ c3 : Nat, c3 = (ws.map fun x => (x.length : Int)).count 3 := ⟨_, rfl⟩
      rw [← hc1e, ← hc2e, ← hc3e] at N12
      unfold Stop
      (try dsimp only)
      have hct : c1 + c2 + c3 = ws.length := by
        have := lens_total hw3
        rw [hc1e, hc2e, hc3e]; exact this
      obtain ⟨⟨pz1, hz1, _⟩, ⟨pz2, hz2, _⟩⟩ := id hTabs1
      have hoD := off1_all ol
      have hltd : ∀ p ∈ Kd ++ R1, p.1 < ld := AllLt.out lld.2.2.2
      have hDl : Dl ≠ 30 ∧ Dl ≠ 37 := ⟨fun e => hoD (30, tabObj pz1) (.tail _ (.tail _ (List.mem_append_right _ hz1))) e.symm, fun e => hoD (37, tabObj pz2) (.tail _ (.tail _ (List.mem_append_right _ hz2))) e.symm⟩
      have hld : ld ≠ 30 ∧ ld ≠ 37 := ⟨Nat.ne_of_gt (hltd (30, tabObj pz1) (List.mem_append_right _ hz1)), Nat.ne_of_gt (hltd (37, tabObj pz2) (List.mem_append_right _ hz2))⟩
      have hown : ∀ q ∈ (Dl, LCg.lst lv) :: (L0 + 1, cO2) :: (Ta, listOf tv.toArray tn) :: Kd, q.1 ≠ 30 ∧ q.1 ≠ 37 := allC hDl (allC ⟨by show L0 + 1 ≠ 30; omega, by show L0 + 1 ≠ 37; omega⟩ (allC hT30.2 fun q hq => (hK q hq).2.2))
      have hc4 := three4 hct hwl
      have hc14 : 1 ≤ c1 + c2 + c3 ∧ c1 + c2 + c3 ≤ 4 := by rw [hct]; exact ⟨hw1, hwl⟩
      (k_dflt (refine' Does.use ((digits2int_ext w ld 0 20 _ [Value.int (-(c3 : Int)) _, Value.int (-(c2 : Int)) _, Value.int (-(c1 : Int)) _, Value.int 1 _] [-(c3 : Int), -(c2 : Int), -(c1 : Int), 1] ((ld, listOf #[Value.int (-(c3 : Int)) _, Value.int (-(c2 : Int)) _, Value.int (-(c1 : Int)) _, Value.int 1 _] 0) :: (Dl, LCg.lst lv) :: (L0 + 1, cO2) :: (Ta, listOf tv.toArray tn) :: Kd) R1 (.cons _ _ (.cons _ _ (.cons _ _ (.cons _ _ .nil)))) (.head _) (by simp) (by simp) (allC (negAbs hc4.2.2) (allC (negAbs hc4.2.1) (allC (negAbs hc4.1) (allC (by decide) fun _ h => nomatch h)))) (by decide) (by decide) hld.2 hTabs1 (offC hld.2 fun q hq => (hown q hq).2))) ?k1 ?k2 ?k3 ?k4 ?k5 ?k6 ?k7 ?k8 ?k9 ?k10 ?_; (case k1 => k_asm); (case k2 => k_asm); (case k3 => k_asm); (case k4 => k_asm); (case k5 => k_asm); (case k6 => k_asm); (case k7 => k_asm); (case k8 => first | assumption | exact rfl); (case k9 => ktr_room); (case k10 => ktr_units)); intro r9 n9 h9 tk9 F9 N9 P9)
      (refine ex2 P9 ?_; clear P9; intro td R2 hOB9; refine and3 hOB9 ?_; clear hOB9; intro hr9 eOB1 ext2; subst eOB1)
      have hr9' : r9 = .int (dvs c1 c2 c3) td := hr9
      clear hr9
      subst hr9'
      have hdb := dvs_bound c1 (Nat.lt_succ_of_le hc4.1) c2 (Nat.lt_succ_of_le hc4.2.1) c3 (Nat.lt_succ_of_le hc4.2.2)
      have hqb := quot_bits c1 (Nat.lt_succ_of_le hc4.1) c2 (Nat.lt_succ_of_le hc4.2.1) c3 (Nat.lt_succ_of_le hc4.2.2) hc14
      have hps := plain_sums hw3 hw1 hwl
      have e1 : dvs ((lens ws).count 1) ((lens ws).count 2) ((lens ws).count 3) = dvs c1 c2 c3 := by rw [hc1e, hc2e, hc3e]; rfl
      rw [e1] at hps
      generalize dvs c1 c2 c3 = dv at *
      have hdb2 := hdb.2 hc14.1
      have hdb1 := hdb.1
      clear hdb e1 hc1e hc2e hc3e hct hc4 hc14 lld hltd hz1 hz2 hoD ol hTabs1 hRc hoffc
      have N13 : News g0 L0 h9 ((Dl, LCg.lst lv) :: (L0 + 1, cO2) :: (Ta, listOf tv.toArray tn) :: (Kd ++ R2)) := News.sub N9 fun q hq => .tail _ hq
      clear N9
      (try clear N11); (try clear N12); (try clear Nl); (try clear F11); (try clear F12); (try clear Fl); (try clear N10)
      k_steps
      all_goals (try exact default)
      unfold Stop
      (try dsimp only)
      rw [show (1 * 2 ^ ((10 : Int) * 20).toNat : Int) = 2 ^ 200 from by decide]
      (k_dflt (refine' Does.use ((int_divmod_does w dv _ _ ((Dl, LCg.lst lv) :: (L0 + 1, cO2) :: (Ta, listOf tv.toArray tn) :: Kd) R2 hdb1 hdb2 ext2.tabs hown)) ?k1 ?k2 ?k3 ?k4 ?k5 ?k6 ?k7 ?k8 ?k9 ?k10 ?_; (case k1 => k_asm); (case k2 => k_asm); (case k3 => k_asm); (case k4 => k_asm); (case k5 => k_asm); (case k6 => k_asm); (case k7 => k_asm); (case k8 => first | assumption | exact rfl); (case k9 => ktr_room); (case k10 => ktr_units)); intro r9 n9 h9 tk9 F9 N9 P9)
      (refine ex4 P9 ?_; clear P9; intro qx R3 tq tq' hOB9; refine and4 hOB9 ?_; clear hOB9; intro eOB0 eOB1 ext3 hltq; subst eOB0; subst eOB1)
      obtain ⟨qn, hqn⟩ : ∃ qn : Nat, qn = (2 ^ 200 / dv).toNat := ⟨_, rfl⟩
      have hqn2 : (2 ^ 200 / dv) = (qn : Int) := by
        rw [hqn]
        exact (Int.toNat_of_nonneg (Int.ediv_nonneg (by decide) (Int.le_trans (by decide) hdb1))).symm
      rw [← hqn] at hps hqb
      rw [hqn2] at N9
      clear hqn hqn2
      have ext3' := ext3.tabs
      (try clear N13)
      k_steps
      all_goals (try exact default)
      unfold Stop
      (try dsimp only)
      rename Fr _ _ _ _ => F14
      rename News _ _ _ _ => N14q
      have N14 : News g0 L0 _ ((Dl, LCg.lst lv) :: (L0 + 1, cO2) :: (Ta, listOf tv.toArray tn) :: Kd ++ R3) := News.sub N14q fun q hq => .tail _ hq
      (k_dflt (refine' Does.use ((int2digits_ext w qn 20 8 _ _ ((Dl, LCg.lst lv) :: (L0 + 1, cO2) :: (Ta, listOf tv.toArray tn) :: Kd) R3 hqb.1 hqb.2.1 (by decide) (by decide) hqb.2.2 (by decide) (by decide) ext3' (fun q hq => (hown q hq).1))) ?k1 ?k2 ?k3 ?k4 ?k5 ?k6 ?k7 ?k8 ?k9 ?k10 ?_; (case k1 => k_asm); (case k2 => k_asm); (case k3 => k_asm); (case k4 => k_asm); (case k5 => k_asm); (case k6 => k_asm); (case k7 => k_asm); (case k8 => first | assumption | exact rfl); (case k9 => ktr_room); (case k10 => ktr_units)); intro r9 n9 h9 tk9 F9 N9 P9)
      (refine ex3 P9 ?_; clear P9; intro dl dgv R4 hOB9; refine and6 hOB9 ?_; clear hOB9; intro eOB0 eOB1 hdg ext4 hlt4 hne4; subst eOB0; subst eOB1)
      have hdr : IntsAre dgv.reverse ((readings ws 7).map vsum) := by rw [← hps]; exact hdg.reverse
      have hdl8 : dgv.length = 8 := by rw [hdg.length]; simp [digs]
      have hs2 : dgv.toArray.toList.reverse = dgv.reverse := rfl
      obtain ⟨⟨q30, hq30, _⟩, ⟨q37, hq37, _⟩⟩ := ext4.tabs
      obtain ⟨Ke, hKe, h30e, h37e, hKo⟩ : ∃ Ke : List (Addr × Obj), (∀ p ∈ Kd, p ∈ Ke) ∧ (30, tabObj q30) ∈ Ke ∧ (37, tabObj q37) ∈ Ke ∧ ∀ p ∈ Ke, p ∈ Kd ++ R4 := ⟨(30, tabObj q30) :: (37, tabObj q37) :: Kd, fun p hp => .tail _ (.tail _ hp), .head _, .tail _ (.head _), subC (List.mem_append_right _ hq30) (subC (List.mem_append_right _ hq37) fun p hp => List.mem_append_left _ hp)⟩
      have hTab3 : TabsAre w Ke tv (readings ws 7) := by
        unfold TabsAre at hTab2 ⊢
        refine hTab2.mono ?_
        rintro v c ⟨a, o, e1, e2, e3, e4⟩
        exact ⟨a, o, e1, e2, hKe _ e3, e4⟩
      have hWKe := hKe _ hWK
      have N15 : News g0 L0 h9 ((dl, listOf dgv.toArray 0) :: (Dl, LCg.lst lv) :: (L0 + 1, cO2) :: (Ta, listOf tv.toArray tn) :: Ke) := News.sub N9 (subC (.head _) (subC m1 (subC m2 (subC m3 fun q hq => t4 _ (hKo q hq)))))
      clear hK hWK hTab2 hown hKe hKo hq30 hq37
      clear N9 N14 N14q F14 hne4 hlt4 ext4 ext3 ext3' ext2 ext1 hqb hps hdg hltq hdb1 hdb2 hR1Z hZ0 hZTa
      iterate 7 (first | (k_unfold; (try dsimp only)) | (k_end; wrow_close) | walk1 | (dsimp only; walk1) | (leave1; (try dsimp only)))
      k_dflt (refine kbaA ?_)
      k_steps
      all_goals (try exact default)
      rename_i hs16 Ds hs17 F16 N16 lDs
      unfold Stop
      obtain ⟨_, hrl⟩ := readings_spec (fun x hx => (hw3 x hx).1) 7
      have htvl : tv.length = 8 := hTab3.1.trans hrl
      refine LCg.CompSrc.ledger (by rfl) F16 N16 (.tail _ (.tail _ (.tail _ (.tail _ (.head _))))) (by simp only [List.size_toArray, sizeLine]; omega) ?_
      intro g3
      refine comp_induct (J := fun i ys news => IntsAre ys (((readings ws 7).take i).map vsum) ∧ news = _) ?_ ?_ _ _ _ _ (Nat.add_zero _) ⟨.nil, rfl⟩
      · rintro yv news ⟨hyv, rfl⟩
        unfold LCg.FinE
        intro Ey hey tky Fy Ny oy
        rw [show (readings ws 7).take tv.toArray.size = readings ws 7 from List.take_of_length_le (by simp [hrl, htvl])] at hyv
        k_steps
        all_goals (try exact default)
        unfold Stop
        (try dsimp only)
        refine ne_same Ny (.tail _ (.head _)) hdr (.head _) hyv rfl (by first | units_room | (dsimp +zetaDelta only; units_room)) ?_
        iterate 4 (first | (k_unfold; (try dsimp only)) | (k_end; wrow_close) | walk1 | (dsimp only; walk1) | (leave1; (try dsimp only)))
        k_steps
        all_goals (try exact default)
        rename_i hh20 tk20 t20 u20 v20 hR20 F20 N20 hk20
        clear hk20
        unfold Stop
        have N21 : News g0 L0 hh20 ((Dl, LCg.lst lv) :: (L0 + 1, cO2) :: (Ta, listOf tv.toArray tn) :: Ke) := News.sub N20 fun q hq => .tail _ (.tail _ (.tail _ hq))
        refine LCt.CompSrcT.range (n := 8) (by rfl) F20 N21 hR20 (by decide) (by rfl) (by rw [sizeLine_eq]; omega) ?_
        intro g4
        refine compT_induct (J := fun i ys news => IntsAre ys (((List.range i).filter fun i => decide ((((readings ws 7).getD i []).length : Int) < vsum ((readings ws 7).getD i []))).map (fun i : Nat => (i : Int))) ∧ news = _) ?_ ?_ _ _ _ _ (Nat.add_zero _) ⟨.nil, rfl⟩
        · rintro zv news ⟨hzv, rfl⟩
          unfold LCg.FinA
          intro Ez hez tkz Fz2 Nz2 oz
          have hHalt : HaltG := trivial
          k_steps
          all_goals (try exact default)
          rename_i l21 hh21 F21 N21 lt21
          unfold Stop
          have hpt := plain_twice hwW (fun x hx => (hw3 x hx).1) hwn hwl
          have hpk := plain_kraft hwW hw3 hwn hwl
          generalize hze : (((List.range 8).filter fun i => decide ((((readings ws 7).getD i []).length : Int) < vsum ((readings ws 7).getD i []))).map (fun i : Nat => (i : Int))) = zs at hzv hpt
          have hzl : zs.length ≤ 8 := by
            rw [← hze, List.length_map]
            exact Nat.le_trans (List.length_filter_le _ _) (by simp)
          refine kmk_add_ints F21 N21 (isList_led N21 (.tail _ (.head _))) (isList_led N21 (.head _)) hzv (.cons 0 _ .nil) ?_ (by rw [sizeLine_eq]; simp only [List.length_cons, List.length_nil]; omega)
          intro D22 uv22 h22 F22 N22 lt22 hi22
          have hu0 : ∃ t, uv22[(0 : Int).toNat]? = some (.int (if shortest ws < 8 then shortest ws else 0) t) := by
            obtain ⟨t, e⟩ := hi22.get 0 ((zs ++ [0]).getD 0 0) (by cases zs <;> rfl)
            exact ⟨t, by rw [← hpt]; exact e⟩
          obtain ⟨t22, hu0⟩ := hu0
          have N23 : News g0 L0 h22 ((D22, listOf uv22.toArray 0) :: (Dl, LCg.lst lv) :: (37, tabObj q37) :: (30, tabObj q30) :: []) := News.sub N22 (subC (.head _) (subC m3 (subC (t6 _ h37e) (subC (t6 _ h30e) nilS))))
          clear N22 N21 F21 hi22 hzv hze hpt hTab3 hWKe hdr hwv
          generalize shortest ws = tol at *
          have hne0 : ¬ (tol != tol) = true := by simp
          have h00 : ¬ ((0 : Int) != 0) = true := by decide
          by_cases h8 : tol < 8
          · simp only [h8, if_true] at hu0
            have hdec := decide_eq_true h8
            k_steps
            all_goals (try exact default)
            unfold Stop
            clear hHalt
            by_cases h0 : 0 < tol
            · have hdec2 := decide_eq_true h0
              iterate 4 (first | (k_unfold; (try dsimp only)) | (k_end; wrow_close) | walk1 | (dsimp only; walk1) | (leave1; (try dsimp only)))
              all_goals (try exact default)
              (first | (k_unfold; (try dsimp only)) | (k_end; wrow_close) | walk1 | (dsimp only; walk1) | (leave1; (try dsimp only)))
              (first | (k_unfold; (try dsimp only)) | (k_end; wrow_close) | walk1 | (dsimp only; walk1) | (leave1; (try dsimp only)))
              (first | (k_unfold; (try dsimp only)) | (k_end; wrow_close) | walk1 | (dsimp only; walk1) | (leave1; (try dsimp only)))
              (first | (k_unfold; (try dsimp only)) | (k_end; wrow_close) | walk1 | (dsimp only; walk1) | (leave1; (try dsimp only)))
              (try dsimp +zetaDelta only)
              rw [hdec2]
              (try dsimp only)
              refine And.intro ?_ ?_
              · refine goodW_bool F22 (by assumption) (raisesW_false ?_) ?_
                · wrow_none_raised
                · kc_post
              · exact ⟨GrownAt.of N23 (by k_mem), GrownAt.of N23 (by k_mem), trivial⟩
            · have hdec2 : ¬ decide (0 < tol) = true := by simpa using h0
              have hpk2 := hpk.resolve_left h0
              have hlvl := hlv.length
              have hwl2 : (lens ws).length = ws.length := by simp [lens]
              k_steps
              all_goals (try exact default)
              unfold Stop
              refine LCg.CompSrc.ledger (by rfl) F22 N23 (.tail _ (.head _)) (by simp only [List.size_toArray, sizeLine]; simp only [List.length_map] at hlvl; omega) ?_
              intro g5
              refine comp_induct (J := fun i ys news => IntsAre ys ((ws.take i).map fun x => ((8 / 2 ^ x.length : Nat) : Int)) ∧ news = _) ?_ ?_ _ _ _ _ (Nat.add_zero _) ⟨.nil, rfl⟩
              · rintro yv news ⟨hyv, rfl⟩
                unfold LCg.FinE
                intro Es hes tks Fs Ns os
                rw [show ws.take lv.toArray.size = ws from List.take_of_length_le (by simp [hlvl])] at hyv
                have hsum : (ws.map fun x => ((8 / 2 ^ x.length : Nat) : Int)).sum ≤ 8 := by
                  have e := sum_cast (fun x => 8 / 2 ^ x.length) ws
                  rw [e]; omega
                have hzl2 : (ws.map fun x => ((8 / 2 ^ x.length : Nat) : Int)).length ≤ 4 := by rw [List.length_map]; exact hwl
                generalize (ws.map fun x => ((8 / 2 ^ x.length : Nat) : Int)) = z8 at hyv hsum hzl2
                have hHalt : HaltG := trivial
                k_steps
                all_goals (try exact default)
                unfold Stop
                clear hHalt
                have hd5 := decide_eq_true hsum
                rename Fr _ _ _ _ => F30
                rename News _ _ _ _ => N30
                (first | (k_unfold; (try dsimp only)) | (k_end; wrow_close) | walk1 | (dsimp only; walk1) | (leave1; (try dsimp only)))
                (try dsimp only)
                (try dsimp +zetaDelta only)
                rw [hd5]
                refine And.intro ?_ ?_
                · refine goodW_bool F30 (by assumption) (raisesW_false ?_) ?_
                  · wrow_none_raised
                  · kc_post
                · exact ⟨GrownAt.of N30 (by k_mem), GrownAt.of N30 (by k_mem), trivial⟩
              · rintro i ys news hi ⟨hys, rfl⟩ v I oI C oC D₃ m₂ h tk E' hP hC hx Fe Ne o3 hne
                have hi' : i < ws.length := by
                  have : i < lv.length := by simpa using hi
                  rw [List.length_map] at hlvl
                  omega
                obtain ⟨t9, hv9⟩ := hlv.get i (ws[i].length : Int) (by rw [List.getElem?_map, List.getElem?_eq_getElem hi']; rfl)
                have hv : v = .int (ws[i].length : Int) t9 := by
                  have hP' : lv[i]? = some v := by simpa using hP
                  rw [hv9] at hP'; exact (Option.some.inj hP').symm
                subst hv
                have e8 : (8 : Int).fdiv (2 ^ ((ws[i].length : Int)).toNat) = ((8 / 2 ^ ws[i].length : Nat) : Int) := by
                  rw [Int.toNat_natCast]; exact fdiv_nat 8 _
                k_steps
                all_goals (try exact default)
                rename Fr _ _ _ _ => F9l
                rename News _ _ _ _ => N9l
                refine comp_end F9l N9l o3 (Or.inr ⟨_, .tail _ (.head _), rfl, _, rfl⟩) ⟨?_, rfl⟩
                rw [List.take_add_one, List.getElem?_eq_getElem hi', List.map_append]
                exact IntsAre.append hys (.cons _ _ .nil)
          · simp only [h8, if_false] at hu0
            have hdec : ¬ decide (tol < 8) = true := by simpa using h8
            k_steps
            all_goals (try exact default)
            unfold Stop
            clear hHalt
            have hdec2 : decide (0 < tol) = true := decide_eq_true (by omega)
            iterate 4 (first | (k_unfold; (try dsimp only)) | (k_end; wrow_close) | walk1 | (dsimp only; walk1) | (leave1; (try dsimp only)))
            all_goals (try exact default)
            (first | (k_unfold; (try dsimp only)) | (k_end; wrow_close) | walk1 | (dsimp only; walk1) | (leave1; (try dsimp only)))
            (first | (k_unfold; (try dsimp only)) | (k_end; wrow_close) | walk1 | (dsimp only; walk1) | (leave1; (try dsimp only)))
            (first | (k_unfold; (try dsimp only)) | (k_end; wrow_close) | walk1 | (dsimp only; walk1) | (leave1; (try dsimp only)))
            (first | (k_unfold; (try dsimp only)) | (k_end; wrow_close) | walk1 | (dsimp only; walk1) | (leave1; (try dsimp only)))
            (try dsimp +zetaDelta only)
            rw [hdec2]
            (try dsimp only)
            refine And.intro ?_ ?_
            · refine goodW_bool F22 (by assumption) (raisesW_false ?_) ?_
              · wrow_none_raised
              · kc_post
            · exact ⟨GrownAt.of N23 (by k_mem), GrownAt.of N23 (by k_mem), trivial⟩
        · rintro i ys news hi ⟨hys, rfl⟩ v I oI C oC D₃ m₂ h tk E' ⟨ti, rfl⟩ hC hx Fe Ne o3 hne
          rw [Int.zero_add] at hx
          have hit : i < tv.length := by omega
          have hi' : i < (readings ws 7).length := by omega
          have hsm := table_small hw3 hwl hi
          obtain ⟨v9, hv9, a9, o9, rfl, hsys, hm9, hD9⟩ := hTab3.get (k := i) (x := (readings ws 7).getD i []) (by rw [List.getD_eq_getElem?_getD, List.getElem?_eq_getElem hi']; rfl)
          obtain ⟨cT, hcT⟩ : ∃ cT, cT = (readings ws 7).getD i [] := ⟨_, rfl⟩
          rw [← hcT] at hD9 hsm
          obtain ⟨kvs9, hdk9, hfk9⟩ := hD9
          have Ne3 : News g0 L0 h ((a9, o9) :: (I, oI) :: (C, oC) :: (D₃, LCg.lst ys) :: (Dl, LCg.lst lv) :: (L0 + 1, cO2) :: (Ta, listOf tv.toArray tn) :: Ke) := News.sub Ne (subC (t6 _ hm9) fun _ h => h)
          k_steps
          all_goals (try exact default)
          · rename_i hgt
            rename Fr _ _ _ _ => F18
            rename News _ _ _ _ => N18
            refine comp_end F18 (News.sub N18 fun q hq => .tail _ (.tail _ hq)) o3 trivial ⟨?_, rfl⟩
            have hp : decide ((((readings ws 7).getD i []).length : Int) < vsum ((readings ws 7).getD i [])) = true := by
              rw [← hcT]; exact decide_eq_true hgt
            rw [filter_range_pos (p := fun i => decide ((((readings ws 7).getD i []).length : Int) < vsum ((readings ws 7).getD i []))) hp, List.map_append]
            exact IntsAre.append hys (.cons _ _ .nil)
          · rename_i hgt
            rename Fr _ _ _ _ => F18
            rename News _ _ _ _ => N18
            refine comp_end F18 (News.sub N18 fun q hq => .tail _ (.tail _ hq)) o3 trivial ⟨?_, rfl⟩
            have hp : ¬ decide ((((readings ws 7).getD i []).length : Int) < vsum ((readings ws 7).getD i [])) = true := by
              rw [← hcT]; exact fun h => hgt (of_decide_eq_true h)
            rw [filter_range_neg (p := fun i => decide ((((readings ws 7).getD i []).length : Int) < vsum ((readings ws 7).getD i []))) hp]
            exact hys
      · rintro i ys news hi ⟨hys, rfl⟩ v I oI C oC D₃ m₂ h tk E' hP hC hx Fe Ne o3 hne
        have hi' : i < (readings ws 7).length := by
          have : i < tv.length := by simpa using hi
          omega
        obtain ⟨v9, hv9, a9, o9, rfl, hsys, hm9, hD9⟩ := hTab3.get (List.getElem?_eq_getElem hi')
        have hv : v = .ref a9 := by
          have hP' : tv[i]? = some v := by simpa using hP
          rw [hv9] at hP'; exact (Option.some.inj hP').symm
        subst hv
        obtain ⟨kvs9, hdk9, hfk9⟩ := hD9
        have Ne3 : News g0 L0 h ((a9, o9) :: (I, oI) :: (C, oC) :: (D₃, LCg.lst ys) :: (Ds, listOf dgv.reverse.toArray 0) :: (dl, listOf dgv.toArray 0) :: (Dl, LCg.lst lv) :: (L0 + 1, cO2) :: (Ta, listOf tv.toArray tn) :: Ke) := News.sub Ne (subC (.tail _ (.tail _ (t6 _ hm9))) fun _ h => h)
        k_steps
        all_goals (try exact default)
        rename Fr _ _ _ _ => F18
        rename News _ _ _ _ => N18
        refine comp_end F18 (News.sub N18 fun q hq => .tail _ (.tail _ hq)) o3 (Or.inr ⟨_, .tail _ (.tail _ (.tail _ (.tail _ (.head _)))), rfl, _, rfl⟩) ⟨?_, rfl⟩
        rw [List.take_add_one, List.getElem?_eq_getElem hi', List.map_append]
        exact IntsAre.append hys (.cons _ _ .nil)
    · rintro i ys news hi ⟨hys, rfl⟩ v I oI C oC D₃ m₂ h tk E' hP hC hx Fe Ne o3 hne
      have hi' : i < ws.length := by rw [← hwvl]; simpa using hi
      obtain ⟨t9, hv9⟩ := strs_get hwv i ws[i] (List.getElem?_eq_getElem hi')
      have hv : v = .str ws[i] t9 := by
        have hP' : wv[i]? = some v := by simpa using hP
        rw [hv9] at hP'; exact (Option.some.inj hP').symm
      subst hv
      have hwi := hw3 ws[i] (List.getElem_mem hi')
      k_steps
      all_goals (try exact default)
      rename Fr _ _ _ _ => F9l
      rename News _ _ _ _ => N9l
      refine comp_end F9l N9l o3 (Or.inr ⟨_, .tail _ (.tail _ (List.mem_append_left _ hWK)), rfl, _, rfl⟩) ⟨?_, rfl⟩
      rw [List.take_add_one, List.getElem?_eq_getElem hi', List.map_append]
      exact IntsAre.append hys (.cons _ _ .nil)
  · rintro i ys news hi ⟨hys, rfl⟩ v I oI C oC D₃ m₂ h tk E' hP hC hx Fe Ne o3 hne
    have hi' : i < ds.length := by rw [← hxl]; simpa using hi
    obtain ⟨t9, hv9⟩ := hds.get i ds[i] (List.getElem?_eq_getElem hi')
    have hv : v = .int ds[i] t9 := by
      have hP' : xs[i]? = some v := by simpa using hP
      rw [hv9] at hP'; exact (Option.some.inj hP').symm
    subst hv
    k_steps
    all_goals (try exact default)
    rename Fr _ _ _ _ => F9
    rename News _ _ _ _ => N9
    refine comp_end F9 N9 o3 (Or.inr ⟨_, .head _, rfl, _, rfl⟩) ⟨?_, rfl⟩
    rw [List.take_add_one, List.getElem?_eq_getElem hi', List.map_append]
    exact IntsAre.append hys (.cons _ _ .nil))
end
end Mine
end
end
end
end
set_option maxHeartbeats 8000000 in
theorem PySem.Challenge.cw_pg0228_01_holds : PySem.Challenge.rw_pg0228_01.Holds :=
  Mine.law_holds
