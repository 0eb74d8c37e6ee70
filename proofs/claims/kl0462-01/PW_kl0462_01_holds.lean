import PyProof.Rows.All
import Wide.All
import OpenK.AllK
import Wide.FinOn
import PySem.Challenge.RW_kl0462_01
open PySem PySem.W PyProof.Rows
set_option compiler.extract_closed false
set_option synthInstance.maxSize 4000
set_option synthInstance.maxHeartbeats 0
set_option Elab.async false
set_option maxRecDepth 100000
set_option maxHeartbeats 8000000
set_option linter.all false
set_option linter.unusedVariables false
set_option linter.unusedSimpArgs false
set_option linter.unusedSectionVars false
namespace Mine
abbrev r0 : OpenRow := { (OpenLaw.row PySem.Challenge.rw_kl0462_01) with writes := true }
def zed (_ : Nat) : Nat := 0
theorem zed_of (n : Nat) (_ : r0.Holds) : zed n = 0 := rfl
theorem mk : zed 1 = 1 \/ True := by
 simp (disch := km_head) only [zed_of, or_true]
end Mine
open PySem PySem.W PySem.Calls PyProof.Rows
set_option maxHeartbeats 0
variable {p : Program} {loose : List Str} {mg mb : Str -> Option Value}
section
namespace Mine
theorem c0 {G B : Prop} (h : G /\ B) : G := h.1
theorem c1 {A0 G B : Prop} (h : A0 /\ G /\ B) : G := h.2.1
theorem c2 {A0 A1 G B : Prop} (h : A0 /\ A1 /\ G /\ B) : G := h.2.2.1
theorem c3 {A0 A1 A2 G B : Prop} (h : A0 /\ A1 /\ A2 /\ G /\ B) : G := h.2.2.2.1
theorem c4 {A0 A1 A2 A3 G B : Prop} (h : A0 /\ A1 /\ A2 /\ A3 /\ G /\ B) : G := h.2.2.2.2.1
theorem c5 {A0 A1 A2 A3 A4 G B : Prop} (h : A0 /\ A1 /\ A2 /\ A3 /\ A4 /\ G /\ B) : G := h.2.2.2.2.2.1
theorem c6 {A0 A1 A2 A3 A4 A5 G B : Prop} (h : A0 /\ A1 /\ A2 /\ A3 /\ A4 /\ A5 /\ G /\ B) : G := h.2.2.2.2.2.2.1
theorem c7 {A0 A1 A2 A3 A4 A5 A6 G B : Prop} (h : A0 /\ A1 /\ A2 /\ A3 /\ A4 /\ A5 /\ A6 /\ G /\ B) : G := h.2.2.2.2.2.2.2.1
theorem c8 {A0 A1 A2 A3 A4 A5 A6 A7 G B : Prop} (h : A0 /\ A1 /\ A2 /\ A3 /\ A4 /\ A5 /\ A6 /\ A7 /\ G /\ B) : G := h.2.2.2.2.2.2.2.2.1
theorem c9 {A0 A1 A2 A3 A4 A5 A6 A7 A8 G B : Prop} (h : A0 /\ A1 /\ A2 /\ A3 /\ A4 /\ A5 /\ A6 /\ A7 /\ A8 /\ G /\ B) : G := h.2.2.2.2.2.2.2.2.2.1
theorem c10 {A0 A1 A2 A3 A4 A5 A6 A7 A8 A9 G B : Prop} (h : A0 /\ A1 /\ A2 /\ A3 /\ A4 /\ A5 /\ A6 /\ A7 /\ A8 /\ A9 /\ G /\ B) : G := h.2.2.2.2.2.2.2.2.2.2.1
theorem c11 {A0 A1 A2 A3 A4 A5 A6 A7 A8 A9 A10 G B : Prop} (h : A0 /\ A1 /\ A2 /\ A3 /\ A4 /\ A5 /\ A6 /\ A7 /\ A8 /\ A9 /\ A10 /\ G /\ B) : G := h.2.2.2.2.2.2.2.2.2.2.2.1
theorem c12 {A0 A1 A2 A3 A4 A5 A6 A7 A8 A9 A10 A11 G B : Prop} (h : A0 /\ A1 /\ A2 /\ A3 /\ A4 /\ A5 /\ A6 /\ A7 /\ A8 /\ A9 /\ A10 /\ A11 /\ G /\ B) : G := h.2.2.2.2.2.2.2.2.2.2.2.2.1
theorem c13 {A0 A1 A2 A3 A4 A5 A6 A7 A8 A9 A10 A11 A12 G B : Prop} (h : A0 /\ A1 /\ A2 /\ A3 /\ A4 /\ A5 /\ A6 /\ A7 /\ A8 /\ A9 /\ A10 /\ A11 /\ A12 /\ G /\ B) : G := h.2.2.2.2.2.2.2.2.2.2.2.2.2.1
theorem c14 {A0 A1 A2 A3 A4 A5 A6 A7 A8 A9 A10 A11 A12 A13 G B : Prop} (h : A0 /\ A1 /\ A2 /\ A3 /\ A4 /\ A5 /\ A6 /\ A7 /\ A8 /\ A9 /\ A10 /\ A11 /\ A12 /\ A13 /\ G /\ B) : G := h.2.2.2.2.2.2.2.2.2.2.2.2.2.2.1
theorem c15 {A0 A1 A2 A3 A4 A5 A6 A7 A8 A9 A10 A11 A12 A13 A14 G B : Prop} (h : A0 /\ A1 /\ A2 /\ A3 /\ A4 /\ A5 /\ A6 /\ A7 /\ A8 /\ A9 /\ A10 /\ A11 /\ A12 /\ A13 /\ A14 /\ G /\ B) : G := h.2.2.2.2.2.2.2.2.2.2.2.2.2.2.2.1
theorem c16 {A0 A1 A2 A3 A4 A5 A6 A7 A8 A9 A10 A11 A12 A13 A14 A15 G B : Prop} (h : A0 /\ A1 /\ A2 /\ A3 /\ A4 /\ A5 /\ A6 /\ A7 /\ A8 /\ A9 /\ A10 /\ A11 /\ A12 /\ A13 /\ A14 /\ A15 /\ G /\ B) : G := h.2.2.2.2.2.2.2.2.2.2.2.2.2.2.2.2.1
theorem c17 {A0 A1 A2 A3 A4 A5 A6 A7 A8 A9 A10 A11 A12 A13 A14 A15 A16 G B : Prop} (h : A0 /\ A1 /\ A2 /\ A3 /\ A4 /\ A5 /\ A6 /\ A7 /\ A8 /\ A9 /\ A10 /\ A11 /\ A12 /\ A13 /\ A14 /\ A15 /\ A16 /\ G /\ B) : G := h.2.2.2.2.2.2.2.2.2.2.2.2.2.2.2.2.2.1
theorem e1 {A0 G : Prop} (h : A0 /\ G) : G := h.2
theorem e2 {A0 A1 G : Prop} (h : A0 /\ A1 /\ G) : G := h.2.2
theorem e3 {A0 A1 A2 G : Prop} (h : A0 /\ A1 /\ A2 /\ G) : G := h.2.2.2
theorem e4 {A0 A1 A2 A3 G : Prop} (h : A0 /\ A1 /\ A2 /\ A3 /\ G) : G := h.2.2.2.2
theorem e5 {A0 A1 A2 A3 A4 G : Prop} (h : A0 /\ A1 /\ A2 /\ A3 /\ A4 /\ G) : G := h.2.2.2.2.2
theorem e6 {A0 A1 A2 A3 A4 A5 G : Prop} (h : A0 /\ A1 /\ A2 /\ A3 /\ A4 /\ A5 /\ G) : G := h.2.2.2.2.2.2
theorem e7 {A0 A1 A2 A3 A4 A5 A6 G : Prop} (h : A0 /\ A1 /\ A2 /\ A3 /\ A4 /\ A5 /\ A6 /\ G) : G := h.2.2.2.2.2.2.2
theorem e8 {A0 A1 A2 A3 A4 A5 A6 A7 G : Prop} (h : A0 /\ A1 /\ A2 /\ A3 /\ A4 /\ A5 /\ A6 /\ A7 /\ G) : G := h.2.2.2.2.2.2.2.2
theorem e9 {A0 A1 A2 A3 A4 A5 A6 A7 A8 G : Prop} (h : A0 /\ A1 /\ A2 /\ A3 /\ A4 /\ A5 /\ A6 /\ A7 /\ A8 /\ G) : G := h.2.2.2.2.2.2.2.2.2
theorem e10 {A0 A1 A2 A3 A4 A5 A6 A7 A8 A9 G : Prop} (h : A0 /\ A1 /\ A2 /\ A3 /\ A4 /\ A5 /\ A6 /\ A7 /\ A8 /\ A9 /\ G) : G := h.2.2.2.2.2.2.2.2.2.2
theorem e11 {A0 A1 A2 A3 A4 A5 A6 A7 A8 A9 A10 G : Prop} (h : A0 /\ A1 /\ A2 /\ A3 /\ A4 /\ A5 /\ A6 /\ A7 /\ A8 /\ A9 /\ A10 /\ G) : G := h.2.2.2.2.2.2.2.2.2.2.2
theorem e12 {A0 A1 A2 A3 A4 A5 A6 A7 A8 A9 A10 A11 G : Prop} (h : A0 /\ A1 /\ A2 /\ A3 /\ A4 /\ A5 /\ A6 /\ A7 /\ A8 /\ A9 /\ A10 /\ A11 /\ G) : G := h.2.2.2.2.2.2.2.2.2.2.2.2
theorem e13 {A0 A1 A2 A3 A4 A5 A6 A7 A8 A9 A10 A11 A12 G : Prop} (h : A0 /\ A1 /\ A2 /\ A3 /\ A4 /\ A5 /\ A6 /\ A7 /\ A8 /\ A9 /\ A10 /\ A11 /\ A12 /\ G) : G := h.2.2.2.2.2.2.2.2.2.2.2.2.2
theorem e14 {A0 A1 A2 A3 A4 A5 A6 A7 A8 A9 A10 A11 A12 A13 G : Prop} (h : A0 /\ A1 /\ A2 /\ A3 /\ A4 /\ A5 /\ A6 /\ A7 /\ A8 /\ A9 /\ A10 /\ A11 /\ A12 /\ A13 /\ G) : G := h.2.2.2.2.2.2.2.2.2.2.2.2.2.2
theorem e15 {A0 A1 A2 A3 A4 A5 A6 A7 A8 A9 A10 A11 A12 A13 A14 G : Prop} (h : A0 /\ A1 /\ A2 /\ A3 /\ A4 /\ A5 /\ A6 /\ A7 /\ A8 /\ A9 /\ A10 /\ A11 /\ A12 /\ A13 /\ A14 /\ G) : G := h.2.2.2.2.2.2.2.2.2.2.2.2.2.2.2
theorem e16 {A0 A1 A2 A3 A4 A5 A6 A7 A8 A9 A10 A11 A12 A13 A14 A15 G : Prop} (h : A0 /\ A1 /\ A2 /\ A3 /\ A4 /\ A5 /\ A6 /\ A7 /\ A8 /\ A9 /\ A10 /\ A11 /\ A12 /\ A13 /\ A14 /\ A15 /\ G) : G := h.2.2.2.2.2.2.2.2.2.2.2.2.2.2.2.2
theorem e17 {A0 A1 A2 A3 A4 A5 A6 A7 A8 A9 A10 A11 A12 A13 A14 A15 A16 G : Prop} (h : A0 /\ A1 /\ A2 /\ A3 /\ A4 /\ A5 /\ A6 /\ A7 /\ A8 /\ A9 /\ A10 /\ A11 /\ A12 /\ A13 /\ A14 /\ A15 /\ A16 /\ G) : G := h.2.2.2.2.2.2.2.2.2.2.2.2.2.2.2.2.2
noncomputable def LtAll (n : Nat) : List Nat -> Prop
 | [] => True
 | a :: r => a < n /\ LtAll n r
theorem LtAll.at {n a : Nat} : ∀ {l : List Nat}, LtAll n l -> a ∈ l -> a < n
 | [], _, m => nomatch m
 | b :: r, h, m => (List.mem_cons.mp m).elim (fun e => e.symm ▸ h.1) (fun m => LtAll.at (l := r) h.2 m)
theorem ltAll_of {n : Nat} : ∀ {l : List (Addr × Obj)}, (∀ p ∈ l, @LT.lt Nat _ p.1 n) -> LtAll n (l.map fun p => p.1)
 | [], _ => trivial
 | p :: r, h => And.intro (h p List.mem_cons_self) (ltAll_of (l := r) fun q hq => h q (List.mem_cons_of_mem _ hq))
theorem ltAll_mem {n : Nat} : ∀ {l : List (Addr × Obj)}, LtAll n (l.map fun p => p.1) -> ∀ q ∈ l, @LT.lt Nat _ q.1 n
 | [], _, _, m => nomatch m
 | p :: r, h, q, m => (List.mem_cons.mp m).elim (fun e => by rw [e]; exact h.1) (fun m => ltAll_mem (l := r) h.2 q m)
noncomputable def SrtF (a : Nat) : List Nat -> Prop
 | [] => True
 | [b] => a < b
 | b :: c :: r => a < b /\ SrtF b (c :: r)
theorem SrtF.tl {a b : Nat} : ∀ {r : List Nat}, SrtF a (b :: r) -> SrtF b r
 | [], _ => trivial
 | _ :: _, h => h.2
theorem SrtF.hd {a b : Nat} : ∀ {r : List Nat}, SrtF a (b :: r) -> a < b
 | [], h => h
 | _ :: _, h => h.1
theorem sH {a b : Nat} : ∀ {l : List Nat}, SrtF a l -> b ∈ l -> a < b
 | _ :: _, h, m => (List.mem_cons.mp m).elim (fun e => e ▸ h.hd) fun m => Nat.lt_trans h.hd (sH h.tl m)
noncomputable def Bef (a b : Nat) : List Nat -> Prop
 | [] => False
 | x :: r => (x = a /\ b ∈ r) \/ Bef a b r
theorem bH {a b : Nat} {r : List Nat} (h : b ∈ r) : Bef a b (a :: r) := .inl ⟨rfl, h⟩
theorem bT {a b x : Nat} {r : List Nat} (h : Bef a b r) : Bef a b (x :: r) := .inr h
theorem Bef.lt {a b : Nat} : ∀ {c : Nat} {l : List Nat}, SrtF c l -> Bef a b (c :: l) -> a < b
 | c, l, S, .inl ⟨e, m⟩ => by rw [<- e]; exact sH S m
 | _, [], _, .inr h => h.elim
 | _, _ :: _, S, .inr h => Bef.lt S.tl h
theorem sNe {a b c : Nat} {l : List Nat} (S : SrtF c l) (h : Bef a b (c :: l)) : a ≠ b := Nat.ne_of_lt (Bef.lt S h)
theorem sLt {a b c : Nat} {l : List Nat} (S : SrtF c l) (h : Bef a b (c :: l)) : a < b := Bef.lt S h
noncomputable def NeAll (e : Nat) : List Nat -> Prop
 | [] => True
 | a :: r => e ≠ a /\ NeAll e r
theorem NeAll.at {e a : Nat} : ∀ {l : List Nat}, NeAll e l -> a ∈ l -> e ≠ a
 | [], _, m => nomatch m
 | b :: r, h, m => (List.mem_cons.mp m).elim (fun e => e.symm ▸ h.1) (fun m => NeAll.at (l := r) h.2 m)
theorem nLt {a b : Nat} (h : a < b) : a ≠ b := Nat.ne_of_lt h
theorem nGt {a b : Nat} (h : b < a) : a ≠ b := Nat.ne_of_gt h
theorem nSy {a b : Nat} (h : b ≠ a) : a ≠ b := h.symm
theorem nP1 {a b : Nat} (h : b < a) : a + 1 ≠ b := Nat.ne_of_gt (Nat.lt_succ_of_lt h)
theorem nP2 {a b : Nat} (h : b < a) : a + 1 + 1 ≠ b := Nat.ne_of_gt (Nat.lt_succ_of_lt (Nat.lt_succ_of_lt h))
theorem nQ1 {a b : Nat} (h : b < a) : b ≠ a + 1 := (nP1 h).symm
theorem nQ2 {a b : Nat} (h : b < a) : b ≠ a + 1 + 1 := (nP2 h).symm
theorem nI1 {a : Nat} : a ≠ a + 1 := Nat.ne_of_lt (Nat.lt_succ_self a)
theorem nI2 {a : Nat} : a + 1 ≠ a := Nat.ne_of_gt (Nat.lt_succ_self a)
theorem lP1 {a b : Nat} (h : a < b) : a < b + 1 := Nat.lt_succ_of_lt h
theorem lP2 {a b : Nat} (h : a < b) : a < b + 1 + 1 := Nat.lt_succ_of_lt (Nat.lt_succ_of_lt h)
theorem LtAll.up {n m : Nat} : ∀ {l : List Nat}, LtAll n l -> n < m -> LtAll m l
 | [], _, _ => trivial
 | _ :: r, h, k => And.intro (Nat.lt_trans h.1 k) (LtAll.up (l := r) h.2 k)
theorem ltS {p a b : Nat} {l base : List Nat} (S : SrtF p l) (h : LtAll p base) (m : a ∈ base) (n : b ∈ l) : a < b := Nat.lt_trans (h.at m) (sH S n)
theorem x0_2 {A1 A2 : Prop} {G : Prop} (h : A1 /\ A2) (k : A1 -> A2 -> G) : G := k h.1 h.2
theorem x0_3 {A1 A2 A3 : Prop} {G : Prop} (h : A1 /\ A2 /\ A3) (k : A1 -> A2 -> A3 -> G) : G := k h.1 h.2.1 h.2.2
theorem x0_4 {A1 A2 A3 A4 : Prop} {G : Prop} (h : A1 /\ A2 /\ A3 /\ A4) (k : A1 -> A2 -> A3 -> A4 -> G) : G := k h.1 h.2.1 h.2.2.1 h.2.2.2
theorem x0_5 {A1 A2 A3 A4 A5 : Prop} {G : Prop} (h : A1 /\ A2 /\ A3 /\ A4 /\ A5) (k : A1 -> A2 -> A3 -> A4 -> A5 -> G) : G := k h.1 h.2.1 h.2.2.1 h.2.2.2.1 h.2.2.2.2
theorem x0_7 {A1 A2 A3 A4 A5 A6 A7 : Prop} {G : Prop} (h : A1 /\ A2 /\ A3 /\ A4 /\ A5 /\ A6 /\ A7) (k : A1 -> A2 -> A3 -> A4 -> A5 -> A6 -> A7 -> G) : G := k h.1 h.2.1 h.2.2.1 h.2.2.2.1 h.2.2.2.2.1 h.2.2.2.2.2.1 h.2.2.2.2.2.2
theorem x1_1 {T1 : Type} {A1 : T1 -> Prop} {G : Prop} (h : ∃ x1, A1 x1) (k : ∀ x1, A1 x1 -> G) : G := h.elim (fun x1 r => k x1 r)
theorem x1_2 {T1 : Type} {A1 A2 : T1 -> Prop} {G : Prop} (h : ∃ x1, A1 x1 /\ A2 x1) (k : ∀ x1, A1 x1 -> A2 x1 -> G) : G := h.elim (fun x1 r => k x1 r.1 r.2)
theorem x1_3 {T1 : Type} {A1 A2 A3 : T1 -> Prop} {G : Prop} (h : ∃ x1, A1 x1 /\ A2 x1 /\ A3 x1) (k : ∀ x1, A1 x1 -> A2 x1 -> A3 x1 -> G) : G := h.elim (fun x1 r => k x1 r.1 r.2.1 r.2.2)
theorem x1_4 {T1 : Type} {A1 A2 A3 A4 : T1 -> Prop} {G : Prop} (h : ∃ x1, A1 x1 /\ A2 x1 /\ A3 x1 /\ A4 x1) (k : ∀ x1, A1 x1 -> A2 x1 -> A3 x1 -> A4 x1 -> G) : G := h.elim (fun x1 r => k x1 r.1 r.2.1 r.2.2.1 r.2.2.2)
theorem x1_5 {T1 : Type} {A1 A2 A3 A4 A5 : T1 -> Prop} {G : Prop} (h : ∃ x1, A1 x1 /\ A2 x1 /\ A3 x1 /\ A4 x1 /\ A5 x1) (k : ∀ x1, A1 x1 -> A2 x1 -> A3 x1 -> A4 x1 -> A5 x1 -> G) : G := h.elim (fun x1 r => k x1 r.1 r.2.1 r.2.2.1 r.2.2.2.1 r.2.2.2.2)
theorem x1_6 {T1 : Type} {A1 A2 A3 A4 A5 A6 : T1 -> Prop} {G : Prop} (h : ∃ x1, A1 x1 /\ A2 x1 /\ A3 x1 /\ A4 x1 /\ A5 x1 /\ A6 x1) (k : ∀ x1, A1 x1 -> A2 x1 -> A3 x1 -> A4 x1 -> A5 x1 -> A6 x1 -> G) : G := h.elim (fun x1 r => k x1 r.1 r.2.1 r.2.2.1 r.2.2.2.1 r.2.2.2.2.1 r.2.2.2.2.2)
theorem x2_2 {T1 : Type} {T2 : Type} {A1 A2 : T1 -> T2 -> Prop} {G : Prop} (h : ∃ x1 x2, A1 x1 x2 /\ A2 x1 x2) (k : ∀ x1 x2, A1 x1 x2 -> A2 x1 x2 -> G) : G := h.elim (fun x1 r0 => r0.elim (fun x2 r => k x1 x2 r.1 r.2))
theorem x2_3 {T1 : Type} {T2 : Type} {A1 A2 A3 : T1 -> T2 -> Prop} {G : Prop} (h : ∃ x1 x2, A1 x1 x2 /\ A2 x1 x2 /\ A3 x1 x2) (k : ∀ x1 x2, A1 x1 x2 -> A2 x1 x2 -> A3 x1 x2 -> G) : G := h.elim (fun x1 r0 => r0.elim (fun x2 r => k x1 x2 r.1 r.2.1 r.2.2))
theorem x2_4 {T1 : Type} {T2 : Type} {A1 A2 A3 A4 : T1 -> T2 -> Prop} {G : Prop} (h : ∃ x1 x2, A1 x1 x2 /\ A2 x1 x2 /\ A3 x1 x2 /\ A4 x1 x2) (k : ∀ x1 x2, A1 x1 x2 -> A2 x1 x2 -> A3 x1 x2 -> A4 x1 x2 -> G) : G := h.elim (fun x1 r0 => r0.elim (fun x2 r => k x1 x2 r.1 r.2.1 r.2.2.1 r.2.2.2))
theorem x2_5 {T1 : Type} {T2 : Type} {A1 A2 A3 A4 A5 : T1 -> T2 -> Prop} {G : Prop} (h : ∃ x1 x2, A1 x1 x2 /\ A2 x1 x2 /\ A3 x1 x2 /\ A4 x1 x2 /\ A5 x1 x2) (k : ∀ x1 x2, A1 x1 x2 -> A2 x1 x2 -> A3 x1 x2 -> A4 x1 x2 -> A5 x1 x2 -> G) : G := h.elim (fun x1 r0 => r0.elim (fun x2 r => k x1 x2 r.1 r.2.1 r.2.2.1 r.2.2.2.1 r.2.2.2.2))
theorem x2_6 {T1 : Type} {T2 : Type} {A1 A2 A3 A4 A5 A6 : T1 -> T2 -> Prop} {G : Prop} (h : ∃ x1 x2, A1 x1 x2 /\ A2 x1 x2 /\ A3 x1 x2 /\ A4 x1 x2 /\ A5 x1 x2 /\ A6 x1 x2) (k : ∀ x1 x2, A1 x1 x2 -> A2 x1 x2 -> A3 x1 x2 -> A4 x1 x2 -> A5 x1 x2 -> A6 x1 x2 -> G) : G := h.elim (fun x1 r0 => r0.elim (fun x2 r => k x1 x2 r.1 r.2.1 r.2.2.1 r.2.2.2.1 r.2.2.2.2.1 r.2.2.2.2.2))
theorem x3_1 {T1 : Type} {T2 : Type} {T3 : Type} {A1 : T1 -> T2 -> T3 -> Prop} {G : Prop} (h : ∃ x1 x2 x3, A1 x1 x2 x3) (k : ∀ x1 x2 x3, A1 x1 x2 x3 -> G) : G := h.elim (fun x1 r0 => r0.elim (fun x2 r1 => r1.elim (fun x3 r => k x1 x2 x3 r)))
theorem x3_2 {T1 : Type} {T2 : Type} {T3 : Type} {A1 A2 : T1 -> T2 -> T3 -> Prop} {G : Prop} (h : ∃ x1 x2 x3, A1 x1 x2 x3 /\ A2 x1 x2 x3) (k : ∀ x1 x2 x3, A1 x1 x2 x3 -> A2 x1 x2 x3 -> G) : G := h.elim (fun x1 r0 => r0.elim (fun x2 r1 => r1.elim (fun x3 r => k x1 x2 x3 r.1 r.2)))
theorem x3_3 {T1 : Type} {T2 : Type} {T3 : Type} {A1 A2 A3 : T1 -> T2 -> T3 -> Prop} {G : Prop} (h : ∃ x1 x2 x3, A1 x1 x2 x3 /\ A2 x1 x2 x3 /\ A3 x1 x2 x3) (k : ∀ x1 x2 x3, A1 x1 x2 x3 -> A2 x1 x2 x3 -> A3 x1 x2 x3 -> G) : G := h.elim (fun x1 r0 => r0.elim (fun x2 r1 => r1.elim (fun x3 r => k x1 x2 x3 r.1 r.2.1 r.2.2)))
theorem x3_4 {T1 : Type} {T2 : Type} {T3 : Type} {A1 A2 A3 A4 : T1 -> T2 -> T3 -> Prop} {G : Prop} (h : ∃ x1 x2 x3, A1 x1 x2 x3 /\ A2 x1 x2 x3 /\ A3 x1 x2 x3 /\ A4 x1 x2 x3) (k : ∀ x1 x2 x3, A1 x1 x2 x3 -> A2 x1 x2 x3 -> A3 x1 x2 x3 -> A4 x1 x2 x3 -> G) : G := h.elim (fun x1 r0 => r0.elim (fun x2 r1 => r1.elim (fun x3 r => k x1 x2 x3 r.1 r.2.1 r.2.2.1 r.2.2.2)))
theorem x3_7 {T1 : Type} {T2 : Type} {T3 : Type} {A1 A2 A3 A4 A5 A6 A7 : T1 -> T2 -> T3 -> Prop} {G : Prop} (h : ∃ x1 x2 x3, A1 x1 x2 x3 /\ A2 x1 x2 x3 /\ A3 x1 x2 x3 /\ A4 x1 x2 x3 /\ A5 x1 x2 x3 /\ A6 x1 x2 x3 /\ A7 x1 x2 x3) (k : ∀ x1 x2 x3, A1 x1 x2 x3 -> A2 x1 x2 x3 -> A3 x1 x2 x3 -> A4 x1 x2 x3 -> A5 x1 x2 x3 -> A6 x1 x2 x3 -> A7 x1 x2 x3 -> G) : G := h.elim (fun x1 r0 => r0.elim (fun x2 r1 => r1.elim (fun x3 r => k x1 x2 x3 r.1 r.2.1 r.2.2.1 r.2.2.2.1 r.2.2.2.2.1 r.2.2.2.2.2.1 r.2.2.2.2.2.2)))
theorem x4_3 {T1 : Type} {T2 : Type} {T3 : Type} {T4 : Type} {A1 A2 A3 : T1 -> T2 -> T3 -> T4 -> Prop} {G : Prop} (h : ∃ x1 x2 x3 x4, A1 x1 x2 x3 x4 /\ A2 x1 x2 x3 x4 /\ A3 x1 x2 x3 x4) (k : ∀ x1 x2 x3 x4, A1 x1 x2 x3 x4 -> A2 x1 x2 x3 x4 -> A3 x1 x2 x3 x4 -> G) : G := h.elim (fun x1 r0 => r0.elim (fun x2 r1 => r1.elim (fun x3 r2 => r2.elim (fun x4 r => k x1 x2 x3 x4 r.1 r.2.1 r.2.2))))
theorem x4_4 {T1 : Type} {T2 : Type} {T3 : Type} {T4 : Type} {A1 A2 A3 A4 : T1 -> T2 -> T3 -> T4 -> Prop} {G : Prop} (h : ∃ x1 x2 x3 x4, A1 x1 x2 x3 x4 /\ A2 x1 x2 x3 x4 /\ A3 x1 x2 x3 x4 /\ A4 x1 x2 x3 x4) (k : ∀ x1 x2 x3 x4, A1 x1 x2 x3 x4 -> A2 x1 x2 x3 x4 -> A3 x1 x2 x3 x4 -> A4 x1 x2 x3 x4 -> G) : G := h.elim (fun x1 r0 => r0.elim (fun x2 r1 => r1.elim (fun x3 r2 => r2.elim (fun x4 r => k x1 x2 x3 x4 r.1 r.2.1 r.2.2.1 r.2.2.2))))
theorem x4_5 {T1 : Type} {T2 : Type} {T3 : Type} {T4 : Type} {A1 A2 A3 A4 A5 : T1 -> T2 -> T3 -> T4 -> Prop} {G : Prop} (h : ∃ x1 x2 x3 x4, A1 x1 x2 x3 x4 /\ A2 x1 x2 x3 x4 /\ A3 x1 x2 x3 x4 /\ A4 x1 x2 x3 x4 /\ A5 x1 x2 x3 x4) (k : ∀ x1 x2 x3 x4, A1 x1 x2 x3 x4 -> A2 x1 x2 x3 x4 -> A3 x1 x2 x3 x4 -> A4 x1 x2 x3 x4 -> A5 x1 x2 x3 x4 -> G) : G := h.elim (fun x1 r0 => r0.elim (fun x2 r1 => r1.elim (fun x3 r2 => r2.elim (fun x4 r => k x1 x2 x3 x4 r.1 r.2.1 r.2.2.1 r.2.2.2.1 r.2.2.2.2))))
theorem x5_5 {T1 : Type} {T2 : Type} {T3 : Type} {T4 : Type} {T5 : Type} {A1 A2 A3 A4 A5 : T1 -> T2 -> T3 -> T4 -> T5 -> Prop} {G : Prop} (h : ∃ x1 x2 x3 x4 x5, A1 x1 x2 x3 x4 x5 /\ A2 x1 x2 x3 x4 x5 /\ A3 x1 x2 x3 x4 x5 /\ A4 x1 x2 x3 x4 x5 /\ A5 x1 x2 x3 x4 x5) (k : ∀ x1 x2 x3 x4 x5, A1 x1 x2 x3 x4 x5 -> A2 x1 x2 x3 x4 x5 -> A3 x1 x2 x3 x4 x5 -> A4 x1 x2 x3 x4 x5 -> A5 x1 x2 x3 x4 x5 -> G) : G := h.elim (fun x1 r0 => r0.elim (fun x2 r1 => r1.elim (fun x3 r2 => r2.elim (fun x4 r3 => r3.elim (fun x5 r => k x1 x2 x3 x4 x5 r.1 r.2.1 r.2.2.1 r.2.2.2.1 r.2.2.2.2)))))
theorem i0_3 {A1 A2 A3 : Prop} (h1 : A1) (h2 : A2) (h3 : A3) : A1 /\ A2 /\ A3 := ⟨h1, h2, h3⟩
theorem i0_4 {A1 A2 A3 A4 : Prop} (h1 : A1) (h2 : A2) (h3 : A3) (h4 : A4) : A1 /\ A2 /\ A3 /\ A4 := ⟨h1, h2, h3, h4⟩
theorem i0_5 {A1 A2 A3 A4 A5 : Prop} (h1 : A1) (h2 : A2) (h3 : A3) (h4 : A4) (h5 : A5) : A1 /\ A2 /\ A3 /\ A4 /\ A5 := ⟨h1, h2, h3, h4, h5⟩
theorem i0_7 {A1 A2 A3 A4 A5 A6 A7 : Prop} (h1 : A1) (h2 : A2) (h3 : A3) (h4 : A4) (h5 : A5) (h6 : A6) (h7 : A7) : A1 /\ A2 /\ A3 /\ A4 /\ A5 /\ A6 /\ A7 := ⟨h1, h2, h3, h4, h5, h6, h7⟩
theorem i1_2 {T1 : Type} {A1 A2 : T1 -> Prop} (x1 : T1) (h1 : A1 x1) (h2 : A2 x1) : ∃ x1, A1 x1 /\ A2 x1 := ⟨x1, h1, h2⟩
theorem i1_3 {T1 : Type} {A1 A2 A3 : T1 -> Prop} (x1 : T1) (h1 : A1 x1) (h2 : A2 x1) (h3 : A3 x1) : ∃ x1, A1 x1 /\ A2 x1 /\ A3 x1 := ⟨x1, h1, h2, h3⟩
theorem i1_4 {T1 : Type} {A1 A2 A3 A4 : T1 -> Prop} (x1 : T1) (h1 : A1 x1) (h2 : A2 x1) (h3 : A3 x1) (h4 : A4 x1) : ∃ x1, A1 x1 /\ A2 x1 /\ A3 x1 /\ A4 x1 := ⟨x1, h1, h2, h3, h4⟩
theorem i2_2 {T1 : Type} {T2 : Type} {A1 A2 : T1 -> T2 -> Prop} (x1 : T1) (x2 : T2) (h1 : A1 x1 x2) (h2 : A2 x1 x2) : ∃ x1 x2, A1 x1 x2 /\ A2 x1 x2 := ⟨x1, x2, h1, h2⟩
theorem i2_3 {T1 : Type} {T2 : Type} {A1 A2 A3 : T1 -> T2 -> Prop} (x1 : T1) (x2 : T2) (h1 : A1 x1 x2) (h2 : A2 x1 x2) (h3 : A3 x1 x2) : ∃ x1 x2, A1 x1 x2 /\ A2 x1 x2 /\ A3 x1 x2 := ⟨x1, x2, h1, h2, h3⟩
theorem i3_2 {T1 : Type} {T2 : Type} {T3 : Type} {A1 A2 : T1 -> T2 -> T3 -> Prop} (x1 : T1) (x2 : T2) (x3 : T3) (h1 : A1 x1 x2 x3) (h2 : A2 x1 x2 x3) : ∃ x1 x2 x3, A1 x1 x2 x3 /\ A2 x1 x2 x3 := ⟨x1, x2, x3, h1, h2⟩
theorem i3_3 {T1 : Type} {T2 : Type} {T3 : Type} {A1 A2 A3 : T1 -> T2 -> T3 -> Prop} (x1 : T1) (x2 : T2) (x3 : T3) (h1 : A1 x1 x2 x3) (h2 : A2 x1 x2 x3) (h3 : A3 x1 x2 x3) : ∃ x1 x2 x3, A1 x1 x2 x3 /\ A2 x1 x2 x3 /\ A3 x1 x2 x3 := ⟨x1, x2, x3, h1, h2, h3⟩
theorem i3_4 {T1 : Type} {T2 : Type} {T3 : Type} {A1 A2 A3 A4 : T1 -> T2 -> T3 -> Prop} (x1 : T1) (x2 : T2) (x3 : T3) (h1 : A1 x1 x2 x3) (h2 : A2 x1 x2 x3) (h3 : A3 x1 x2 x3) (h4 : A4 x1 x2 x3) : ∃ x1 x2 x3, A1 x1 x2 x3 /\ A2 x1 x2 x3 /\ A3 x1 x2 x3 /\ A4 x1 x2 x3 := ⟨x1, x2, x3, h1, h2, h3, h4⟩
theorem i3_5 {T1 : Type} {T2 : Type} {T3 : Type} {A1 A2 A3 A4 A5 : T1 -> T2 -> T3 -> Prop} (x1 : T1) (x2 : T2) (x3 : T3) (h1 : A1 x1 x2 x3) (h2 : A2 x1 x2 x3) (h3 : A3 x1 x2 x3) (h4 : A4 x1 x2 x3) (h5 : A5 x1 x2 x3) : ∃ x1 x2 x3, A1 x1 x2 x3 /\ A2 x1 x2 x3 /\ A3 x1 x2 x3 /\ A4 x1 x2 x3 /\ A5 x1 x2 x3 := ⟨x1, x2, x3, h1, h2, h3, h4, h5⟩
theorem i4_3 {T1 : Type} {T2 : Type} {T3 : Type} {T4 : Type} {A1 A2 A3 : T1 -> T2 -> T3 -> T4 -> Prop} (x1 : T1) (x2 : T2) (x3 : T3) (x4 : T4) (h1 : A1 x1 x2 x3 x4) (h2 : A2 x1 x2 x3 x4) (h3 : A3 x1 x2 x3 x4) : ∃ x1 x2 x3 x4, A1 x1 x2 x3 x4 /\ A2 x1 x2 x3 x4 /\ A3 x1 x2 x3 x4 := ⟨x1, x2, x3, x4, h1, h2, h3⟩
theorem i4_4 {T1 : Type} {T2 : Type} {T3 : Type} {T4 : Type} {A1 A2 A3 A4 : T1 -> T2 -> T3 -> T4 -> Prop} (x1 : T1) (x2 : T2) (x3 : T3) (x4 : T4) (h1 : A1 x1 x2 x3 x4) (h2 : A2 x1 x2 x3 x4) (h3 : A3 x1 x2 x3 x4) (h4 : A4 x1 x2 x3 x4) : ∃ x1 x2 x3 x4, A1 x1 x2 x3 x4 /\ A2 x1 x2 x3 x4 /\ A3 x1 x2 x3 x4 /\ A4 x1 x2 x3 x4 := ⟨x1, x2, x3, x4, h1, h2, h3, h4⟩
theorem i4_5 {T1 : Type} {T2 : Type} {T3 : Type} {T4 : Type} {A1 A2 A3 A4 A5 : T1 -> T2 -> T3 -> T4 -> Prop} (x1 : T1) (x2 : T2) (x3 : T3) (x4 : T4) (h1 : A1 x1 x2 x3 x4) (h2 : A2 x1 x2 x3 x4) (h3 : A3 x1 x2 x3 x4) (h4 : A4 x1 x2 x3 x4) (h5 : A5 x1 x2 x3 x4) : ∃ x1 x2 x3 x4, A1 x1 x2 x3 x4 /\ A2 x1 x2 x3 x4 /\ A3 x1 x2 x3 x4 /\ A4 x1 x2 x3 x4 /\ A5 x1 x2 x3 x4 := ⟨x1, x2, x3, x4, h1, h2, h3, h4, h5⟩
theorem i4_6 {T1 : Type} {T2 : Type} {T3 : Type} {T4 : Type} {A1 A2 A3 A4 A5 A6 : T1 -> T2 -> T3 -> T4 -> Prop} (x1 : T1) (x2 : T2) (x3 : T3) (x4 : T4) (h1 : A1 x1 x2 x3 x4) (h2 : A2 x1 x2 x3 x4) (h3 : A3 x1 x2 x3 x4) (h4 : A4 x1 x2 x3 x4) (h5 : A5 x1 x2 x3 x4) (h6 : A6 x1 x2 x3 x4) : ∃ x1 x2 x3 x4, A1 x1 x2 x3 x4 /\ A2 x1 x2 x3 x4 /\ A3 x1 x2 x3 x4 /\ A4 x1 x2 x3 x4 /\ A5 x1 x2 x3 x4 /\ A6 x1 x2 x3 x4 := ⟨x1, x2, x3, x4, h1, h2, h3, h4, h5, h6⟩
theorem i5_1 {T1 : Type} {T2 : Type} {T3 : Type} {T4 : Type} {T5 : Type} {A1 : T1 -> T2 -> T3 -> T4 -> T5 -> Prop} (x1 : T1) (x2 : T2) (x3 : T3) (x4 : T4) (x5 : T5) (h1 : A1 x1 x2 x3 x4 x5) : ∃ x1 x2 x3 x4 x5, A1 x1 x2 x3 x4 x5 := ⟨x1, x2, x3, x4, x5, h1⟩
theorem i5_5 {T1 : Type} {T2 : Type} {T3 : Type} {T4 : Type} {T5 : Type} {A1 A2 A3 A4 A5 : T1 -> T2 -> T3 -> T4 -> T5 -> Prop} (x1 : T1) (x2 : T2) (x3 : T3) (x4 : T4) (x5 : T5) (h1 : A1 x1 x2 x3 x4 x5) (h2 : A2 x1 x2 x3 x4 x5) (h3 : A3 x1 x2 x3 x4 x5) (h4 : A4 x1 x2 x3 x4 x5) (h5 : A5 x1 x2 x3 x4 x5) : ∃ x1 x2 x3 x4 x5, A1 x1 x2 x3 x4 x5 /\ A2 x1 x2 x3 x4 x5 /\ A3 x1 x2 x3 x4 x5 /\ A4 x1 x2 x3 x4 x5 /\ A5 x1 x2 x3 x4 x5 := ⟨x1, x2, x3, x4, x5, h1, h2, h3, h4, h5⟩
theorem neW : Nonempty World := ⟨⟨fun _ _ => 0, { strHash := fun _ => 0, shareClass := fun _ => 0, mergeTok := fun t => t, idOf := fun _ => 0, idOfShared := fun _ _ => 0, followText := fun _ => false, idOfImm := fun _ => 0 }⟩⟩
theorem neS : Nonempty Shared := ⟨{}⟩
theorem dp0 (n : Nat) : 690 - 10 * (4 + (n + 1)) < 1000 := Nat.lt_of_le_of_lt (Nat.sub_le _ _) (by decide)
theorem dp3 (n : Nat) : 690 - 10 * (4 + (n + 1)) + 1 <= 690 - 10 * 3 := Nat.le_trans (Nat.succ_le_succ (Nat.sub_le_sub_left (Nat.mul_le_mul_left 10 (Nat.le_add_right 4 (n + 1))) 690)) (by decide : 690 - 10 * 4 + 1 <= 690 - 10 * 3)
theorem un3 (n : Nat) : 9000 - 100 * (4 + (n + 1)) + 3 <= 9000 - 100 * 3 := Nat.le_trans (Nat.add_le_add_right (Nat.sub_le_sub_left (Nat.mul_le_mul_left 100 (Nat.le_add_right 4 (n + 1))) 9000) 3) (by decide : 9000 - 100 * 4 + 3 <= 9000 - 100 * 3)
theorem dpn {n : Nat} (h : n <= 3) : 690 - 10 * (4 + (n + 1)) + 1 <= 690 - 10 * (4 + n) := match n, h with
 | 0, _ => by decide
 | 1, _ => by decide
 | 2, _ => by decide
 | 3, _ => by decide
theorem unn {n : Nat} (h : n <= 3) : 9000 - 100 * (4 + (n + 1)) + 3 <= 9000 - 100 * (4 + n) := match n, h with
 | 0, _ => by decide
 | 1, _ => by decide
 | 2, _ => by decide
 | 3, _ => by decide
theorem x5_1 {T1 : Type} {T2 : Type} {T3 : Type} {T4 : Type} {T5 : Type} {A1 : T1 -> T2 -> T3 -> T4 -> T5 -> Prop} {G : Prop} (h : ∃ x1 x2 x3 x4 x5, A1 x1 x2 x3 x4 x5) (k : ∀ x1 x2 x3 x4 x5, A1 x1 x2 x3 x4 x5 -> G) : G := h.elim (fun x1 r0 => r0.elim (fun x2 r1 => r1.elim (fun x3 r2 => r2.elim (fun x4 r3 => r3.elim (fun x5 r => k x1 x2 x3 x4 x5 r)))))
theorem x3_5 {T1 : Type} {T2 : Type} {T3 : Type} {A1 A2 A3 A4 A5 : T1 -> T2 -> T3 -> Prop} {G : Prop} (h : ∃ x1 x2 x3, A1 x1 x2 x3 /\ A2 x1 x2 x3 /\ A3 x1 x2 x3 /\ A4 x1 x2 x3 /\ A5 x1 x2 x3) (k : ∀ x1 x2 x3, A1 x1 x2 x3 -> A2 x1 x2 x3 -> A3 x1 x2 x3 -> A4 x1 x2 x3 -> A5 x1 x2 x3 -> G) : G := h.elim (fun x1 r0 => r0.elim (fun x2 r1 => r1.elim (fun x3 r => k x1 x2 x3 r.1 r.2.1 r.2.2.1 r.2.2.2.1 r.2.2.2.2)))
theorem neP {α β : Type} (a : Nonempty α) (b : Nonempty β) : Nonempty (α × β) := a.elim fun x => b.elim fun y => ⟨(x, y)⟩
theorem neD : Nonempty PySem.Addr := ⟨(0 : Nat)⟩
theorem neR : Nonempty PySem.Around := ⟨{}⟩
theorem neM : Nonempty PySem.Model := neW.elim fun w => ⟨⟨fun _ => Classical.choice inferInstance, Classical.choice inferInstance, w⟩⟩
noncomputable def pk {T : Type} (h : Nonempty T) (p : T -> Prop) : T := @Classical.epsilon T h fun v => ¬ p v
theorem pk_all {T : Type} {h : Nonempty T} {p : T -> Prop} (H : p (pk h p)) (v : T) : p v := Classical.byContradiction fun n => Classical.epsilon_spec (p := fun v => ¬ p v) ⟨v, n⟩ H
structure Hold (P : Prop) : Prop where
 out : P
/- short words for the lines of the walk: each line is a text, so that its compiled form stays small -/
section
open Lean
def mA (k : Name) (w : String) : MacroM (TSyntax `tactic) := return ⟨.node .none k #[.atom .none w]⟩
def mWord (w : String) : MacroM Term := do
 if w == "_" then `(_) else
 if w == "?_" then `(?_) else
 if w == "-1" then `((-1)) else
 match w.toList with
 | '?' :: r => do
   let n <- Macro.addMacroScope (Name.mkSimple (String.ofList r))
   return ⟨.node .none `Lean.Parser.Term.syntheticHole #[.atom .none "?", mkIdent n]⟩
 | '@' :: r => return ⟨.node .none `Lean.Parser.Term.explicit #[.atom .none "@", mkIdent (String.ofList r).toName]⟩
 | '"' :: r => return Syntax.mkStrLit (String.ofList r)
 | c :: r => if c.isDigit then return Syntax.mkNumLit (String.ofList (c :: r)) else
   match w.splitOn ":=" with
   | [n, v] =>
     let t := if v.startsWith "#" then Syntax.mkApp (mkIdent `Value.ref) #[Syntax.mkNumLit (v.drop 1).toString] else Syntax.mkStrLit v
     return ⟨.node .none `Lean.Parser.Term.namedArgument #[.atom .none "(", mkIdent (Name.mkSimple n), .atom .none ":=", t, .atom .none ")"]⟩
   | _ => return mkIdent w.toName
 | [] => `(_)
def mApp (l : List Term) : MacroM Term := match l.reverse with
 | [] => `(_)
 | [f] => return f
 | f :: a => return Syntax.mkApp f a.toArray
def mTerm : List String -> List (List Term) -> MacroM Term
 | [], st => mApp (st.headD [])
 | "(" :: r, st => mTerm r ([] :: st)
 | ")" :: r, st => do
   let t <- mApp (st.headD [])
   mTerm r (((<- `(($t))) :: st.tail.headD []) :: st.tail.tail)
 | w :: r, st => do
   mTerm r (((<- mWord w) :: st.headD []) :: st.tail)
def mTac (w : String) : MacroM (TSyntax `tactic) := match w with
 | "a" => mA `Lean.Parser.Tactic.assumption "assumption"
 | "k" => mA `PySem.W.tacticK_asm "k_asm"
 | "m" => mA `PySem.W.tacticK_mem "k_mem"
 | "r" => mA `Lean.Parser.Tactic.tacticRfl "rfl"
 | "s" => mA `PySem.W.tacticK_is "k_is"
 | "b" => mA `PyProof.Rows.tacticBoot_by_name "boot_by_name"
 | "i" => mA `PySem.W.tacticK_in "k_in"
 | "I" => mA `PySem.W.tacticK_inst "k_inst"
 | "h" => mA `PySem.W.tacticK_here "k_here"
 | "f" => mA `PySem.W.tacticK_flat "k_flat"
 | "A" => `(tactic| with_reducible assumption)
 | "M" => `(tactic| k_dflt k_mem)
 | "o" => `(tactic| omega)
 | "R" => `(tactic| with_reducible k_typeOf)
 | "Q" => `(tactic| with_reducible k_tabat)
 | "O" => `(tactic| omega +splitDisjunctions)
 | "B" => `(tactic| ((repeat (first | (refine' Mine.bH ?hm; (case hm => k_dflt k_mem)) | refine' Mine.bT ?_)); done))
 | "Z" => `(tactic| ((with_reducible refine And.intro ?_ ?_); (repeat' (with_reducible refine And.intro ?_ ?_)); all_goals walk_at "and1"))
 | "d" => `(tactic| decide)
 | "D" => `(tactic| decide +kernel)
 | w => return ⟨.node .none `PyProof.Rows.tacticWalk_at_ #[.atom .none "walk_at", Syntax.mkStrLit w]⟩
def mSeq (l : List (TSyntax `tactic)) : MacroM (TSyntax `tactic) := let a := l.toArray; `(tactic| ($[$a:tactic]*))
def mId (w : String) : MacroM Ident := return mkIdent (<- Macro.addMacroScope (Name.mkSimple w))
def mCases (l : List String) : MacroM (List (TSyntax `tactic)) := l.mapM fun w => do
   match w.splitOn ":" with
   | [n, t] => let t <- mTac t; let n <- mId n; `(tactic| (case $n:ident => $t:tactic))
   | _ => Macro.throwUnsupported
def mRef (t : List String) (c : List String) : MacroM (TSyntax `tactic) := do
 mSeq ((<- `(tactic| refine' $(<- mTerm t []))) :: (<- mCases c))
def mStep (s : String) : MacroM (TSyntax `tactic) := do
 match (s.splitOn " | ").map (fun p => p.splitOn " ") with
 | [[w]] => mTac w
 | ["show" :: t] => let t <- mTerm t []; `(tactic| with_reducible show $t)
 | ["sho" :: t] => let t <- mTerm t []; `(tactic| show $t)
 | ["exact" :: t] => let t <- mTerm t []; `(tactic| exact $t)
 | ["rf" :: t] => let t <- mTerm t []; `(tactic| refine $t)
 | ["all" :: t] => let t <- mTerm t []; `(tactic| with_unfolding_all refine $t)
 | ["ref" :: t] => mRef t []
 | ["ref" :: t, c] => mRef t c
 | ["dflt" :: t, c] => let q <- mRef t c; `(tactic| k_dflt $q)
 | ["key" :: t, c] => let q <- mRef t c; `(tactic| fail_if_success (fail_if_success $q:tactic))
 | ["intro" :: l] => let l := (<- l.mapM mId).toArray; `(tactic| intro $[$l:ident]*)
 | ["klt" :: l] => let l <- l.mapM mId; `(tactic| k_lt $(l.headD (mkIdent `x)):ident)
 | _ => Macro.throwUnsupported
def mGo (s : String) : MacroM (TSyntax `tactic) := do mSeq (<- (s.splitOn " ; ").mapM mStep)
def mFirst (l : List String) : MacroM (TSyntax `tactic) := do
 let a := (<- l.mapM mGo).toArray
 `(tactic| first $[| $a:tactic]*)
end
end Mine
end
local macro_rules | `(tactic| k_tabat) => do Mine.mSeq [<- Mine.mStep "sho @LT.lt Nat _ _ _", <- Mine.mFirst ["a", "ref Mine.LtAll.at ?ha ?hm | ha:A hm:M", "ref Mine.sLt ?ha ?hb | ha:A hb:B"]]
local macro_rules | `(tactic| k_flat) => do Mine.mSeq [<- Mine.mStep "sho @Ne Nat _ _", <- Mine.mFirst (((List.range 16).map fun i => s!"ref Mine.c{i} ?h | h:A") ++ (List.range 15).map fun i => s!"ref Mine.e{i + 1} ?h | h:A")]
local macro_rules | `(tactic| k_typeOf) => do Mine.mSeq [<- Mine.mStep "sho @Ne Nat _ _", <- Mine.mFirst ["a", "ref Mine.nSy ?h | h:A", "ref Mine.nGt ( Mine.LtAll.at ?ha ?hm ) | ha:A hm:M", "ref Mine.nLt ( Mine.LtAll.at ?ha ?hm ) | ha:A hm:M", "ref Mine.nGt ?h | h:A", "ref Mine.nLt ?h | h:A", "ref Mine.NeAll.at ?ha ?hm | ha:A hm:M", "ref Mine.nSy ( Mine.NeAll.at ?ha ?hm ) | ha:A hm:M", "ref Mine.sNe ?ha ?hb | ha:A hb:B", "ref Mine.nSy ( Mine.sNe ?ha ?hb ) | ha:A hb:B", "ref Mine.nLt ( Mine.ltS ?hs ?ha ?hm ?hn ) | hs:A ha:A hm:M hn:M", "ref Mine.nGt ( Mine.ltS ?hs ?ha ?hm ?hn ) | hs:A ha:A hm:M hn:M", "exact Mine.nI1", "exact Mine.nI2", "ref Mine.nP1 ( Mine.LtAll.at ?ha ?hm ) | ha:A hm:M", "ref Mine.nQ1 ( Mine.LtAll.at ?ha ?hm ) | ha:A hm:M", "ref Mine.nP2 ( Mine.LtAll.at ?ha ?hm ) | ha:A hm:M", "ref Mine.nQ2 ( Mine.LtAll.at ?ha ?hm ) | ha:A hm:M", "f", "ref Mine.nSy ?_ ; f"]]
local macro_rules | `(tactic| walk_at "lia") => do let f := fun (n : Lean.Name) => `(tactic| (with_reducible rename $(Lean.mkIdent n) _ _ => hL9; revert hL9)); let a <- f `Mine.LtAll; let b <- f `Mine.NeAll; `(tactic| ((repeat (first | $a:tactic | $b:tactic)); (try dsimp only [Mine.LtAll, Mine.NeAll]); intros; first | lia | omega +splitDisjunctions))
local macro_rules | `(tactic| walk_at "and1") => Mine.mFirst ["R", "Q", "a", "ref Ne.symm ?h | h:A", "lia", "O"]
local macro_rules | `(tactic| omega) => Mine.mFirst ["R", "Q", "Z", "lia", "O"]
local macro_rules | `(tactic| k_lt $h:ident) => `(tactic| (replace $h := Mine.ltAll_of $h; dsimp only [List.map, List.cons_append, List.nil_append] at $h:ident))
local macro_rules | `(tactic| walk_at "lenz") => `(tactic| (simp [strValues]; omega))
local macro_rules | `(tactic| walk_at "ne") => Mine.mFirst ["ref Mine.neP ?a ?b | a:ne b:ne", "exact inferInstance", "exact Mine.neW", "exact Mine.neS", "exact Mine.neD", "exact Mine.neR", "exact Mine.neM"]
section
namespace Mine
noncomputable abbrev AL (n : Nat) : Around := { handled := none, depth := 690 - 10 * n, frames := none, guards := none, units := 9000 - 100 * n }
theorem wp_lift {α : Type} {M : Model} {A B : Around} {t : Sem α} {Q : α -> Shared -> Prop} {E : Value -> Shared -> Prop} {s : Shared} (h : wpAny M B t Q E s)
   (hh : A.handled = B.handled) (hd : A.depth <= B.depth) (hf : B.frames = none) (hg : B.guards = none) (hu : A.units <= B.units) : wpAny M A t Q E s :=
 fun Γ p hΓ => h Γ p ⟨hΓ.1.trans hh, Nat.le_trans hΓ.2.1 hd, fun l hl => (by rw [hf] at hl; cases hl), fun g hl => (by rw [hg] at hl; cases hl), Nat.le_trans hΓ.2.2.2.2 hu⟩
theorem callF {prog : Program} {w : World} {A : Around} {K : Frag} {R : Result -> Shared -> Prop} {s : Shared} {name qual : Str} {params : Arguments} {body : List Stmt} {scope : Scope} {dV kV doc pm cdv ct oc : Value} {an od : Option Addr} {osl : Array (Option Value)} {f : Addr} {args : Args} {binds : List (Str × Value)}
   (X : K.In s.heap) (hlim : s.heap.NoLimit)
   (ho : K.lookup f = some ⟨oc, od, .func (fnOf name qual params body scope dV kV doc pm an cdv ct), osl⟩) (hcd : codeIn K cdv qual = true) (hroom : A.depth < recursionLimit)
   (hbind : BindsTo s (fnOf name qual params body scope dV kV doc pm an cdv ct) args binds) (hloc : ∀ y ∈ binds, scope.names.lookup y.1 = some .local)
   (h : ∀ L h_1, Fr s.heap L h_1 (fun y => binds.reverse.lookup y) -> L = s.heap.objs.size ->
     wpAny (model prog w) (A.deeper (envOf qual scope L f cdv)) (execs body (envOf qual scope L f cdv))
       (fun fl s' => R (.ok (.ret (match fl with | .ret v => v | _ => .none))) s')
       (fun _ _ => False)
       { s with heap := h_1, toks := s.toks + binds.length })
   (hco : scope.isCoroutine = false := by rfl) (hgen : scope.isGenerator = false := by rfl) (hk : scope.kind = .function := by rfl)
   (hcell : ∀ x ∈ scope.names, x.2 ≠ .cell := by decide) : codeAny (model prog w) A (.call (.ref f) args) R s := by
 refine codeAny_call_def (fd := fnOf name qual params body scope dV kV doc pm an cdv ct) (body := body) (binds := binds) hroom (X _ _ ho) rfl hlim (codeRec_of X hcd) rfl hbind hcell hloc (fun h_1 hns hk_1 => ?_) hco hgen hk
 exact wpAny_mono (h s.heap.objs.size h_1 ⟨hns, hk_1, Nat.le_refl _⟩ rfl) (fun _ _ x => x) fun _ _ x => x.elim
structure Kp (s s' : Shared) : Prop where
 keep : ∀ b o, s.heap.get? b = some o -> s'.heap.get? b = some o
 os : s'.os = s.os
 bare : AllBare s.gens -> AllBare s'.gens
theorem Kp.refl (s : Shared) : Kp s s := ⟨fun _ _ e => e, rfl, id⟩
theorem Kp.of {s : Shared} {h : Heap} {t : Nat} (k : ∀ b o, s.heap.get? b = some o -> h.get? b = some o) : Kp s { s with heap := h, toks := t } := ⟨k, rfl, id⟩
theorem Kp.trans {a b c : Shared} (x : Kp a b) (y : Kp b c) : Kp a c := ⟨fun b o e => y.keep b o (x.keep b o e), y.os.trans x.os, fun g => y.bare (x.bare g)⟩
theorem fnE {ocl ocl' : Value} {odd odd' : Option Addr} {osl osl' : Array (Option Value)} {name qual name' qual' : Str} {params params' : Arguments} {body body' : List Stmt} {scope scope' : Scope} {dV kV doc pm cdv ct dV' kV' doc' pm' cdv' ct' : Value} {an an' : Option Addr}
   (e : some (⟨ocl, odd, .func (fnOf name qual params body scope dV kV doc pm an cdv ct), osl⟩ : Obj) = some ⟨ocl', odd', .func (fnOf name' qual' params' body' scope' dV' kV' doc' pm' an' cdv' ct'), osl'⟩) : qual = qual' /\ body = body' /\ scope = scope' := by
 cases e
 exact ⟨rfl, rfl, rfl⟩
theorem hideG {G : Prop} (k : ∀ G' : Prop, (G -> G') -> G') : G := k G id
theorem cutQ {M : Model} {A : Around} {α : Type} {x : Sem α} {Q : α -> Shared -> Prop} {E : Value -> Shared -> Prop} {s : Shared} (h : ∀ Q' : α -> Shared -> Prop, (∀ v s, Q v s -> Q' v s) -> wpAny M A x Q' E s) : wpAny M A x Q E s := h Q fun _ _ z => z
end Mine
end
section
namespace Mine
section
variable {M : Model} {A : Around} {R : GenEnd} {Y : Protocol} {n : Nat} {s_0 : Shared} {c : Code} {fs : List Frame} {s : Shared} {env : Env}
 {K : Flow -> Sem Fin} {H : Value -> Sem Fin} {gd : Bool -> Bool} {lv : List Value -> List Value}
theorem seg_st {st : Stmt} {rest : List Stmt}
   (h : wpAny M (A.over c fs) (exec st env) (fun f s' => f = .next /\ Seg M A R Y n s_0 c ((execs rest env).wrap K H gd lv) fs s') (fun _ _ => False) s) :
   Seg M A R Y n s_0 c ((execs (st :: rest) env).wrap K H gd lv) fs s :=
 seg_execs_cons (seg_wrap (wpAny_mono h (fun f s' h' => by obtain ⟨(rfl), h'⟩ := h'; exact h') fun _ _ x => x.elim))
theorem seg_If {test : Expr} {body orelse : List Stmt} {pos : Pos}
   (h : wpAny M (A.over c fs) (isTrue test env (eval test env)) (fun b s' => Seg M A R Y n s_0 c ((execs (if b = true then body else orelse) env).wrap K H gd lv) fs s') (fun _ _ => False) s) :
   Seg M A R Y n s_0 c ((exec (.If test body orelse pos) env).wrap K H gd lv) fs s := by
 rw [exec_If]
 refine seg_bind_wrap (wpAny_standAt ?_)
 refine seg_bind_wrap (wpAny_mono h (fun b s' h' => ?_) fun _ _ x => x.elim)
 cases b <;> exact h'
noncomputable def kontF (env : Env) (K : Flow -> Sem Fin) (H : Value -> Sem Fin) (gd : Bool -> Bool) (lv : List Value -> List Value) : Result -> Sem Fin := fun r =>
 ((match r with | .ok f => (.pure f : Sem Flow) | .error e => .raise e).onRaise fun (x : Value) => do
       if (<- field x 1) == Value.none then unsupported "frame.own-activation:exception-without-traceback"
       setFlight x env.frame).wrap K H gd lv
theorem seg_For {target iter : Expr} {body orelse : List Stmt} {pos : Pos}
   (h : wpAny M (A.over c fs) (eval iter env) (fun x s₁ => wpAny M (A.over c fs) (pyIter x) (fun it s_2 => ∀ p,
     Seg M A R Y n s_0 (.forLoop target it body orelse env) (M.den (.forLoop target it body orelse env)) (.ret (kontF env K H gd lv) none (gd false) (lv []) c p [] :: fs) s_2) (fun _ _ => False) s₁) (fun _ _ => False) s)
   (hs : ∀ x, foldedSetIterable iter env x = pure x := by intro _; rfl) :
   Seg M A R Y n s_0 c ((exec (.For target iter body orelse pos) env).wrap K H gd lv) fs s := by
 rw [exec_For]
 refine seg_bind_wrap (wpAny_standAt ?_)
 refine seg_bind_wrap (wpAny_mono h (fun x s₁ h_1 => ?_) fun _ _ x => x.elim)
 refine seg_bind_wrap (wpAny_of_eq (hs x) ?_)
 refine seg_bind_wrap (wpAny_standAt ?_)
 refine seg_bind_wrap (wpAny_holding (wpAny_mono h_1 (fun it s_2 h_2 => ?_) fun _ _ x => x.elim))
 exact seg_call h_2
end
section
variable {prog : Program} {w : World} {A : Around} {R : GenEnd} {Y : Protocol} {n : Nat} {s_0 : Shared} {fs : List Frame} {s : Shared} {env : Env}
noncomputable def noteH (env : Env) (e : Value) : Sem Fin := (do noteFrame e env; theTreesLotGoes e : Sem Unit).bind fun _ => .raise e
noncomputable def turnK (target : Expr) (it : Value) (body orelse : List Stmt) (env : Env) : Flow -> Sem Fin
 | .next | .cont => .pure (.again (.forLoop target it body orelse env))
 | .brk => .pure (.done .next)
 | .ret v => .pure (.done (.ret v))
theorem seg_forTurn {target : Expr} {it : Value} {body orelse : List Stmt}
   (h : wpAny (model prog w) (A.over (.forLoop target it body orelse env) fs) (pyNext it) (fun r s₁ => match r with
     | none => Seg (model prog w) A R Y n s_0 (.block orelse env) ((model prog w).den (.block orelse env)) fs s₁
     | some v => wpAny (model prog w) (A.over (.forLoop target it body orelse env) fs) (letOwnedTupleGo target it v) (fun _ s_2 =>
         wpAny (model prog w) (A.over (.forLoop target it body orelse env) fs) (assign target env v) (fun _ s_3 =>
           Seg (model prog w) A R Y n s_0 (.forLoop target it body orelse env) ((execs body env).wrap (turnK target it body orelse env) (noteH env) id id) fs s_3) (fun _ _ => False) s_2) (fun _ _ => False) s₁)
     (fun _ _ => False) s) :
   Seg (model prog w) A R Y n s_0 (.forLoop target it body orelse env) ((model prog w).den (.forLoop target it body orelse env)) fs s := by
 show Seg _ A R Y n s_0 _ ((forTurn target it body orelse env).onRaise (fun x => do noteFrame x env; theTreesLotGoes x)) fs s
 rw [Sem.onRaise_eq_wrap]
 unfold forTurn
 refine seg_bind_wrap (wpAny_standAt ?_)
 refine seg_bind_wrap (wpAny_onRaise (wpAny_mono h (fun r s₁ h_1 => ?_) fun _ _ x => x.elim))
 cases r with
 | none => exact seg_again rfl h_1
 | some v =>
   refine seg_bind_wrap (wpAny_mono h_1 (fun _ s_2 h_2 => ?_) fun _ _ x => x.elim)
   refine seg_bind_wrap (wpAny_mono h_2 (fun _ s_3 h_3 => ?_) fun _ _ x => x.elim)
   rw [Sem.bind_eq_wrap', Sem.wrap_wrap]
   refine (congrArg (fun t => Seg (model prog w) A R Y n s_0 (.forLoop target it body orelse env) t fs s_3) (?_ : _ = (execs body env).wrap (turnK target it body orelse env) (noteH env) id id)).mpr h_3
   exact Sem.wrap_congr (execs body env) _ _ (fun f => by cases f <;> rfl) (fun e => rfl)
theorem seg_block_nil (h : Seg (model prog w) A R Y n s_0 (.block [] env) (.pure (.done .next)) fs s) :
   Seg (model prog w) A R Y n s_0 (.block [] env) ((model prog w).den (.block [] env)) fs s := h
end
noncomputable def GSince (C a : Addr) (s_0 s : Shared) : Prop := ∃ h' tk, s = { s_0 with heap := h', toks := tk } /\ ∀ b o, b ≠ C -> b <= a -> s_0.heap.get? b = some o -> h'.get? b = some o
theorem GSince.refl (C a : Addr) (s : Shared) : GSince C a s s := ⟨s.heap, s.toks, rfl, fun _ _ _ _ q => q⟩
theorem GSince.step {C a : Addr} {s_0 s : Shared} (x : GSince C a s_0 s) {h' : Heap} {tk : Nat} (hk : ∀ b o, b ≠ C -> b <= a -> s.heap.get? b = some o -> h'.get? b = some o) : GSince C a s_0 { s with heap := h', toks := tk } := by
 refine x2_2 (x) fun h_1 tk_1 hcz2 hk_1 => ?_
 try clear x
 cases hcz2
 exact i2_2 h' tk rfl (fun b o hC hw q => hk b o hC hw (hk_1 b o hC hw q))
noncomputable def gP (C a : Addr) (mu : List Addr) (x : Str) : Protocol := fun m s_0 v s kap =>
 (∃ c T tk u, x.cps[x.cps.size - 1 - m]? = some c /\ v = .ref T /\ s.heap.IsTuple T #[.int ((x.cps.size - 1 - m : Nat) : Int) tk, .str ⟨#[c]⟩ u]) /\ GSince C a s_0 s /\
   ∀ s'' : Shared, (∀ b o, b ∉ mu -> s.heap.get? b = some o -> s''.heap.get? b = some o) -> kap (.send .none) s''
noncomputable def gR (C a : Addr) : GenEnd := fun n s_0 r s₁ => r = .ok (.ret .none) /\ (n = 0 /\ GSince C a s_0 s₁)
noncomputable abbrev gSt (e it : Addr) (x : Str) (t : Tok) (i : Nat) (h : Heap) : Prop := (∃ old, IsEnum h e it i old) /\ h.IsStrIter it "str_ascii_iterator" x t i
section
variable {prog : Program} {w : World} {A : Around} {cenv : Env} {e it a : Addr} {mu : List Addr} {x : Str} {t : Tok} {q1 q2 q3 q4 q5 q6 q7 q8 q9 q10 q11 q12 q13 q14 : Pos} {k1 k2 k3 : Nat} {B1 B2 : List Stmt}
noncomputable abbrev gTgt (q12 q13 q14 : Pos) (k3 : Nat) : PySem.Expr := .Tuple [.Name "pos" q12, .Name "ch" q13] k3 q14
noncomputable abbrev gBody (q1 q2 q3 q4 q5 q6 q7 q8 q9 q10 q11 : Pos) (k1 k2 : Nat) (B1 B2 : List Stmt) : List Stmt :=
 [.If (.Name "escape" q1) B1 [.If (.Compare (.Name "ch" q3) [.Eq] [.Constant (.str "\\") k1 q4] q5) B2
   [.Expr (.Yield (some (.Tuple [.Name "pos" q7, .Name "ch" q8] k2 q9)) q10) q11] q6] q2]
theorem seg_loop {F : Frame} {kf : Result -> Sem Fin} {c0 : Code} {p0 : Pos} (hF : F = .ret kf none false [] c0 p0 [])
   (hh : A.handled = none) (hx : ∀ c ∈ x.cps.toList, c < 128 /\ c ≠ 92)
   (hk : cenv.scope.kind = .function) (k_pos : cenv.kindOf "pos" = some .local) (k_ch : cenv.kindOf "ch" = some .local) (k_esc : cenv.kindOf "escape" = some .local)
   (hp : (cenv.scope.kind == .class || (cenv.scope.kind == .module && cenv.locals != cenv.globals)) = false)
   (hco : cenv.scope.isCoroutine = false) (hi : interactive cenv = false)
   (hCe : cenv.locals ≠ e) (hCi : cenv.locals ≠ it) (hei : e ≠ it) (hae : a < e) (hai : a < it) (hmC : cenv.locals ∉ mu) (hme : e ∉ mu) (hmi : it ∉ mu)
   (after : ∀ s_0 s m, s.heap.Ns cenv.locals m -> m "escape" = some (.bool false) -> GSince cenv.locals a s_0 s ->
     Seg (model prog w) A (gR cenv.locals a) (gP cenv.locals a mu x) 0 s_0 c0 (kf (.ok .next)) [] s) :
   ∀ (k i : Nat) (s_0 s : Shared) (m : Str -> Option Value), x.cps.size - i = k -> i <= x.cps.size -> gSt e it x t i s.heap -> s.heap.Ns cenv.locals m -> m "escape" = some (.bool false) ->
     GSince cenv.locals a s_0 s ->
     Seg (model prog w) A (gR cenv.locals a) (gP cenv.locals a mu x) (x.cps.size - i) s_0
       (.forLoop (gTgt q12 q13 q14 k3) (.ref e) (gBody q1 q2 q3 q4 q5 q6 q7 q8 q9 q10 q11 k1 k2 B1 B2) [] cenv)
       ((model prog w).den (.forLoop (gTgt q12 q13 q14 k3) (.ref e) (gBody q1 q2 q3 q4 q5 q6 q7 q8 q9 q10 q11 k1 k2 B1 B2) [] cenv)) [F] s := by
 have hA : ∀ c, (A.over c [F]).handled = none := fun c => by
   subst hF
   show (marksOver [Frame.ret kf none false [] c0 p0 []] (A.handled, A.handled)).1 = none
   rw [hh]; rfl
 have hA0 : A.in1.handled = none := hh
 have W : ∀ A' : Around, A'.handled = none -> _ := fun A' hA => WalksT.enumerateD (prog := prog) (w := w) (A := A') (Draws.strAscii (A := A'.in1) hA it x t) e hei (by simpa using hei) (by simp)
 have off : ∀ {b : Addr}, b <= a -> b ∉ [e, it] := fun {b} hb hm => by
   rcases List.mem_cons.mp hm with rfl | hm
   · exact absurd hb (Nat.not_le.mpr hae)
   · rw [List.mem_singleton.mp hm] at hb; exact absurd hb (Nat.not_le.mpr hai)
 have hFs : splitAtGen [F] = none := by subst hF; rfl
 have hFg : [F].any Frame.guarded = false := by subst hF; rfl
 intro k
 induction k with
 | zero =>
   intro i s_0 s m hk' hle hst hn hesc hs
   have hin : i = x.cps.size := by omega
   subst hin
   rw [Nat.sub_self]
   refine seg_forTurn ((W _ (hA _)).done s _ _ hst fun h' tk hk_1 => ?_)
   refine seg_block_nil ?_
   subst hF
   exact seg_leaf (.ok .next) (after s_0 _ m (hn.at' fun o q => hk_1 _ o (by simp [hCe, hCi]) q) hesc (hs.step fun b o _ hw q => hk_1 b o (off hw) q))
 | succ k ih =>
   intro i s_0 s m hk' hle hst hn hesc hs
   have hlt : i < x.cps.size := by omega
   have hsz : x.cps.size - i = (x.cps.size - (i + 1)) + 1 := by omega
   rw [hsz]
   refine seg_forTurn ((W _ (hA _)).item i s _ _ hlt hst fun T vals h_1 tk_1 hPt hTn hT hMid hk_1 => ?_)
   obtain ⟨ti, y, ⟨c, u, hc, (rfl)⟩, (rfl)⟩ := hPt
   have hTw := (W _ (hA (.forLoop (gTgt q12 q13 q14 k3) (.ref e) (gBody q1 q2 q3 q4 q5 q6 q7 q8 q9 q10 q11 k1 k2 B1 B2) [] cenv))).apart i T h_1 hMid
   refine (W _ (hA _)).go _ _ _ i T _ _ _ hMid fun h_2 hst_2 hk_2 => ?_
   have hT_2 : h_2.IsTuple T #[.int i ti, .str ⟨#[c]⟩ u] := let ⟨o, ho, r⟩ := hT; ⟨o, hk_2 T o hTw ho, r⟩
   have up_2 : ∀ b o, b ∉ [e, it] -> s.heap.get? b = some o -> h_2.get? b = some o := fun b o hb q => hk_2 b o hb (hk_1 b o hb q)
   have hn_2 : h_2.Ns cenv.locals m := hn.at' fun o q => up_2 _ o (by simp [hCe, hCi]) q
   refine wpAny_assign_Tuple (hA _) (s := { s with heap := h_2, toks := tk_1 }) hT_2 rfl rfl fun h_3 hx_3 => ?_
   have lt_2 : ∀ b o, h_2.get? b = some o -> h_3.get? b = some o := fun b o q => hx_3 b o (Nat.ne_of_lt (Heap.lt_size q)) q
   have hn_3 := hn_2.keeps lt_2
   refine wpAny_assignInOrder_more (wpAny_assign_Name (wpAny_storeName_local (s := { s with heap := h_3, toks := tk_1 }) k_pos hn_3 (fun h_4 hn_4 hs_4 => ?_) hp))
   refine wpAny_assignInOrder_more (wpAny_assign_Name (wpAny_storeName_local k_ch hn_4 (fun h_5 hn_5 hs_5 => ?_) hp))
   refine wpAny_assignInOrder_none ?_
   have up_5 : ∀ b o, b ≠ cenv.locals -> h_2.get? b = some o -> h_5.get? b = some o := fun b o hb q => hs_5.extBut b o hb (hs_4.extBut b o hb (lt_2 b o q))
   have hst_5 : gSt e it x t (i + 1) h_5 := (W _ hh).frame _ _ _ hst_2 fun b hb o q => up_5 b o (by
     rcases List.mem_cons.mp hb with rfl | hb
     · exact fun z => hCe z.symm
     · rw [List.mem_singleton.mp hb]; exact fun z => hCi z.symm) q
   have hs' : GSince cenv.locals a s_0 { s with heap := h_5, toks := tk_1 + 1 + 1 } := hs.step fun b o hb hw q => up_5 b o hb (up_2 b o (off hw) q)
   generalize hm_5 : (fun y => if y = (PySem.Str.ofString "ch") then some (Value.str ⟨#[c]⟩ u) else if y = (PySem.Str.ofString "pos") then some (Value.int i ti) else m y) = m_5 at hn_5
   have e1 : m_5 "escape" = some (.bool false) := by rw [<- hm_5]; exact hesc
   have e2 : m_5 "ch" = some (.str ⟨#[c]⟩ u) := by rw [<- hm_5]; rfl
   have e3 : m_5 "pos" = some (.int i ti) := by rw [<- hm_5]; rfl
   have hc92 : c ≠ 92 := (hx c (by
     obtain ⟨h1, h2⟩ := (Array.getElem?_eq_some_iff.mp hc)
     rw [<- h2]; simp)).2
   refine seg_execs_cons (seg_If (wpAny_isTrue_value (wpAny_Name (wpAny_loadName_local hk k_esc hn_5 e1 (wpAny_truthy_bool ?_))) rfl))
   refine seg_execs_cons (seg_If (wpAny_isTrue_Compare1 (wpAny_Name (wpAny_loadName_local hk k_ch hn_5 e2 (wpAny_Constant_str (PyProof.Rows.eq_str (wpAny_truthy_bool ?_)))))))
   have hne : ((⟨#[c]⟩ : PySem.Str) == PySem.Str.ofString "\\") = false := by
     rw [beq_eq_false_iff_ne]
     intro z
     have := congrArg (fun y : PySem.Str => y.cps.toList) z
     have e : (PySem.Str.ofString "\\").cps.toList = [92] := by decide +kernel
     rw [e] at this
     exact hc92 (by simpa using this)
   rw [hne]
   refine seg_execs_cons (seg_Expr_Yield hFs rfl hFg (wpAny_Tuple (wpAny_items_cons (wpAny_Name (wpAny_loadName_local hk k_pos hn_5 e3 (wpAny_items_cons (wpAny_Name (wpAny_loadName_local hk k_ch hn_5 e2 (wpAny_items_nil ⟨(show 2 <= sizeLine by decide), fun kap hkap => ?_⟩)))))))) hco hi)
   refine i0_3 ⟨c, _, ti, u, ?_, rfl, ?_⟩ (hs'.step fun b o _ _ q => Heap.get?_push_of_some _ q) (fun s'' hal => ?_)
   · rw [show x.cps.size - 1 - (x.cps.size - (i + 1)) = i by omega]; exact hc
   · rw [show x.cps.size - 1 - (x.cps.size - (i + 1)) = i by omega]
     exact ⟨_, Heap.get?_push_size _ rfl, rfl, _, rfl⟩
   · refine hkap _ _ ?_
     refine seg_again rfl ?_
     refine ih (i + 1) s'' s'' m_5 (by omega) hlt ?_ ?_ e1 (GSince.refl _ _ _)
     · exact (W _ hh).frame _ _ _ hst_5 fun b hb o q => hal b o (by
         rcases List.mem_cons.mp hb with rfl | hb
         · exact hme
         · rw [List.mem_singleton.mp hb]; exact hmi) (Heap.get?_push_of_some _ q)
     · exact hn_5.at' fun o q => hal _ o hmC (Heap.get?_push_of_some _ q)
theorem seg_fun {r1 r2 r3 r4 r5 r6 r7 r8 r9 r10 r11 r12 : Pos} {k4 k5 : Nat} {B3 : List Stmt} {s_0 s : Shared} {m mg mb : Str -> Option Value}
   (hh : A.handled = none) (hx : ∀ c ∈ x.cps.toList, c < 128 /\ c ≠ 92)
   (hk : cenv.scope.kind = .function) (k_pos : cenv.kindOf "pos" = some .local) (k_ch : cenv.kindOf "ch" = some .local) (k_esc : cenv.kindOf "escape" = some .local) (k_addr : cenv.kindOf "addr" = some .local)
   (k_en : cenv.kindOf "enumerate" = some .globalImplicit)
   (hp : (cenv.scope.kind == .class || (cenv.scope.kind == .module && cenv.locals != cenv.globals)) = false)
   (hco : cenv.scope.isCoroutine = false) (hi : interactive cenv = false) (hCa : cenv.locals < a) (has : a < s.heap.objs.size)
   (hmu : ∀ b ∈ mu, b < cenv.locals)
   (hg : s.heap.Ns cenv.globals mg) (hb : s.heap.Ns cenv.builtins mb) (hgC : cenv.globals ≠ cenv.locals) (hbC : cenv.builtins ≠ cenv.locals) (eg : mg "enumerate" = none) (eb : mb "enumerate" = some (.type "enumerate"))
   (hn : s.heap.Ns cenv.locals m) (ha : m "addr" = some (.str x t)) (hs : GSince cenv.locals a s_0 s) :
   Seg (model prog w) A (gR cenv.locals a) (gP cenv.locals a mu x) x.cps.size s_0 (.func [.Assign [.Name "pos" r1] (.Constant (.int 0) k4 r2) r3, .Assign [.Name "escape" r4] (.Constant (.bool false) k5 r5) r6,
       .For (gTgt q12 q13 q14 k3) (.Call (.Name "enumerate" r7) [.Name "addr" r8] [] r9) (gBody q1 q2 q3 q4 q5 q6 q7 q8 q9 q10 q11 k1 k2 B1 B2) [] r10,
       .If (.Name "escape" r11) B3 [] r12] cenv)
     ((model prog w).den (.func [.Assign [.Name "pos" r1] (.Constant (.int 0) k4 r2) r3, .Assign [.Name "escape" r4] (.Constant (.bool false) k5 r5) r6,
       .For (gTgt q12 q13 q14 k3) (.Call (.Name "enumerate" r7) [.Name "addr" r8] [] r9) (gBody q1 q2 q3 q4 q5 q6 q7 q8 q9 q10 q11 k1 k2 B1 B2) [] r10,
       .If (.Name "escape" r11) B3 [] r12] cenv)) [] s := by
 have hA : ∀ c, (A.over c []).handled = none := fun c => hh
 refine seg_func ?_
 refine seg_st (wpAny_Assign_Name (wpAny_Constant_int (wpAny_storeName_local k_pos hn (fun h_1 hn_1 hs_1 => ⟨rfl, ?_⟩) hp)))
 refine seg_st (wpAny_Assign_Name (wpAny_Constant_bool (wpAny_storeName_local k_esc hn_1 (fun h_2 hn_2 hs_2 => ⟨rfl, ?_⟩) hp)))
 have hg_2 : h_2.Ns cenv.globals mg := (hg.sameBut hs_1 hgC).sameBut hs_2 hgC
 have hb_2 : h_2.Ns cenv.builtins mb := (hb.sameBut hs_1 hbC).sameBut hs_2 hbC
 generalize hm_2 : (fun y => if y = (PySem.Str.ofString "escape") then some (Value.bool false) else if y = (PySem.Str.ofString "pos") then some (Value.int 0 s.toks) else m y) = m_2 at hn_2
 have e1 : m_2 "escape" = some (.bool false) := by rw [<- hm_2]; rfl
 have e2 : m_2 "addr" = some (.str x t) := by rw [<- hm_2]; exact ha
 have hs' : GSince cenv.locals a s_0 { s with heap := h_2, toks := s.toks + 1 + 1 + 1 } := hs.step fun b o hbC _ q => hs_2.extBut b o hbC (hs_1.extBut b o hbC q)
 have hz : h_2.objs.size = s.heap.objs.size := hs_2.1.trans hs_1.1
 refine seg_execs_cons (seg_For (wpAny_Call_ofName (Name_function_global hk k_en (loadGlobal_builtin hg_2 eg hb_2 eb (callWith_type1 (wpAny_items_cons (wpAny_Name (wpAny_loadName_local hk k_addr hn_2 e2 (wpAny_items_nil (call_enumerate_str fun h_3 he_3 hi_3 hz_3 hk_3 => ?_))))))))))
 refine wpAny_pyIter_enum he_3 fun p => ?_
 have hty : strIterType x = "str_ascii_iterator" := by
   unfold strIterType
   rw [if_pos]
   rw [<- Array.all_toList, List.all_eq_true]
   intro c hc
   exact decide_eq_true (hx c hc).1
 rw [hty] at hi_3
 have hlt : cenv.locals < h_2.objs.size := hn_2.lt
 refine seg_loop (t := t) (it := h_2.objs.size) rfl hh hx hk k_pos k_ch k_esc hp hco hi ?_ ?_ ?_ ?_ ?_ ?_ ?_ ?_ ?_ x.cps.size 0 s_0 _ m_2 rfl (Nat.zero_le _) ⟨⟨_, he_3⟩, hi_3⟩ (hn_2.keeps hk_3) e1 ?_
 · exact Nat.ne_of_lt (Nat.lt_succ_of_lt hlt)
 · exact Nat.ne_of_lt hlt
 · exact Nat.succ_ne_self _
 · rw [hz]; exact Nat.lt_succ_of_lt has
 · rw [hz]; exact has
 · exact fun z => Nat.lt_irrefl _ (hmu _ z)
 · exact fun z => Nat.lt_irrefl _ (Nat.lt_trans (Nat.lt_trans (hmu _ z) hlt) (Nat.lt_succ_self _))
 · exact fun z => Nat.lt_irrefl _ (Nat.lt_trans (hmu _ z) hlt)
 · intro s_0 s m hn hesc hs
   show Seg _ A _ _ 0 s_0 _ ((execs [.If (.Name "escape" r11) B3 [] r12] cenv).wrap _ _ _ _) [] s
   refine seg_execs_cons (seg_If (wpAny_isTrue_value (wpAny_Name (wpAny_loadName_local hk k_esc hn hesc (wpAny_truthy_bool ?_))) rfl))
   exact seg_end (.ok (.ret .none)) ⟨rfl, rfl, hs⟩
 · exact hs'.step fun b o _ _ q => hk_3 b o q
end
end Mine
end
section
namespace Mine
structure GS (prog : Program) (w : World) (A : Around) (a : Addr) (g : Nat) (C : Addr) (mu : List Addr) (x : Str) (j : Nat) (s : Shared) : Prop where
 gen : s.heap.IsGen a g
 lim : s.heap.NoLimit
 go : ∃ gs, s.gens[g]? = some gs /\ ∀ s'' : Shared, (∀ b o, b ∉ mu -> s.heap.get? b = some o -> s''.heap.get? b = some o) ->
   gs.Goes (model prog w) A.in1 (gR C a) (gP C a mu x) (x.cps.size - j) (.send .none) s''
theorem GS.keeps {prog : Program} {w : World} {A : Around} {a : Addr} {g : Nat} {C : Addr} {mu : List Addr} {x : Str} {j : Nat} {s : Shared} (G : GS prog w A a g C mu x j s) (ha : a ∉ mu) (hc : cStatics ∉ mu)
   {h' : Heap} {tk : Nat} (hk : ∀ b o, b ∉ mu -> s.heap.get? b = some o -> h'.get? b = some o) : GS prog w A a g C mu x j { s with heap := h', toks := tk } := by
 refine ⟨?_, ?_, ?_⟩
 · refine x3_2 (G.gen) fun o nm qn ho r => ?_
   exact i3_2 o nm qn (hk _ _ ha ho) r
 · refine x1_2 (G.lim) fun mc hns hn => ?_
   exact i1_2 mc (hns.at' fun o q => hk _ o hc q) hn
 · refine x1_2 (G.go) fun gs hgs hgo => ?_
   exact i1_2 gs hgs (fun s'' hal => hgo s'' fun b o hb q => hal b o hb (hk b o hb q))
section
variable {prog : Program} {w : World} {A : Around} {a : Addr} {g : Nat} {C : Addr} {mu : List Addr} {x : Str} {j : Nat} {s : Shared} {E : Value -> Shared -> Prop}
theorem g_wake {n : Nat} {gs : GenState} {Q : Option Value -> Shared -> Prop} (hh : A.handled = none) (hroom : A.depth < recursionLimit)
   (hl : s.heap.NoLimit) (hg : s.heap.IsGen a g) (hgs : s.gens[g]? = some gs)
   (hgo : gs.Goes (model prog w) A.in1 (gR C a) (gP C a mu x) n (.send .none) (s.setGen g .running))
   (hY : ∀ v s₁ gs', gs'.bare = true -> gP C a mu x (n - 1) (s.setGen g .running) v s₁ (fun r' s'' => match n with
       | 0 => False
       | m + 1 => gs'.Goes (model prog w) A.in1 (gR C a) (gP C a mu x) m r' s'') -> Q (some v) (s₁.setGen g gs'))
   (hP : n = 0 -> ∀ s₁, GSince C a (s.setGen g .running) s₁ -> ∀ h', (∀ b o, s₁.heap.get? b = some o -> h'.get? b = some o) -> Q none { s₁.setGen g .finished with heap := h' }) :
   wpAny (model prog w) A (pyNext (.ref a)) Q E s := by
 unfold pyNext
 refine wpAny_bind (wpAny_attempt (wpAny_callSpecial?_slot (name := Str.ofString "__next__") hg.typeIs slot_gen_next
   (wpAny_call_entry slot_gen_next hg.typeIs entry_gen_next ?_ (args_gen_next _))))
 show wpAny _ A.in1 (Builtin.Generator.genWake (.ref a) (.send .none)) _ _ s
 unfold Builtin.Generator.genWake
 refine wpAny_bind (wpAny_holding (wpAny_genNumber hg (wpAny_bind (wpAny_genState hgs ?_))))
 cases gs with
 | running => exact hgo.elim
 | finished => exact hgo.elim
 | _ =>
   refine wpAny_bind (wpAny_roomToWake hl hroom ?_)
   show wpAny _ A.in1 (.resume g (.send .none) [] _) _ _ s
   refine wpAny_resumeQ hgs hgo (fun r s₁ hx => ?_) (fun v s₁ gs' hb hv => ?_)
   · refine x0_3 (hx) fun hcz0 hn hp => ?_
     try clear hx
     cases hcz0
     show wpAny _ A.in1 (newExc (.type "StopIteration") [] >>= _) _ _ _
     refine wpAny_bind ?_
     simp only [newExc, newTuple]
     refine wpAny_bind (wpAny_newObj_type ?_ (by size_fits))
     refine wpAny_bind (m := firstArgMember _ _) (wpAny_of_eq (a := Value.none) (by first | rfl | (simp only [firstArgMember]; rfl)) ?_)
     refine wpAny_newObj_type ?_ (by size_fits)
     simp only [raiseNew]
     refine wpAny_bind (wpAny_bind (wpAny_handled ?_))
     rw [show A.in1.handled = none from hh]
     refine wpAny_throw ?_
     refine wpAny_bind (wpAny_isInstance (T := "StopIteration") (b := true) ⟨_, Heap.get?_push_size _ rfl, rfl⟩ isSubtype_stop ?_)
     exact wpAny_pure (hP hn s₁ hp _ fun b o hb => Heap.get?_push_of_some _ (Heap.get?_push_of_some _ hb))
   · exact wpAny_pure ⟨v, rfl, wpAny_pure (hY v s₁ gs' hb hv)⟩
theorem g_item {Q : Option Value -> Shared -> Prop} (hh : A.handled = none) (hroom : A.depth < recursionLimit) (hCa : C ≠ a) (hcC : cStatics ≠ C) (hca : cStatics <= a)
   (G : GS prog w A a g C mu x j s) (hj : j < x.cps.size)
   (h : ∀ c T tk u s', x.cps[j]? = some c -> s'.heap.IsTuple T #[.int (j : Int) tk, .str ⟨#[c]⟩ u] -> GS prog w A a g C mu x (j + 1) s' -> (∀ b o, b ≠ C -> b <= a -> s.heap.get? b = some o -> s'.heap.get? b = some o) ->
     s'.os = s.os -> (AllBare s.gens -> AllBare s'.gens) -> Q (some (.ref T)) s') :
   wpAny (model prog w) A (pyNext (.ref a)) Q E s := by
 refine x1_2 (G.go) fun gs hgs hgo => ?_
 refine x1_1 (⟨x.cps.size - j - 1, by omega⟩ : ∃ m, x.cps.size - j = m + 1) fun m hm => ?_
 rw [hm] at hgo
 refine g_wake hh hroom G.lim G.gen hgs (hgo _ fun _ _ _ q => q) (fun v s₁ gs' hb hv => ?_) (fun hn => absurd hn (Nat.succ_ne_zero m))
 obtain ⟨⟨c, T, tk, u, hc, (rfl), hT⟩, ⟨h_1, tk_1, (rfl), hk_1⟩, hkap⟩ := hv
 have e1 : x.cps.size - 1 - (m + 1 - 1) = j := by omega
 rw [e1] at hc hT
 have hse : ((s.setGen g .running).setGen g gs').gens[g]? = some gs' := setGen_self (gs := .running) (setGen_self hgs)
 refine h c T tk u _ hc hT ⟨?_, ?_, gs', hse, fun s'' hal => ?_⟩ (fun b o hbC hba q => hk_1 b o hbC hba q) rfl ?_
 · refine x3_2 (G.gen) fun o nm qn ho r => ?_
   exact i3_2 o nm qn (hk_1 _ _ (Ne.symm hCa) (Nat.le_refl _) ho) r
 · refine x1_2 (G.lim) fun mc hns hn => ?_
   exact i1_2 mc (hns.at' fun o q => hk_1 _ o hcC hca q) hn
 · rw [show x.cps.size - (j + 1) = m by omega]
   exact hkap s'' hal
 · intro hB
   exact (GenOnlyQ.of ((GenOnly.setGen s g .running).trans (GenOnly.setGen _ g gs')) hse hb).bare hB
theorem g_done {Q : Option Value -> Shared -> Prop} (hh : A.handled = none) (hroom : A.depth < recursionLimit)
   (G : GS prog w A a g C mu x x.cps.size s)
   (h : ∀ s', (∀ b o, b ≠ C -> b <= a -> s.heap.get? b = some o -> s'.heap.get? b = some o) -> s'.os = s.os -> (AllBare s.gens -> AllBare s'.gens) -> Q none s') :
   wpAny (model prog w) A (pyNext (.ref a)) Q E s := by
 refine x1_2 (G.go) fun gs hgs hgo => ?_
 rw [Nat.sub_self] at hgo
 refine g_wake hh hroom G.lim G.gen hgs (hgo _ fun _ _ _ q => q) (fun v s₁ gs' hb hv => ?_) (fun _ s₁ hp h' hk => ?_)
 · obtain ⟨_, _, hkap⟩ := hv
   exact False.elim (hkap s₁ fun _ _ _ q => q)
 · refine x2_2 (hp) fun h_1 tk_1 hcz2 hk_1 => ?_
   try clear hp
   cases hcz2
   refine h _ (fun b o hbC hba q => hk b o (hk_1 b o hbC hba q)) rfl fun hB => ?_
   exact (GenOnlyQ.of ((GenOnly.setGen s g .running).trans (GenOnly.setGen _ g .finished)) (setGen_self (gs := .running) (setGen_self hgs)) rfl).bare hB
end
theorem callG {prog : Program} {w : World} {A : Around} {K : Frag} {R : Result -> Shared -> Prop} {s : Shared} {name qual : Str} {params : Arguments} {body : List Stmt} {scope : Scope} {dV kV doc pm cdv ct oc : Value} {an od : Option Addr} {osl : Array (Option Value)} {f : Addr} {args : Args} {binds : List (Str × Value)}
   (X : K.In s.heap) (hlim : s.heap.NoLimit)
   (ho : K.lookup f = some ⟨oc, od, .func (fnOf name qual params body scope dV kV doc pm an cdv ct), osl⟩) (hcd : codeIn K cdv qual = true) (hroom : A.depth < recursionLimit)
   (hbind : BindsTo s (fnOf name qual params body scope dV kV doc pm an cdv ct) args binds) (hloc : ∀ y ∈ binds, scope.names.lookup y.1 = some .local)
   (h : ∀ h_1 : Heap, h_1.Ns s.heap.objs.size (fun y => binds.reverse.lookup y) -> h_1.objs.size = s.heap.objs.size + 1 -> (∀ b o, s.heap.get? b = some o -> h_1.get? b = some o) ->
     R (.ok (.ret (.ref h_1.objs.size)))
       { s with gens := s.gens.push (.fresh (.func body (envOf qual scope s.heap.objs.size f cdv))), toks := s.toks + binds.length + 1 + 1,
                heap := h_1.push { cls := .type "generator", data := .fields #[.int s.gens.size 0, .str name (s.toks + binds.length), .str qual (s.toks + binds.length + 1)] } })
   (hco : scope.isCoroutine = false := by rfl) (hgen : scope.isGenerator = true := by rfl) (hk : scope.kind = .function := by rfl)
   (hcell : ∀ x ∈ scope.names, x.2 ≠ .cell := by decide) : codeAny (model prog w) A (.call (.ref f) args) R s := by
 refine codeAny_call_generator (fd := fnOf name qual params body scope dV kV doc pm an cdv ct) (body := body) hroom (X _ _ ho) rfl hco hgen rfl (codeRec_of X hcd) ?_
 refine hbind _ _ _ _ ?_
 refine wpAny_newFunctionEnv hcell hloc (fun h_1 hn_1 hs_1 => ⟨hlim.fresh _ hs_1, ?_⟩) hk
 have up : ∀ b o, s.heap.get? b = some o -> h_1.get? b = some o := fun b o q => hs_1.extBut b o (Nat.ne_of_lt (Heap.lt_size q)) (Heap.get?_push_of_some _ q)
 have hz : h_1.objs.size = s.heap.objs.size + 1 := by rw [hs_1.1, Heap.size_push]
 exact h h_1 hn_1 hz up
theorem gen_call {w : World} {A A' : Around} {s : Shared} {x : Str} {t : Tok} {mu : List Addr} {R : Result -> Shared -> Prop}
   (T : TopRead p loose mg mb s.heap) (X : (Mine.mk.heap_1 w.params).In s.heap) (hx : ∀ c ∈ x.cps.toList, c < 128 /\ c ≠ 92)
   (hroom : A.depth < recursionLimit) (hh' : A'.handled = none)
   (hmu : ∀ b ∈ mu, b < s.heap.objs.size /\ b ≠ mainGlobals /\ b ≠ builtinsNs)
   (h : ∀ a g C s', s.heap.objs.size <= C -> C < a -> GS Challenge.rw_kl0462_01.prog w A' a g C mu x 0 s' -> (∀ b o, s.heap.get? b = some o -> s'.heap.get? b = some o) -> s'.os = s.os -> (AllBare s.gens -> AllBare s'.gens) -> R (.ok (.ret (.ref a))) s') :
   codeAny (model Challenge.rw_kl0462_01.prog w) A (.call (.ref 52) ⟨[.str x t], []⟩) R s := by
 revert X
 k_fill
 intro X
 have eg : mg "enumerate" = none := mg_none_of X T.g (by k_is)
 have eb : mb "enumerate" = some (.type "enumerate") := (T.builtins "enumerate" (by decide)).trans (by boot_by_name)
 refine callG X T.nolimit (by k_is) (by k_is) hroom (binds := [("addr", .str x t)]) (BindsTo.of_eq rfl) (locs rfl) (fun h_1 hn_1 hz up => ?_)
 refine h h_1.objs.size s.gens.size s.heap.objs.size _ (Nat.le_refl _) (by rw [hz]; exact Nat.lt_succ_self _) ⟨⟨_, _, _, Heap.get?_push_size _ rfl, rfl, rfl, rfl⟩, (T.nolimit.keeps up).push _, _, Array.getElem?_push_size .., fun s'' hal => ⟨rfl, ?_⟩⟩
   (fun b o q => Heap.get?_push_of_some _ (up b o q)) rfl (fun B => B.push rfl)
 have hnm : ∀ b, b ∈ mu -> b < s.heap.objs.size := fun b hb => (hmu b hb).1
 have k2 : ∀ b o, b ∉ mu -> h_1.get? b = some o -> s''.heap.get? b = some o := fun b o hb q => hal b o hb (Heap.get?_push_of_some _ q)
 rw [Nat.sub_zero]
 refine seg_fun (A := A'.in1) (cenv := envOf "_iter_escaped_chars" _ s.heap.objs.size 52 (.ref 51)) (t := t) (a := h_1.objs.size) (mu := mu) (mg := mg) (mb := mb) (m := fun y => List.lookup y [(PySem.Str.ofString "addr", Value.str x t)].reverse) hh' hx ?_ ?_ ?_ ?_ ?_ ?_ ?_ ?_ ?_ ?_ ?_ ?_ ?_ ?_ ?_ ?_ eg eb ?_ rfl (GSince.refl _ _ _)
 · rfl
 · rfl
 · rfl
 · rfl
 · rfl
 · rfl
 · rfl
 · rfl
 · rfl
 · show s.heap.objs.size < _; rw [hz]; exact Nat.lt_succ_self _
 · have := hal h_1.objs.size _ (fun z => by have := hnm _ z; rw [hz] at this; exact absurd this (Nat.not_lt.mpr (Nat.le_succ _))) (Heap.get?_push_size _ rfl)
   exact Heap.lt_size this
 · exact fun b hb => hnm b hb
 · exact (T.g.keeps up).at' fun o q => k2 _ o (fun z => (hmu _ z).2.1 rfl) q
 · exact (T.b.keeps up).at' fun o q => k2 _ o (fun z => (hmu _ z).2.2 rfl) q
 · exact Nat.ne_of_lt T.g.lt
 · exact Nat.ne_of_lt T.b.lt
 · exact hn_1.at' fun o q => k2 _ o (fun z => Nat.lt_irrefl _ (hnm _ z)) q
end Mine
end
section
namespace Mine
noncomputable abbrev NF : Value -> Shared -> Prop := fun _ _ => False
theorem code_lift {M : Model} {A B : Around} {c : Code} {R : Result -> Shared -> Prop} {s : Shared} (h : codeAny M B c R s)
   (hh : A.handled = B.handled) (hd : A.depth <= B.depth) (hf : B.frames = none) (hg : B.guards = none) (hu : A.units <= B.units) : codeAny M A c R s :=
 fun Γ p hc hΓ => h Γ p hc ⟨hΓ.1.trans hh, Nat.le_trans hΓ.2.1 hd, fun l hl => (by rw [hf] at hl; cases hl), fun g hl => (by rw [hg] at hl; cases hl), Nat.le_trans hΓ.2.2.2.2 hu⟩
theorem callC {M : Model} {A : Around} (n : Nat) {f : Value} {pos : List Value} {kw : List (Str × Value)} {Q : Value -> Shared -> Prop} {E : Value -> Shared -> Prop} {s : Shared}
   (h : codeAny M (AL n) (.call f ⟨pos, kw⟩) (fun r s' => match r with | .ok (.ret v) => Q v s' | .ok _ => False | .error e => E e s') s)
   (hh : A.handled = none := by rfl) (hd : A.depth <= 690 - 10 * n := by exact Nat.le_of_ble_eq_true rfl) (hu : A.units <= 9000 - 100 * n := by exact Nat.le_of_ble_eq_true rfl) : wpAny M A (call f pos kw) Q E s :=
 wpAny_call (code_lift h hh hd rfl rfl hu)
theorem fr_know {h₀ h : Heap} {L : Addr} {m : Str -> Option Value} {x : Str} {v : Value} (F : Fr h₀ L h m) (e : m x = some v) : Fr h₀ L h (fun y => if y = x then some v else m y) := by
 have : m = fun y => if y = x then some v else m y := by
   funext y
   by_cases hy : y = x
   · rw [if_pos hy, hy, e]
   · rw [if_neg hy]
 rw [<- this]; exact F
theorem fr_keeps {h₀ h h' : Heap} {L : Addr} {m : Str -> Option Value} (F : Fr h₀ L h m) (hk : ∀ b o, h.get? b = some o -> h'.get? b = some o) : Fr h₀ L h' m :=
 ⟨F.ns.keeps hk, fun b o e => hk b o (F.keep b o e), F.above⟩
theorem fr_at {h₀ h h' : Heap} {L : Addr} {m : Str -> Option Value} (F : Fr h₀ L h m) (hL : ∀ o, h.get? L = some o -> h'.get? L = some o) (hk : ∀ b o, h₀.get? b = some o -> h'.get? b = some o) : Fr h₀ L h' m :=
 ⟨F.ns.at' hL, hk, F.above⟩
section
variable {prog : Program} {w : World} {A : Around} {env : Env} {target : Expr} {it : Value} {body : List Stmt} {Q : Flow -> Shared -> Prop} {E' : Value -> Shared -> Prop}
theorem forI (n : Nat) (I : Nat -> Shared -> Prop)
   (step : ∀ i s, i < n -> I i s -> wpAny (model prog w) A (pyNext it) (fun r s₁ => ∃ v, r = some v /\ wpAny (model prog w) A (letOwnedTupleGo target it v) (fun _ s_2 =>
     wpAny (model prog w) A (assign target env v) (fun _ s_3 => wpAny (model prog w) A (execs body env) (fun f s_4 => match f with
       | .next | .cont => I (i + 1) s_4 | .brk => Q .next s_4 | .ret v => Q (.ret v) s_4) NF s_3) NF s_2) NF s₁) NF s)
   (done : ∀ s, I n s -> wpAny (model prog w) A (pyNext it) (fun r s₁ => r = none /\ Q .next s₁) NF s)
   (i : Nat) (hi : i <= n) (s : Shared) (h : I i s) :
   codeAny (model prog w) A (.forLoop target it body [] env) (fun r s' => match r with | .ok f => Q f s' | .error e => E' e s') s := by
 refine codeAny_forLoop_any (fun k s => ∃ i, i <= n /\ k = n - i /\ I i s) ?_ (n - i) ⟨i, hi, rfl, h⟩
 rintro k s ⟨i, hi, rfl, hI⟩
 have no : ∀ {X : Value -> Shared -> Prop} (e : Value) (s : Shared), NF e s -> X e s := fun _ _ z => z.elim
 rcases Nat.lt_or_eq_of_le hi with hlt | rfl
 · refine wpAny_mono (step i s hlt hI) (fun r s₁ h_1 => ?_) no
   revert h_1; intro hoq
   refine x1_2 (hoq) fun v hcz1 h_1 => ?_
   try clear hoq
   cases hcz1
   refine wpAny_mono h_1 (fun _ s_2 h_2 => ?_) no
   refine wpAny_mono h_2 (fun _ s_3 h_3 => ?_) no
   refine wpAny_mono h_3 (fun f s_4 h_4 => ?_) no
   cases f with
   | next => exact ⟨n - (i + 1), by omega, i + 1, hlt, rfl, h_4⟩
   | cont => exact ⟨n - (i + 1), by omega, i + 1, hlt, rfl, h_4⟩
   | brk => exact h_4
   | ret v => exact h_4
 · refine wpAny_mono (done s hI) (fun r s₁ h_1 => ?_) no
   revert h_1; intro hoq
   refine x0_2 (hoq) fun hcz0 h_1 => ?_
   try clear hoq
   cases hcz0
   exact wpAny_of_eq (rfl : execs [] env = pure .next) h_1
end
section
variable {prog : Program} {w : World} {A : Around} {E : Value -> Shared -> Prop} {s : Shared} {env : Env}
theorem letGo_gen {a : Addr} {g : Nat} {elts : List Expr} {x1} {pos : Pos} {T : Addr} {Q : Unit -> Shared -> Prop} (hit : s.heap.IsGen a g) (hQ : Q () s) :
   wpAny (model prog w) A (letOwnedTupleGo (.Tuple elts x1 pos) (.ref a) (.ref T)) Q E s := by
 refine x3_4 (hit) fun o nm qn ho hc hd hs => ?_
 try clear hit
 unfold letOwnedTupleGo
 refine wpAny_bind (wpAny_load ho ?_)
 rw [hc, hd]
 exact wpAny_pure hQ
end
end Mine
namespace Mine
noncomputable def Stop (P : Prop) : Prop := P
theorem Stop.go {P : Prop} (h : Stop P) : P := h
noncomputable def Key (_ : String) : Prop := True
noncomputable def KeyL (_ : String) : Prop := True
noncomputable def KX : Prop := True
noncomputable def KG : Prop := True
theorem KX.go {P : Prop} (_ : KX) (h : P) : P := h
theorem KG.go {P : Prop} (_ : KG) (h : P) : P := h
theorem Stop.key {P : Prop} (s : String) (_ : Key s) (h : Stop P) : P := h
theorem Stop.keyL {M : Model} {A : Around} {E : Value -> Shared -> Prop} {Q : Value -> Shared -> Prop} {st : Shared} {f : String} {a : Addr} (s : String) (_ : KeyL s) (h : Stop (wpAny M A (call (.builtin f) [.ref a]) Q E st)) : wpAny M A (call (.builtin f) [.ref a]) Q E st := h
theorem subN {α : Type} {l : List α} : ∀ q ∈ ([] : List α), q ∈ l := fun _ h => nomatch h
theorem subC {α : Type} {l r : List α} {p : α} (h : p ∈ l) (t : ∀ q ∈ r, q ∈ l) : ∀ q ∈ p :: r, q ∈ l := fun q hq => (List.mem_cons.mp hq).elim (fun e => e ▸ h) (t q)
theorem subA {α : Type} {l a b : List α} (x : ∀ q ∈ a, q ∈ l) (y : ∀ q ∈ b, q ∈ l) : ∀ q ∈ a ++ b, q ∈ l := fun q hq => (List.mem_append.mp hq).elim (x q) (y q)
theorem subR {α : Type} {l : List α} : ∀ q ∈ l, q ∈ l := fun _ h => h
theorem subT {α : Type} {m r : List α} {p : α} (h : ∀ q ∈ m, q ∈ r) : ∀ q ∈ m, q ∈ p :: r := fun q hq => List.mem_cons_of_mem p (h q hq)
theorem subAl {α : Type} {m a b : List α} (h : ∀ q ∈ m, q ∈ a) : ∀ q ∈ m, q ∈ a ++ b := fun q hq => List.mem_append_left b (h q hq)
theorem subAr {α : Type} {m a b : List α} (h : ∀ q ∈ m, q ∈ b) : ∀ q ∈ m, q ∈ a ++ b := fun q hq => List.mem_append_right a (h q hq)
theorem pickA {α : Type} {P : α -> Prop} {l l' : List α} (h : ∀ q ∈ l, P q) (s : ∀ q ∈ l', q ∈ l) : ∀ q ∈ l', P q := fun q hq => h q (s q hq)
theorem alN {α : Type} {P : α -> Prop} : ∀ q ∈ ([] : List α), P q := fun _ h => nomatch h
theorem alC {α : Type} {P : α -> Prop} {p : α} {r : List α} (h : P p) (t : ∀ q ∈ r, P q) : ∀ q ∈ p :: r, P q := fun q hq => (List.mem_cons.mp hq).elim (fun e => e ▸ h) (t q)
theorem alA {α : Type} {P : α -> Prop} {a b : List α} (x : ∀ q ∈ a, P q) (y : ∀ q ∈ b, P q) : ∀ q ∈ a ++ b, P q := fun q hq => (List.mem_append.mp hq).elim (x q) (y q)
theorem pickN {h₀ h : Heap} {L : Addr} {l l' : List (Addr × Obj)} (N : News h₀ L h l) (s : ∀ q ∈ l', q ∈ l) : News h₀ L h l' := fun q hq => N q (s q hq)
noncomputable def nth {α : Type} (l : List α) (i : Nat) : Option α := @List.rec α (fun _ => Nat -> Option α) (fun _ => none) (fun a _ f n => @Nat.rec (fun _ => Option α) (some a) (fun m _ => f m) n) l i
theorem mAt {α : Type} : ∀ {l : List α} {q : α} (i : Nat), nth l i = some q -> q ∈ l
 | [], _, _, h => nomatch h
 | _ :: _, _, 0, h => by cases h; exact List.mem_cons_self
 | _ :: _, _, i + 1, h => List.mem_cons_of_mem _ (mAt i h)
end Mine
end
local macro_rules | `(tactic| walk_at $s:str) => `(tactic| with_reducible first | (refine' Mine.Stop.key $s ?hK ?_; (case hK => assumption)) | (refine' Mine.Stop.keyL $s ?hK ?_; (case hK => assumption)))
local macro_rules | `(tactic| walk_at "mem") => Mine.mFirst ["A", "exact List.Mem.head _", "rf List.Mem.tail _ ?_ ; mem", "rf List.mem_append_left _ ?_ ; mem", "rf List.mem_append_right _ ?_ ; mem", "a"]
local macro_rules | `(tactic| walk_at "tail") => Mine.mFirst ["A", "exact Mine.subR", "rf Mine.subT ?_ ; tail", "rf Mine.subAl ?_ ; tail", "rf Mine.subAr ?_ ; tail"]
local macro_rules | `(tactic| walk_at "kmem") => Mine.mFirst ["m", "mem"]
local macro_rules | `(tactic| walk_at "sub") => Mine.mFirst ["exact Mine.subN", "ref Mine.subC ?m ?s | m:kmem s:sub", "ref Mine.subA ?x ?y | x:sub y:sub", "tail"]
section
namespace Mine
section
variable {prog : Program} {w : World} {A : Around} {env : Env} {body : List Stmt} {Q : Flow -> Shared -> Prop} {E E' : Value -> Shared -> Prop} {a : Addr} {g : Nat} {C : Addr} {mu : List Addr} {x : Str}
structure Turned (C L a : Addr) (s s' : Shared) : Prop where
 keep : ∀ b o, b ≠ C -> b ≠ L -> b <= a -> s.heap.get? b = some o -> s'.heap.get? b = some o
 os : s'.os = s.os
 bare : AllBare s.gens -> AllBare s'.gens
noncomputable abbrev pcm (m : Str -> Option Value) (i : Nat) (ti : Tok) (c : Nat) (u : Tok) : Str -> Option Value := fun y => if y = "ch" then some (.str ⟨#[c]⟩ u) else if y = "pos" then some (.int (i : Int) ti) else m y
theorem forGen {k3 : Nat} {q12 q13 q14 : Pos} (I : Nat -> (Str -> Option Value) -> Shared -> Prop)
   (hh : A.handled = none) (hd : A.depth <= 690) (hu : A.units <= 9000)
   (k_pos : env.kindOf "pos" = some .local) (k_ch : env.kindOf "ch" = some .local)
   (hp : (env.scope.kind == .class || (env.scope.kind == .module && env.locals != env.globals)) = false)
   (hLmu : env.locals ∈ mu) (hLC : env.locals < C) (hCa : C < a) (hmuC : ∀ b ∈ mu, b < C) (hcS : cStatics < env.locals) (hcmu : cStatics ∉ mu)
   (step : ∀ i s s' m c ti u, i < x.cps.size -> x.cps[i]? = some c -> I i m s -> s'.heap.Ns env.locals (pcm m i ti c u) -> Turned C env.locals a s s' ->
     wpAny (model prog w) A (execs body env) (fun f s_4 => match f with
       | .next | .cont => ∃ m' h' tk, s_4 = { s' with heap := h', toks := tk } /\ h'.Ns env.locals m' /\ (∀ b o, b ∉ mu -> s'.heap.get? b = some o -> h'.get? b = some o) /\ I (i + 1) m' s_4
       | .brk => Q .next s_4 | .ret v => Q (.ret v) s_4) NF s')
   (done : ∀ s s' m, I x.cps.size m s -> s'.heap.Ns env.locals m -> Turned C env.locals a s s' -> Q .next s')
   {s : Shared} {m : Str -> Option Value} (hns : s.heap.Ns env.locals m) (G : GS prog w (AL 0) a g C mu x 0 s) (h0 : I 0 m s) :
   wpAny (model prog w) A (pyIter (.ref a)) (fun it s_2 => codeAny (model prog w) A (.forLoop (gTgt q12 q13 q14 k3) it body [] env) (fun r s' => match r with | .ok f => Q f s' | .error e => E' e s') s_2) E s := by
 have lift : ∀ {α : Type} {t : Sem α} {Q : α -> Shared -> Prop} {E : Value -> Shared -> Prop} {s : Shared}, wpAny (model prog w) (AL 0) t Q E s -> wpAny (model prog w) A t Q E s :=
   fun h => wp_lift h hh hd rfl rfl hu
 have hCL : ∀ b, b ∈ mu -> b ≠ a := fun b hb z => Nat.lt_irrefl _ (Nat.lt_trans (z ▸ hmuC b hb) hCa)
 have hLa : env.locals <= a := Nat.le_of_lt (Nat.lt_trans hLC hCa)
 refine wpAny_pyIter_gen G.gen ?_
 refine forI x.cps.size (fun i s => ∃ m, s.heap.Ns env.locals m /\ GS prog w (AL 0) a g C mu x i s /\ I i m s) (fun i s hi hI => ?_) (fun s hI => ?_) 0 (Nat.zero_le _) s ⟨m, hns, G, h0⟩
 · revert hI; intro hoq
   refine x1_3 (hoq) fun m hns G hI => ?_
   try clear hoq
   refine lift (g_item rfl (by decide) (Nat.ne_of_lt hCa) (Nat.ne_of_lt (Nat.lt_trans hcS hLC)) (Nat.le_of_lt (Nat.lt_of_lt_of_le hcS hLa)) G hi fun c T tk u s₁ hc hT G_1 k_1 o_1 b_1 => ⟨_, rfl, ?_⟩)
   refine letGo_gen G_1.gen ?_
   have hn_1 : s₁.heap.Ns env.locals m := hns.at' fun o q => k_1 _ o (Nat.ne_of_lt hLC) hLa q
   refine wpAny_assign_Tuple hh hT rfl rfl fun h_3 hx_3 => ?_
   have lt_2 : ∀ b o, s₁.heap.get? b = some o -> h_3.get? b = some o := fun b o q => hx_3 b o (Nat.ne_of_lt (Heap.lt_size q)) q
   have hn_3 := hn_1.keeps lt_2
   refine wpAny_assignInOrder_more (wpAny_assign_Name (wpAny_storeName_local (s := { s₁ with heap := h_3 }) k_pos hn_3 (fun h_4 hn_4 hs_4 => ?_) hp))
   refine wpAny_assignInOrder_more (wpAny_assign_Name (wpAny_storeName_local k_ch hn_4 (fun h_5 hn_5 hs_5 => ?_) hp))
   refine wpAny_assignInOrder_none ?_
   have up_5 : ∀ b o, b ≠ env.locals -> s₁.heap.get? b = some o -> h_5.get? b = some o := fun b o hb q => hs_5.extBut b o hb (hs_4.extBut b o hb (lt_2 b o q))
   have hT_5 : Turned C env.locals a s { s₁ with heap := h_5, toks := s₁.toks + 1 + 1 } := ⟨fun b o hC hL hba q => up_5 b o hL (k_1 b o hC hba q), o_1, b_1⟩
   refine wpAny_mono (step i s { s₁ with heap := h_5, toks := s₁.toks + 1 + 1 } m c tk u hi hc hI hn_5 hT_5) (fun f s_4 h_4' => ?_) fun _ _ z => z
   have fin : (∃ m' h' tk, s_4 = { ({ s₁ with heap := h_5, toks := s₁.toks + 1 + 1 } : Shared) with heap := h', toks := tk } /\ h'.Ns env.locals m' /\ (∀ b o, b ∉ mu -> h_5.get? b = some o -> h'.get? b = some o) /\ I (i + 1) m' s_4) ->
       ∃ m, s_4.heap.Ns env.locals m /\ GS prog w (AL 0) a g C mu x (i + 1) s_4 /\ I (i + 1) m s_4 := by
     rintro ⟨m', h', tk', rfl, hn', hk', hI'⟩
     exact i1_3 m' hn' (G_1.keeps (fun hb => hCL _ hb rfl) hcmu fun b o hb q => hk' b o hb (up_5 b o (fun z => hb (z ▸ hLmu)) q)) hI'
   cases f with
   | next => exact fin h_4'
   | cont => exact fin h_4'
   | brk => exact h_4'
   | ret v => exact h_4'
 · revert hI; intro hoq
   refine x1_3 (hoq) fun m hns G hI => ?_
   try clear hoq
   refine lift (g_done rfl (by decide) G fun s₁ k_1 o_1 b_1 => ⟨rfl, ?_⟩)
   exact done s s₁ m hI (hns.at' fun o q => k_1 _ o (Nat.ne_of_lt hLC) hLa q) ⟨fun b o hC _ hba q => k_1 b o hC hba q, o_1, b_1⟩
end
end Mine
end
section
namespace Mine
structure WH (g : Heap) (s : Shared) (cl : List (Addr × Obj)) : Prop where
 keep : ∀ b o, g.get? b = some o -> s.heap.get? b = some o
 size : g.objs.size <= s.heap.objs.size
 news : ∀ p ∈ cl, s.heap.get? p.1 = some p.2 /\ g.get? p.1 = none
structure WP (g : Heap) (s s' : Shared) (cl : List (Addr × Obj)) : Prop where
 keep : ∀ b o, g.get? b = some o -> s'.heap.get? b = some o
 news : ∀ p ∈ cl, s'.heap.get? p.1 = some p.2 /\ g.get? p.1 = none
 os : s'.os = s.os
 bare : AllBare s.gens -> AllBare s'.gens
noncomputable abbrev hid (s : Shared) (cl : List (Addr × Obj)) : Heap := hideAll s.heap (cl.map (·.1))
theorem WH.of {s : Shared} {cl : List (Addr × Obj)} (h : ∀ p ∈ cl, s.heap.get? p.1 = some p.2) : WH (hid s cl) s cl :=
 ⟨fun _ _ e => of_hideAll _ e, Nat.le_of_eq (hideAll_size _ _), fun p hp => ⟨h p hp, hideAll_none _ (List.mem_map_of_mem hp)⟩⟩
theorem hid_keep {h₀ : Heap} {s : Shared} {cl : List (Addr × Obj)} (hk : ∀ b o, h₀.get? b = some o -> s.heap.get? b = some o) (hn : ∀ p ∈ cl, h₀.get? p.1 = none) :
   ∀ b o, h₀.get? b = some o -> (hid s cl).get? b = some o := fun b o e => hideAll_get _ (hk b o e) fun q => by
 refine x1_2 (List.mem_map.mp q) fun p hp hcz2 => ?_
 cases hcz2
 rw [hn p hp] at e; cases e
section
variable {h₀ : Heap} {L : Addr} {m : Str -> Option Value} {s s' : Shared} {cl cl' rest : List (Addr × Obj)}
theorem WP.back (P : WP (hid s cl) s s' cl') (F : Fr h₀ L s.heap m) (N : News h₀ L s.heap (cl ++ rest)) (hd : ∀ p ∈ rest, p.1 ∉ cl.map (·.1)) :
   Fr h₀ L s'.heap m /\ News h₀ L s'.heap (cl' ++ rest) := by
 have hk := hid_keep (s := s) F.keep fun p hp => (N p (List.mem_append.mpr (.inl hp))).2.2
 refine x3_4 (F.ns) fun oL es ep hL hLd hLk hLf => ?_
 have nL : L ∉ cl.map (·.1) := fun q => by
   refine x1_2 (List.mem_map.mp q) fun p hp e => ?_
   exact (N p (List.mem_append.mpr (.inl hp))).2.1 e
 have hLg := hideAll_get (cl.map (·.1)) hL nL
 refine ⟨⟨⟨oL, es, ep, P.keep L oL hLg, hLd, hLk, hLf⟩, fun b o e => P.keep b o (hk b o e), F.above⟩, fun p hp => ?_⟩
 rcases List.mem_append.mp hp with hp | hp
 · refine i0_3 ((P.news p hp).1) (fun q => ?_) ?_
   · have := (P.news p hp).2; rw [q, hLg] at this; cases this
   · cases q : h₀.get? p.1 with
     | none => rfl
     | some o => have := (P.news p hp).2; rw [hk _ _ q] at this; cases this
 · have z := N p (List.mem_append.mpr (.inr hp))
   exact ⟨P.keep _ _ (hideAll_get _ z.1 (hd p hp)), z.2⟩
end
theorem callW {prog : Program} {w : World} {A : Around} {K : Frag} {R : Result -> Shared -> Prop} {g : Heap} {cl : List (Addr × Obj)} {s : Shared} {name qual : Str} {params : Arguments} {body : List Stmt} {scope : Scope} {dV kV doc pm cdv ct oc : Value} {an od : Option Addr} {osl : Array (Option Value)} {f : Addr} {args : Args} {binds : List (Str × Value)}
   (W : WH g s cl) (X : K.In g) (hlim : g.NoLimit)
   (ho : K.lookup f = some ⟨oc, od, .func (fnOf name qual params body scope dV kV doc pm an cdv ct), osl⟩) (hcd : codeIn K cdv qual = true) (hroom : A.depth < recursionLimit)
   (hbind : BindsTo s (fnOf name qual params body scope dV kV doc pm an cdv ct) args binds) (hloc : ∀ y ∈ binds, scope.names.lookup y.1 = some .local)
   (h : ∀ L h_1, Fr g L h_1 (fun y => binds.reverse.lookup y) -> News g L h_1 cl -> L = s.heap.objs.size -> (∀ b o, s.heap.get? b = some o -> h_1.get? b = some o) ->
     wpAny (model prog w) (A.deeper (envOf qual scope L f cdv)) (execs body (envOf qual scope L f cdv))
       (fun fl s' => R (.ok (.ret (match fl with | .ret v => v | _ => .none))) s')
       (fun _ _ => False)
       { s with heap := h_1, toks := s.toks + binds.length })
   (hco : scope.isCoroutine = false := by rfl) (hgen : scope.isGenerator = false := by rfl) (hk : scope.kind = .function := by rfl)
   (hcell : ∀ x ∈ scope.names, x.2 ≠ .cell := by decide) : codeAny (model prog w) A (.call (.ref f) args) R s := by
 refine callF (X.keeps W.keep) (hlim.keeps W.keep) ho hcd hroom hbind hloc (fun L h_1 F eL => ?_) hco hgen hk hcell
 exact h L h_1 ⟨F.ns, fun b o e => F.keep b o (W.keep b o e), Nat.le_trans W.size F.above⟩ (fun p hp => ⟨F.keep _ _ (W.news p hp).1, by
   rw [eL]; exact Nat.ne_of_lt (Heap.lt_size (W.news p hp).1), (W.news p hp).2⟩) eL F.keep
theorem WP.of {g : Heap} {s : Shared} {L : Addr} {h' : Heap} {m : Str -> Option Value} {cl : List (Addr × Obj)} {t : Nat} (F : Fr g L h' m) (N : News g L h' cl) : WP g s { s with heap := h', toks := t } cl :=
 ⟨F.keep, fun p hp => ⟨(N p hp).1, (N p hp).2.2⟩, rfl, id⟩
end Mine
end
section
namespace Mine
structure Src (prog : Program) (w : World) (A : Around) (h₀ : Heap) (L : Addr) (m : Str -> Option Value) (news : List (Addr × Obj)) (n : Nat) (P : Nat -> Value -> Prop) (it : Value) (s_2 : Shared) : Prop where
 ex : ∃ I fp St, it = .ref I /\ Walks prog w A I fp [I] n P St /\ St 0 s_2.heap /\ (∀ b ∈ fp, b < s_2.heap.objs.size) /\ h₀.get? I = none /\ (∀ q ∈ news, q.1 ≠ I) /\ L ≠ I
 sz : n <= sizeLine
 F : Fr h₀ L s_2.heap m
 N : News h₀ L s_2.heap news
structure CTurn (prog : Program) (w : World) (A : Around) (env : Env) (scope : Scope) (cl : List (Str × Addr)) (x : Str) (ifs : List Expr) (elt : Expr) (h₀ : Heap) (news : List (Addr × Obj)) (P : Nat -> Value -> Prop) (p : Value -> Bool) (G : Value -> Value -> Prop) : Prop where
 tests : ∀ C i v s_3 m_3 E', P i v -> Fr h₀ C s_3.heap m_3 -> News h₀ C s_3.heap news -> m_3 x = some v ->
   wpAny (model prog w) A (forIn ifs true fun c r => if r = true then do let ok <- isTrue c (compEnvC scope cl C env) (eval c (compEnvC scope cl C env)); pure (ForInStep.yield ok) else pure (ForInStep.yield r))
     (fun ok s_4 => ok = p v /\ Keeps s_3 s_4) E' s_3
 elt : ∀ C i v s_3 m_3 E', P i v -> p v = true -> Fr h₀ C s_3.heap m_3 -> News h₀ C s_3.heap news -> m_3 x = some v ->
   wpAny (model prog w) A (eval elt (compEnvC scope cl C env)) (fun y s_4 => G v y /\ Keeps s_3 s_4) E' s_3
section
variable {prog : Program} {w : World} {A : Around} {E : Value -> Shared -> Prop} {env : Env} {h₀ : Heap}
theorem CTurn.quiet {L : Addr} {scope : Scope} {cl : List (Str × Addr)} {x : Str} {ifs : List Expr} {elt : Expr} {news : List (Addr × Obj)} {P : Nat -> Value -> Prop} {p : Value -> Bool} {G : Value -> Value -> Prop} {m : Str -> Option Value} {s_2 : Shared} {I : Addr}
   (X : CTurn prog w A env scope cl x ifs elt h₀ news P p G) (F : Fr h₀ L s_2.heap m) (N : News h₀ L s_2.heap news) (hI : h₀.get? I = none) (hn : ∀ q ∈ news, q.1 ≠ I) : QuietOnC prog w A env scope cl x ifs elt [I] P p G s_2 := by
 have hz : h₀.objs.size <= s_2.heap.objs.size := Nat.le_trans F.above (Nat.le_of_lt F.ns.lt)
 have fr : ∀ {C : Addr} {h : Heap} {m_3}, s_2.heap.objs.size <= C -> h.Ns C m_3 -> (∀ b o, b ∉ [I] -> s_2.heap.get? b = some o -> h.get? b = some o) -> Fr h₀ C h m_3 := fun hC hns hk =>
   ⟨hns, fun b o e => hk b o (fun q => by rw [List.mem_singleton.mp q, hI] at e; cases e) (F.keep _ _ e), Nat.le_trans hz hC⟩
 have nw : ∀ {C : Addr} {h : Heap}, s_2.heap.objs.size <= C -> (∀ b o, b ∉ [I] -> s_2.heap.get? b = some o -> h.get? b = some o) -> News h₀ C h news := fun hC hk q hq =>
   ⟨hk _ _ (fun z => hn q hq (List.mem_singleton.mp z)) (N q hq).1, Nat.ne_of_lt (Nat.lt_of_lt_of_le (Heap.lt_size (N q hq).1) hC), (N q hq).2.2⟩
 exact ⟨fun C i v s_3 m_3 E' hC hP hns hm hk _ => X.tests C i v s_3 m_3 E' hP (fr hC hns hk) (nw hC hk) hm, fun C i v s_3 m_3 E' hC hP hp hns hm hk _ => X.elt C i v s_3 m_3 E' hP hp (fr hC hns hk) (nw hC hk) hm⟩
theorem news_new {L : Addr} {m : Str -> Option Value} {h h' : Heap} {news : List (Addr × Obj)} {D I : Addr} {o : Obj} (F : Fr h₀ L h m) (N : News h₀ L h news) (hI : h₀.get? I = none) (hn : ∀ q ∈ news, q.1 ≠ I) (hD : h.get? D = none) (ho : h'.get? D = some o)
   (hk : ∀ b o, b ≠ L -> b ∉ [I] -> h.get? b = some o -> h'.get? b = some o) : News h₀ L h' ((D, o) :: news) /\ (∀ q ∈ news, @Ne Nat q.1 D) := by
 refine ⟨fun q hq => ?_, fun q hq e => by have := (N q hq).1; rw [show q.1 = D from e, hD] at this; cases this⟩
 rcases List.mem_cons.mp hq with rfl | hq
 · refine i0_3 ho (fun e => ?_) ?_
   · obtain ⟨oL, _, _, hL, _⟩ := F.ns
     rw [show D = L from e, hL] at hD; cases hD
   · cases q : h₀.get? D with
     | none => rfl
     | some o' => have := F.keep _ _ q; rw [hD] at this; cases this
 · exact ⟨hk _ _ (N q hq).2.1 (fun z => hn q hq (List.mem_singleton.mp z)) (N q hq).1, (N q hq).2⟩
theorem asg_comp {s : Shared} {elt iter : Expr} {x y : Str} {px py : Pos} {ifs : List Expr} {scope : Scope} {cl : List (Str × Addr)} {pos spos : Pos} {Q : Flow -> Shared -> Prop}
   (hsw : swapsWith (.ListComp elt [⟨.Name x px, iter, ifs, 0⟩] scope pos) (some (.Name y py)) spos.line env = pure true)
   (hclos : closureFor scope env = pure cl) (hcell : ∀ z ∈ scope.names, z.2 ≠ .cell) (hkind : scope.kind = .function)
   (hnames : ∀ z ∈ scope.names, z.2 = .local -> scope.names.lookup z.1 = some .local) (hx : scope.names.lookup x = some .local)
   (hy : env.kindOf y = some .local) (hp : (env.scope.kind == .class || (env.scope.kind == .module && env.locals != env.globals)) = false) (p : Value -> Bool) (G : Value -> Value -> Prop)
   (h : wpAny (model prog w) A (eval iter env) (fun xv s₁ => wpAny (model prog w) A (pyIter xv) (fun it s_2 => Stop (∃ m news n P, Src prog w A h₀ env.locals m news n P it s_2 /\ CTurn prog w A env scope cl x ifs elt h₀ news P p G /\
     ∀ (D : Nat) h' tk ys nD (vs : List Value), Fr h₀ env.locals h' (fun z => if z = y then some (.ref D) else m z) -> News h₀ env.locals h' ((D, PySem.W.listOf ys nD) :: news) -> (∀ q ∈ news, @Ne Nat q.1 D) -> vs.length = n -> (∀ j v, vs[j]? = some v -> P j v) -> Paired G (vs.filter p) ys.toList -> Q .next { s_2 with heap := h', toks := tk })) E s₁) E s)
   (hs : ∀ x, foldedSetIterable iter env x = pure x := by intro _; rfl) :
   wpAny (model prog w) A (exec (.Assign [.Name y py] (.ListComp elt [⟨.Name x px, iter, ifs, 0⟩] scope pos) spos) env) Q E s := by
 refine wpAny_Assign_ListComp_free p G hsw hclos hcell hkind hnames hx hy hp (wpAny_mono h (fun xv s₁ h_1 => wpAny_mono h_1 (fun it s_2 h_2 => ?_) fun _ _ e => e) fun _ _ e => e) hs
 refine x4_3 (h_2) fun m news n P S X hQ => ?_
 try clear h_2
 refine x3_7 (S.ex) fun I fp St hcz3 W hst hfp hI hnI hL => ?_
 cases hcz3
 refine ⟨I, fp, [I], n, P, St, m, rfl, W, S.sz, hst, hfp, fun z => hL (List.mem_singleton.mp z), S.F.ns, X.quiet S.F S.N hI hnI, ?_⟩
 rintro D h' tk ys vs hD hl ⟨nD, hpl⟩ hlen hP hF hn hk
 refine x0_2 (news_new S.F S.N hI hnI hD hpl hk) fun N' ne => ?_
 refine hQ D h' tk ys nD vs ⟨hn, fun b o e => hk b o (fun z => ?_) (fun z => ?_) (S.F.keep _ _ e), S.F.above⟩ N' ne hlen hP hF
 · exact absurd (Heap.lt_size e) (by rw [z]; exact Nat.not_lt.mpr S.F.above)
 · rw [List.mem_singleton.mp z, hI] at e; cases e
theorem evl_comp {s : Shared} {elt iter : Expr} {x : Str} {px : Pos} {ifs : List Expr} {scope : Scope} {cl : List (Str × Addr)} {pos : Pos} {Q : Value -> Shared -> Prop}
   (hclos : closureFor scope env = pure cl) (hcell : ∀ z ∈ scope.names, z.2 ≠ .cell) (hkind : scope.kind = .function)
   (hnames : ∀ z ∈ scope.names, z.2 = .local -> scope.names.lookup z.1 = some .local) (hx : scope.names.lookup x = some .local) (p : Value -> Bool) (G : Value -> Value -> Prop)
   (h : wpAny (model prog w) A (eval iter env) (fun xv s₁ => wpAny (model prog w) A (pyIter xv) (fun it s_2 => Stop (∃ m news n P, Src prog w A h₀ env.locals m news n P it s_2 /\ CTurn prog w A env scope cl x ifs elt h₀ news P p G /\
     ∀ (D : Nat) h' tk ys nD (vs : List Value), Fr h₀ env.locals h' m -> News h₀ env.locals h' ((D, PySem.W.listOf ys nD) :: news) -> (∀ q ∈ news, @Ne Nat q.1 D) -> vs.length = n -> (∀ j v, vs[j]? = some v -> P j v) -> Paired G (vs.filter p) ys.toList -> Q (.ref D) { s_2 with heap := h', toks := tk })) E s₁) E s)
   (hs : ∀ x, foldedSetIterable iter env x = pure x := by intro _; rfl) :
   wpAny (model prog w) A (eval (.ListComp elt [⟨.Name x px, iter, ifs, 0⟩] scope pos) env) Q E s := by
 refine wpAny_ListComp_free p G hclos hcell hkind hnames hx (wpAny_mono h (fun xv s₁ h_1 => wpAny_mono h_1 (fun it s_2 h_2 => ?_) fun _ _ e => e) fun _ _ e => e) hs
 refine x4_3 (h_2) fun m news n P S X hQ => ?_
 try clear h_2
 refine x3_7 (S.ex) fun I fp St hcz3 W hst hfp hI hnI hL => ?_
 cases hcz3
 refine ⟨I, fp, [I], n, P, St, rfl, W, S.sz, hst, hfp, X.quiet S.F S.N hI hnI, ?_⟩
 rintro D h' tk ys vs hD hl ⟨nD, hpl⟩ hlen hP hF hk
 refine x0_2 (news_new S.F S.N hI hnI hD hpl fun b o _ hb e => hk b o hb e) fun N' ne => ?_
 refine hQ D h' tk ys nD vs ⟨S.F.ns.at' fun o e => hk _ o (fun z => hL (List.mem_singleton.mp z)) e, fun b o e => hk b o (fun z => ?_) (S.F.keep _ _ e), S.F.above⟩ N' ne hlen hP hF
 rw [List.mem_singleton.mp z, hI] at e; cases e
theorem src_push {s : Shared} {L : Addr} {m : Str -> Option Value} {news : List (Addr × Obj)} {o : Obj} (F : Fr h₀ L s.heap m) (N : News h₀ L s.heap news) :
   Fr h₀ L (s.heap.push o) m /\ News h₀ L (s.heap.push o) news /\ h₀.get? s.heap.objs.size = none /\ (∀ q ∈ news, q.1 ≠ s.heap.objs.size) /\ L ≠ s.heap.objs.size :=
 ⟨F.push o, fun q hq => ⟨Heap.get?_push_of_some _ (N q hq).1, (N q hq).2⟩, Heap.get?_none_of_le (Nat.le_trans F.above (Nat.le_of_lt F.ns.lt)), fun q hq => Nat.ne_of_lt (Heap.lt_size (N q hq).1), Nat.ne_of_lt F.ns.lt⟩
theorem iter_list {s : Shared} {L : Addr} {m : Str -> Option Value} {news : List (Addr × Obj)} {G : Addr} {items : Array Value} {Q : Value -> Shared -> Prop} (hh : A.handled = none) (F : Fr h₀ L s.heap m) (N : News h₀ L s.heap news) (hl : s.heap.IsList G items) (hz : items.size <= sizeLine)
   (h : ∀ it h_2, Src prog w A h₀ L m news items.size (fun i v => items[i]? = some v) it { s with heap := h_2 } -> Q it { s with heap := h_2 }) : wpAny (model prog w) A (pyIter (.ref G)) Q E s := by
 refine x0_5 (src_push (s := s) (o := { cls := .type "list_iterator", data := .fields #[.ref G, .int 0 0] }) F N) fun F_2 N_2 a b c => ?_
 obtain ⟨og, hg, _⟩ := id hl
 have hlt : G < s.heap.objs.size := Heap.lt_size hg
 refine wpAny_pyIter_list hl (h _ _ ⟨⟨s.heap.objs.size, [s.heap.objs.size, G], _, rfl, Walks.list hh _ G (Nat.ne_of_lt hlt) items, ⟨⟨_, Heap.get?_push_size _ rfl, rfl, rfl⟩, hl.at fun o e => Heap.get?_push_of_some _ e⟩, fun x hx => ?_, a, b, c⟩, hz, F_2, N_2⟩)
 rw [Heap.size_push]
 rcases List.mem_cons.mp hx with rfl | hx
 · exact Nat.lt_succ_self _
 · rw [List.mem_singleton.mp hx]; exact Nat.lt_succ_of_lt hlt
theorem iter_str {s : Shared} {L : Addr} {m : Str -> Option Value} {news : List (Addr × Obj)} {x : Str} {t : Tok} {Q : Value -> Shared -> Prop} (hh : A.handled = none) (F : Fr h₀ L s.heap m) (N : News h₀ L s.heap news) (hx : x.cps.all (· < 128) = true) (hz : x.length <= sizeLine)
   (h : ∀ it h_2, Src prog w A h₀ L m news x.cps.size (SignAt x) it { s with heap := h_2 } -> Q it { s with heap := h_2 }) : wpAny (model prog w) A (pyIter (.str x t)) Q E s := by
 refine x0_5 (src_push (s := s) (o := { cls := .type "str_ascii_iterator", data := .fields #[.str x t, .int 0 0] }) F N) fun F_2 N_2 a b c => ?_
 refine wpAny_pyIter_ascii hx (h _ _ ⟨⟨s.heap.objs.size, [s.heap.objs.size], _, rfl, Walks.strAscii hh _ x t, ⟨_, Heap.get?_push_size _ rfl, rfl, rfl⟩, fun x hx => ?_, a, b, c⟩, hz, F_2, N_2⟩)
 rw [Heap.size_push, List.mem_singleton.mp hx]
 exact Nat.lt_succ_self _
theorem vs_list {items : Array Value} {vs : List Value} (hl : vs.length = items.size) (h : ∀ (j : Nat) v, vs[j]? = some v -> items[j]? = some v) : vs = items.toList := by
 apply List.ext_getElem?
 intro i
 cases e : vs[i]? with
 | some v => rw [Array.getElem?_toList, h i v e]
 | none =>
   have : vs.length <= i := by simpa using e
   rw [List.getElem?_eq_none (by rw [Array.length_toList]; omega)]
theorem paired_eq {G : Value -> Value -> Prop} (h : ∀ v y, G v y -> y = v) {a b : List Value} (p : Paired G a b) : b = a := by
 induction p with
 | nil => rfl
 | cons x _ ih => rw [h _ _ x, ih]
end
section
variable {M : Model} {A : Around} {E : Value -> Shared -> Prop} {s : Shared} {K : Frag} {h₀ : Heap} {L : Addr} {m mg mb : Str -> Option Value} {p : Program} {loose : List Str} {env : Env}
theorem name_BX {x : Str} {pos : Pos} {v : Value} {Q : Value -> Shared -> Prop} (F : Fr h₀ L s.heap m) (X : K.In h₀) (T : TopRead p loose mg mb h₀) (e : nsIn K mainGlobals x = some none) (hv : bootBuiltins x = some v) (hn : x ≠ "__name__") (h : Q v s)
   (hg : env.globals = mainGlobals) (hb : env.builtins = builtinsNs) (hk : env.scope.kind = .function) (hx : env.kindOf x = some .globalImplicit) (hd : (x == ("__debug__" : Str)) = false) :
   wpAny M A (eval (.Name x pos) env) Q E s :=
 Name_function_global hk hx (loadGlobal_builtin (by rw [hg]; exact T.g.keeps F.keep) (mg_none_of X T.g e) (by rw [hb]; exact T.b.keeps F.keep) ((T.builtins x hn).trans hv) h) hd
theorem cell_X {x : Str} {pos : Pos} {pc : Addr} {o : Obj} {v : Value} {news : List (Addr × Obj)} {Q : Value -> Shared -> Prop} (N : News h₀ L s.heap news) (hm : (pc, o) ∈ news) (ho : o.data = .cell (some v)) (h : Q v s)
   (hk : env.scope.kind = .function) (hx : env.kindOf x = some .cell) (hc : env.cells.lookup x = some pc) (hd : (x == ("__debug__" : Str)) = false) :
   wpAny M A (eval (.Name x pos) env) Q E s :=
 wpAny_Name (wpAny_loadName_cell hk hx hc ⟨_, (N _ hm).1, ho⟩ h) hd
theorem loc_X {x : Str} {pos : Pos} {v : Value} {Q : Value -> Shared -> Prop} (F : Fr h₀ L s.heap m) (e : m x = some v) (h : Q v s) (hl : env.locals = L)
   (hk : env.scope.kind = .function) (hx : env.kindOf x = some .local) (hd : (x == ("__debug__" : Str)) = false) :
   wpAny M A (eval (.Name x pos) env) Q E s := by
 subst hl
 exact wpAny_Name (wpAny_loadName_local hk hx F.ns e h) hd
end
end Mine
end
local macro_rules | `(tactic| walk_at "eval Name") => do let t <- Mine.mFirst ["ref Mine.loc_X ?kF ?k1 ?_ ?k3 ?k4 ?k5 ?k7 | kF:k k4:r k5:r k3:r k7:d k1:r", "ref Mine.cell_X ?k1 ?k2 ?k3 ?_ ?k4 ?k5 ?k6 ?k7 | k4:r k5:r k6:r k7:d k1:k k2:m k3:a", "ref Mine.name_BX ?kF ?k1 ?k2 ?k3 ?k4 ?k5 ?_ ?k6 ?k7 ?k8 ?k9 ?k10 | k6:r k7:r k8:r k9:r k10:d kF:k k1:k k2:k k3:s k4:b k5:d"]; Mine.mSeq [<- Mine.mStep "h", <- Mine.mStep "key Mine.KX.go ?hK ?_ | hK:A", <- `(tactic| k_dflt $t)]
section
namespace Mine
structure SrcE (prog : Program) (w : World) (A : Around) (h₀ : Heap) (L : Addr) (m : Str -> Option Value) (news : List (Addr × Obj)) (n : Nat) (P : Nat -> Value -> Prop) (it : Value) (s_2 : Shared) : Prop where
 ex : ∃ I fp wr St Mid, it = .ref I /\ WalksT prog w A I fp wr n (fun i vals => ∃ t x, P i x /\ vals = #[.int i t, x]) St Mid /\ St 0 s_2.heap /\ (∀ b ∈ fp, b < s_2.heap.objs.size) /\ ∀ b ∈ wr, h₀.get? b = none /\ (∀ q ∈ news, q.1 ≠ b) /\ L ≠ b
 sz : n <= 9000
 F : Fr h₀ L s_2.heap m
 N : News h₀ L s_2.heap news
section
variable {prog : Program} {w : World} {A : Around} {E : Value -> Shared -> Prop} {env : Env} {h₀ : Heap} {R : Result -> Shared -> Prop}
theorem loop_tupL {elt iter target : Expr} {ifs : List Expr} {scope : Scope} {pos : Pos} {it acc : Value} {env : Env} (I : Nat -> Shared -> Prop)
   (turn : ∀ n s, I n s -> wpAny (model prog w) A (pyNext it) (fun r s₁ => match r with
     | none => R (.ok .next) s₁
     | some v => wpAny (model prog w) A (letOwnedTupleGo target it v) (fun _ s_1' => wpAny (model prog w) A (assign target env v) (fun _ s_2 =>
         wpAny (model prog w) A (forIn ifs true fun c r => if r = true then do let ok <- isTrue c env (eval c env); pure (ForInStep.yield ok) else pure (ForInStep.yield r)) (fun ok s_3 =>
           if ok = true then wpAny (model prog w) A (eval elt env) (fun x s_4 =>
             wpAny (model prog w) A (call (.builtin "list.append") [acc, x]) (fun _ s_5 => ∃ m, m < n /\ I m s_5) (notedBy (model prog w) A env fun e s' => R (.error e) s') s_4) (notedBy (model prog w) A env fun e s' => R (.error e) s') s_3
           else ∃ m, m < n /\ I m s_3) (notedBy (model prog w) A env fun e s' => R (.error e) s') s_2) (notedBy (model prog w) A env fun e s' => R (.error e) s') s_1') (notedBy (model prog w) A env fun e s' => R (.error e) s') s₁) (notedBy (model prog w) A env fun e s' => R (.error e) s') s)
   {s : Shared} (n : Nat) (h : I n s) : codeAny (model prog w) A (.compLoop (.ListComp elt [⟨target, iter, ifs, 0⟩] scope pos) 0 it acc env) R s := by
 refine codeAny_loop rfl I (fun n s hI => ?_) n h
 show wpAny _ A ((compTurn (.ListComp elt [⟨target, iter, ifs, 0⟩] scope pos) 0 it acc env).onRaise (fun x => do noteFrame x env; theTreesLotGoes x)) _ _ s
 refine wpAny_noted ?_
 rw [compTurn_list]
 refine wpAny_bind (wpAny_standAt (wpAny_bind (wpAny_mono (turn n s hI) (fun r s₁ h_1 => ?_) fun _ _ h' => h')))
 cases r with
 | none => exact wpAny_pure h_1
 | some v =>
   refine wpAny_bind (wpAny_mono h_1 (fun _ s_1' h_1' => ?_) fun _ _ h' => h')
   refine wpAny_bind (wpAny_mono h_1' (fun _ s_2 h_2 => wpAny_bind (wpAny_mono h_2 (fun ok s_3 h_3 => ?_) fun _ _ h' => h')) fun _ _ h' => h')
   cases ok with
   | false => exact wpAny_pure ⟨rfl, h_3⟩
   | true => exact wpAny_bind (wpAny_bind (wpAny_mono h_3 (fun x s_4 h_4 => wpAny_bind (wpAny_mono h_4 (fun _ s_5 h_5 => wpAny_pure (wpAny_pure ⟨rfl, h_5⟩)) fun _ _ h' => h')) fun _ _ h' => h'))
theorem loop_tupD {kx vx iter target : Expr} {ifs : List Expr} {scope : Scope} {pos : Pos} {it : Value} {D : Addr} {env : Env} (I : Nat -> Shared -> Prop)
   (turn : ∀ n s, I n s -> wpAny (model prog w) A (pyNext it) (fun r s₁ => match r with
     | none => R (.ok .next) s₁
     | some v => wpAny (model prog w) A (letOwnedTupleGo target it v) (fun _ s_1' => wpAny (model prog w) A (assign target env v) (fun _ s_2 =>
         wpAny (model prog w) A (forIn ifs true fun c r => if r = true then do let ok <- isTrue c env (eval c env); pure (ForInStep.yield ok) else pure (ForInStep.yield r)) (fun ok s_3 =>
           if ok = true then wpAny (model prog w) A (eval kx env) (fun kv s_4 => wpAny (model prog w) A (eval vx env) (fun vv s_5 =>
             wpAny (model prog w) A (dictSet D kv vv) (fun _ s_6 => ∃ m, m < n /\ I m s_6) (notedBy (model prog w) A env fun e s' => R (.error e) s') s_5) (notedBy (model prog w) A env fun e s' => R (.error e) s') s_4) (notedBy (model prog w) A env fun e s' => R (.error e) s') s_3
           else ∃ m, m < n /\ I m s_3) (notedBy (model prog w) A env fun e s' => R (.error e) s') s_2) (notedBy (model prog w) A env fun e s' => R (.error e) s') s_1') (notedBy (model prog w) A env fun e s' => R (.error e) s') s₁) (notedBy (model prog w) A env fun e s' => R (.error e) s') s)
   {s : Shared} (n : Nat) (h : I n s) : codeAny (model prog w) A (.compLoop (.DictComp kx vx [⟨target, iter, ifs, 0⟩] scope pos) 0 it (.ref D) env) R s := by
 refine codeAny_loop rfl I (fun n s hI => ?_) n h
 show wpAny _ A ((compTurn (.DictComp kx vx [⟨target, iter, ifs, 0⟩] scope pos) 0 it (.ref D) env).onRaise (fun x => do noteFrame x env; theTreesLotGoes x)) _ _ s
 refine wpAny_noted ?_
 rw [compTurn_dict]
 refine wpAny_bind (wpAny_standAt (wpAny_bind (wpAny_mono (turn n s hI) (fun r s₁ h_1 => ?_) fun _ _ h' => h')))
 cases r with
 | none => exact wpAny_pure h_1
 | some v =>
   refine wpAny_bind (wpAny_mono h_1 (fun _ s_1' h_1' => ?_) fun _ _ h' => h')
   refine wpAny_bind (wpAny_mono h_1' (fun _ s_2 h_2 => wpAny_bind (wpAny_mono h_2 (fun ok s_3 h_3 => ?_) fun _ _ h' => h')) fun _ _ h' => h')
   cases ok with
   | false => exact wpAny_pure ⟨rfl, h_3⟩
   | true => exact wpAny_bind (wpAny_bind (wpAny_mono h_3 (fun kv s_4 h_4 => wpAny_bind (wpAny_holding (wpAny_mono h_4 (fun vv s_5 h_5 => wpAny_bind (wpAny_standAt (wpAny_holding (wpAny_mono h_5 (fun _ s_6 h_6 => wpAny_pure ⟨rfl, h_6⟩) fun _ _ h' => h')))) fun _ _ h' => h'))) fun _ _ h' => h'))
theorem pair_next {A' : Around} {I C : Addr} {fp wr : List Addr} {n i : Nat} {P : Nat -> Value -> Prop} {St : Nat -> Heap -> Prop} {Mid : Nat -> Addr -> Heap -> Prop} {cenv : Env} {x1 x2 : Str} {p1 p2 tp : Pos} {tk0 : Nat} {s : Shared} {m' : Str -> Option Value} {E' : Value -> Shared -> Prop} {Q : Shared -> Prop} {Rn : Shared -> Prop}
   (W : WalksT prog w A' I fp wr n (fun i vals => ∃ t x, P i x /\ vals = #[.int i t, x]) St Mid) (hh : A'.handled = none) (hC : cenv.locals = C) (hx1 : cenv.kindOf x1 = some .local) (hx2 : cenv.kindOf x2 = some .local)
   (hp : (cenv.scope.kind == .class || (cenv.scope.kind == .module && cenv.locals != cenv.globals)) = false) (hCf : C ∉ fp) (hi : i < n) (hst : St i s.heap) (hn : s.heap.Ns C m')
   (h : ∀ h_5 tk t v, P i v -> St (i + 1) h_5 -> h_5.Ns C (fun y => if y = x2 then some v else if y = x1 then some (.int i t) else m' y) -> (∀ b o, b ≠ C -> b ∉ wr -> s.heap.get? b = some o -> h_5.get? b = some o) -> Q { s with heap := h_5, toks := tk }) :
   wpAny (model prog w) A' (pyNext (.ref I)) (fun r s₁ => match r with
     | none => Rn s₁
     | some v => wpAny (model prog w) A' (letOwnedTupleGo (.Tuple [.Name x1 p1, .Name x2 p2] tk0 tp) (.ref I) v) (fun _ s_1' => wpAny (model prog w) A' (assign (.Tuple [.Name x1 p1, .Name x2 p2] tk0 tp) cenv v) (fun _ s_2 => Q s_2) E' s_1') E' s₁) E' s := by
 subst hC
 have hCw : cenv.locals ∉ wr := fun z => hCf (W.sub _ z)
 refine W.item i s _ _ hi hst fun T vals h_1 tk_1 hPt hTn hT hMid hk_1 => ?_
 refine x2_2 (hPt) fun t v hPv hcz3 => ?_
 try clear hPt
 cases hcz3
 have hTw := W.apart i T h_1 hMid
 refine W.go _ _ _ i T _ _ _ hMid fun h_2 hst_2 hk_2 => ?_
 have hT_2 : h_2.IsTuple T #[.int i t, v] := let ⟨o, ho, r⟩ := hT; ⟨o, hk_2 T o hTw ho, r⟩
 have up_2 : ∀ b o, b ∉ wr -> s.heap.get? b = some o -> h_2.get? b = some o := fun b o hb q => hk_2 b o hb (hk_1 b o hb q)
 have hn_2 : h_2.Ns cenv.locals m' := hn.at' fun o q => up_2 _ o hCw q
 refine wpAny_assign_Tuple hh (s := { s with heap := h_2, toks := tk_1 }) hT_2 rfl rfl fun h_3 hx_3 => ?_
 have lt_2 : ∀ b o, h_2.get? b = some o -> h_3.get? b = some o := fun b o q => hx_3 b o (Nat.ne_of_lt (Heap.lt_size q)) q
 have hn_3 := hn_2.keeps lt_2
 refine wpAny_assignInOrder_more (wpAny_assign_Name (wpAny_storeName_local (s := { s with heap := h_3, toks := tk_1 }) hx1 hn_3 (fun h_4 hn_4 hs_4 => ?_) hp))
 refine wpAny_assignInOrder_more (wpAny_assign_Name (wpAny_storeName_local hx2 hn_4 (fun h_5 hn_5 hs_5 => ?_) hp))
 refine wpAny_assignInOrder_none ?_
 have up_5 : ∀ b o, b ≠ cenv.locals -> h_2.get? b = some o -> h_5.get? b = some o := fun b o hb q => hs_5.extBut b o hb (hs_4.extBut b o hb (lt_2 b o q))
 exact h h_5 _ t v hPv (W.frame _ _ _ hst_2 fun b hb o q => up_5 b o (fun z => hCf (z ▸ hb)) q) hn_5 fun b o hb hw q => up_5 b o hb (up_2 b o hw q)
namespace evl_pairH
noncomputable def Stm (progC : Program) (wC : World) (AC : Around) (EC : Value -> Shared -> Prop) (envC : Env) (h_0C : Heap) (s : Shared) (elt iter : Expr) (x1 x2 : Str) (p1 p2 tp : Pos) (tk0 : Nat) (ifs : List Expr) (cl : List (Str × Addr)) (pos : Pos) (Q : Value -> Shared -> Prop) : Prop := ∀ {scope : Scope} (hclos : closureFor scope envC = pure cl) (hcell : ∀ z ∈ scope.names, z.2 ≠ .cell) (hkind : scope.kind = .function) (hnames : ∀ z ∈ scope.names, z.2 = .local -> scope.names.lookup z.1 = some .local) (hx1 : scope.names.lookup x1 = some .local) (hx2 : scope.names.lookup x2 = some .local) (hne : x1 ≠ x2) (hh : AC.handled = none) (h : wpAny (model progC wC) AC (eval iter envC) (fun xv s₁ => wpAny (model progC wC) AC (pyIter xv) (fun it s_2 => Stop (∃ m news n P, ∃ Inv : Nat -> List Value -> Prop, SrcE progC wC AC h_0C envC.locals m news n P it s_2 /\ Inv 0 [] /\ (∀ i ys, Inv i ys -> ys.length <= i) /\
     (∀ C i v s_3 m_3 E' ys, i < n -> P i v -> Inv i ys -> Fr h_0C C s_3.heap m_3 -> News h_0C C s_3.heap news -> (∃ t, m_3 x1 = some (.int i t)) -> m_3 x2 = some v ->
       wpAny (model progC wC) AC (forIn ifs true fun c r => if r = true then do let ok <- isTrue c (compEnvC scope cl C envC) (eval c (compEnvC scope cl C envC)); pure (ForInStep.yield ok) else pure (ForInStep.yield r)) (fun ok s_4 => Keeps s_3 s_4 /\ if ok = true then wpAny (model progC wC) AC (eval elt (compEnvC scope cl C envC)) (fun y s_5 => Keeps s_4 s_5 /\ Inv (i + 1) (ys ++ [y])) E' s_4 else Inv (i + 1) ys) E' s_3) /\
     ∀ (D : Nat) h' tk ys nD, Fr h_0C envC.locals h' m -> News h_0C envC.locals h' ((D, PySem.W.listOf ys.toArray nD) :: news) -> (∀ q ∈ news, @Ne Nat q.1 D) -> Inv n ys -> Q (.ref D) { s_2 with heap := h', toks := tk })) EC s₁) EC s) (hs : ∀ x, foldedSetIterable iter envC x = pure x), wpAny (model progC wC) AC (eval (.ListComp elt [⟨.Tuple [.Name x1 p1, .Name x2 p2] tk0 tp, iter, ifs, 0⟩] scope pos) envC) Q EC s
noncomputable def cx (v : ((((Program × World) × Around) × ((Value -> Shared -> Prop) × Env)) × (((Heap × Shared) × Expr) × (Expr × Str))) × ((((Str × Pos) × Pos) × (Pos × Nat)) × (((List Expr) × (List (Str × Addr))) × (Pos × (Value -> Shared -> Prop))))) : Prop := Stm v.1.1.1.1.1 v.1.1.1.1.2 v.1.1.1.2 v.1.1.2.1 v.1.1.2.2 v.1.2.1.1.1 v.1.2.1.1.2 v.1.2.1.2 v.1.2.2.1 v.1.2.2.2 v.2.1.1.1.1 v.2.1.1.1.2 v.2.1.1.2 v.2.1.2.1 v.2.1.2.2 v.2.2.1.1 v.2.2.1.2 v.2.2.2.1 v.2.2.2.2
noncomputable section
def tup := pk (by walk_at "ne") cx
@[irreducible]def progC:=tup.1.1.1.1.1
@[irreducible]def wC:=tup.1.1.1.1.2
@[irreducible]def AC:=tup.1.1.1.2
@[irreducible]def EC:=tup.1.1.2.1
@[irreducible]def envC:=tup.1.1.2.2
@[irreducible]def h_0C:=tup.1.2.1.1.1
@[irreducible]def s:=tup.1.2.1.1.2
@[irreducible]def elt:=tup.1.2.1.2
@[irreducible]def iter:=tup.1.2.2.1
@[irreducible]def x1:=tup.1.2.2.2
@[irreducible]def x2:=tup.2.1.1.1.1
@[irreducible]def p1:=tup.2.1.1.1.2
@[irreducible]def p2:=tup.2.1.1.2
@[irreducible]def tp:=tup.2.1.2.1
@[irreducible]def tk0:=tup.2.1.2.2
@[irreducible]def ifs:=tup.2.2.1.1
@[irreducible]def cl:=tup.2.2.1.2
@[irreducible]def pos:=tup.2.2.2.1
@[irreducible]def Q:=tup.2.2.2.2
end
noncomputable def P1 : {PQ : Scope -> Value -> Shared -> Shared -> (Str -> Option Value) -> (List (Addr × Obj)) -> Nat -> (Nat -> Value -> Prop) -> (Nat -> List Value -> Prop) -> Addr -> (List Addr) -> (List Addr) -> (Nat -> Heap -> Prop) -> (Nat -> Addr -> Heap -> Prop) -> Prop // Hold (∀ a0 a1 a2 a3 a4 a5 a6 a7 a8 a9 a10 a11 a12 a13, PQ a0 a1 a2 a3 a4 a5 a6 a7 a8 a9 a10 a11 a12 a13) -> Stm progC wC AC EC envC h_0C s elt iter x1 x2 p1 p2 tp tk0 ifs cl pos Q} := ⟨_, by
 intro hPk
 intro scope hclos hcell hkind hnames hx1 hx2 hne hh h hs
 rw [eval_ListComp]
 refine wpAny_comprehension_free (use := none) rfl hs hclos hkind hnames (wpAny_mono h (fun xv s₁ h_1 => wpAny_mono h_1 (fun it s_2 h_2 => ?_) fun _ _ e => e) fun _ _ e => e)
 refine x5_5 (h_2) fun m news n P Inv S I0 Il turn hQ => ?_
 try clear h_2
 refine x5_5 (S.ex) fun I fp wr St Mid hcz5 W hst hfp hwr => ?_
 cases hcz5
 repeat (rename (_ : Prop) => hZ; revert hZ)
 intro hPk
 apply hPk.out scope xv s₁ s_2 m news n P Inv I fp wr St Mid
 ⟩
noncomputable def cx1 (v : (((Scope × Value) × (Shared × Shared)) × (((Str -> Option Value) × (List (Addr × Obj))) × Nat)) × ((((Nat -> Value -> Prop) × (Nat -> List Value -> Prop)) × (Addr × (List Addr))) × (((List Addr) × (Nat -> Heap -> Prop)) × (Nat -> Addr -> Heap -> Prop)))) : Prop := P1.1 v.1.1.1.1 v.1.1.1.2 v.1.1.2.1 v.1.1.2.2 v.1.2.1.1 v.1.2.1.2 v.1.2.2 v.2.1.1.1 v.2.1.1.2 v.2.1.2.1 v.2.1.2.2 v.2.2.1.1 v.2.2.1.2 v.2.2.2
noncomputable section
def tup1 := pk (by walk_at "ne") cx1
@[irreducible]def scope:=tup1.1.1.1.1
@[irreducible]def xv:=tup1.1.1.1.2
@[irreducible]def s₁:=tup1.1.1.2.1
@[irreducible]def s_2:=tup1.1.1.2.2
@[irreducible]def m:=tup1.1.2.1.1
@[irreducible]def news:=tup1.1.2.1.2
@[irreducible]def n:=tup1.1.2.2
@[irreducible]def P:=tup1.2.1.1.1
@[irreducible]def Inv:=tup1.2.1.1.2
@[irreducible]def I:=tup1.2.1.2.1
@[irreducible]def fp:=tup1.2.1.2.2
@[irreducible]def wr:=tup1.2.2.1.1
@[irreducible]def St:=tup1.2.2.1.2
@[irreducible]def Mid:=tup1.2.2.2
end
theorem main_1 : P1.1 scope xv s₁ s_2 m news n P Inv I fp wr St Mid := by
 intro hclos hcell hkind hnames hx1 hx2 hne hh h hs h_1 I0 Il turn hQ W hst hfp hwr S
 have F := S.F
 have N := S.N
 have hz : h_0C.objs.size <= s_2.heap.objs.size := Nat.le_trans F.above (Nat.le_of_lt F.ns.lt)
 refine wpAny_newObj_type (wpAny_newFunctionEnv hcell (by intro y hy; simp at hy) (fun h_1 hns_1 hsb_1 => ?_) hkind)
 dsimp only at hns_1 hsb_1 ⊢
 generalize hH2 : s_2.heap.push { cls := .type "list", dict := none, data := .seq ([] : List Value).toArray } = H2 at hns_1 hsb_1 ⊢
 have hC : H2.objs.size = s_2.heap.objs.size + 1 := by rw [<- hH2, Heap.size_push]
 have hDC : s_2.heap.objs.size ≠ H2.objs.size := by rw [hC]; exact Nat.ne_of_lt (Nat.lt_succ_self _)
 have hCle : s_2.heap.objs.size <= H2.objs.size := by rw [hC]; exact Nat.le_succ _
 have below : ∀ b, b < s_2.heap.objs.size -> b ≠ H2.objs.size /\ b ≠ s_2.heap.objs.size := fun b hb => ⟨by rw [hC]; exact Nat.ne_of_lt (Nat.lt_succ_of_lt hb), Nat.ne_of_lt hb⟩
 have hDf : s_2.heap.objs.size ∉ fp := fun hm => Nat.lt_irrefl _ (hfp _ hm)
 have hCf : H2.objs.size ∉ fp := fun hm => by have := hfp _ hm; rw [hC] at this; exact Nat.lt_irrefl _ (Nat.lt_of_succ_lt this)
 have hDw : s_2.heap.objs.size ∉ wr := fun hm => hDf (W.sub _ hm)
 have hCw : H2.objs.size ∉ wr := fun hm => hCf (W.sub _ hm)
 have old : ∀ b o, s_2.heap.get? b = some o -> h_1.get? b = some o := fun b o e => hsb_1.extBut b o (below b (Heap.lt_size e)).1 (Heap.get?_push_of_some _ (hH2 ▸ Heap.get?_push_of_some _ e))
 have hacc : h_1.PlainList s_2.heap.objs.size #[] := ⟨_, hsb_1.extBut _ _ hDC (Heap.get?_push_of_some _ (hH2 ▸ Heap.get?_push_size _ rfl))⟩
 have hst_1 : St 0 h_1 := W.frame _ _ _ hst fun b _ o e => old b o e
 have frC : ∀ {h : Heap} {m_3}, h.Ns H2.objs.size m_3 -> (∀ b o, b ∉ wr -> s_2.heap.get? b = some o -> h.get? b = some o) -> Fr h_0C H2.objs.size h m_3 /\ News h_0C H2.objs.size h news := fun hns hk =>
   ⟨⟨hns, fun b o e => hk b o (fun q => by rw [(hwr b q).1] at e; cases e) (F.keep _ _ e), Nat.le_trans hz hCle⟩, fun q hq => ⟨hk _ _ (fun z => (hwr _ z).2.1 q hq rfl) (N q hq).1, (below _ (Heap.lt_size (N q hq).1)).1, (N q hq).2.2⟩⟩
 suffices loop : ∀ s_3 : Shared, s_3 = { s_2 with heap := h_1, toks := s_2.toks + ([] : List (Str × Value)).length } ->
     codeAny (model progC wC) AC (.compLoop (.ListComp elt [⟨.Tuple [.Name x1 p1, .Name x2 p2] tk0 tp, iter, ifs, 0⟩] scope pos) 0 (.ref I) (.ref s_2.heap.objs.size) (compEnvC scope cl H2.objs.size envC))
       (compPost (model progC wC) AC EC none Q (.ref s_2.heap.objs.size) H2.objs.size) s_3 from codeAny_compStart_list (loop _ rfl) (W.self 0 _ _ _ hst_1 (loop _ rfl))
 rintro s_3 rfl
 refine loop_tupL (fun k s' => ∀ Z : Prop, (∀ h' tk m' ys i, s' = { s_2 with heap := h', toks := tk } -> St i h' -> h'.PlainList s_2.heap.objs.size (List.toArray ys) -> h'.Ns H2.objs.size m' -> i <= n -> k = n + 1 - i -> Inv i ys -> (∀ b o, b ∉ wr -> s_2.heap.get? b = some o -> h'.get? b = some o) -> Z) -> Z) ?_ (n + 1) (fun Zq kq => kq h_1 _ _ [] 0 rfl hst_1 hacc hns_1 (Nat.zero_le _) rfl I0 (fun b o _ e => old b o e))
 intro k s' HIq
 refine HIq _ fun H tk m' ys i hcq5 hst' hacc' hn' hi hcq10 hInv hk => ?_
 subst hcq5
 subst hcq10
 rcases Nat.lt_or_eq_of_le hi with hlt | rfl
 · refine pair_next W hh rfl (lookup_relabel_local hx1) (lookup_relabel_local hx2) (by simp [compEnvC, relabel, hkind]) hCf hlt hst' hn' fun h_5 tk_5 t v hPv hst_5 hn_5 up_5 => ?_
   have k_5 : ∀ b o, b ∉ wr -> s_2.heap.get? b = some o -> h_5.get? b = some o := fun b o hb e => up_5 b o (below b (Heap.lt_size e)).1 hb (hk b o hb e)
   refine x0_2 (frC hn_5 k_5) fun FC NC => ?_
   refine wpAny_mono (turn H2.objs.size i v _ _ _ ys hlt hPv hInv FC NC ⟨t, by rw [if_neg hne, if_pos rfl]⟩ (by rw [if_pos rfl])) (fun ok s_4 h_4 => ?_) fun _ _ e => e
   revert h_4; intro hoq
   refine x0_2 hoq fun hoa h_4 => ?_
   clear hoq
   refine x2_2 hoa fun h_4' tk_4 hcz9 hk_4 => ?_
   clear hoa
   cases hcz9
   have hacc_5 : h_5.PlainList s_2.heap.objs.size (List.toArray ys) := hacc'.at fun o e => up_5 _ o hDC hDw e
   cases ok with
   | false =>
     rw [if_neg Bool.false_ne_true] at h_4
     rw [if_neg Bool.false_ne_true]
     exact i1_2 (n + 1 - (i + 1)) (by omega) (fun Zq kq => kq h_4' tk_4 _ ys (i + 1) rfl (W.frame _ _ _ hst_5 fun b _ o e => hk_4 b o e) (hacc_5.at fun o e => hk_4 _ o e) (hn_5.keeps hk_4) hlt rfl h_4 (fun b o hb e => hk_4 b o (k_5 b o hb e)))
   | true =>
     rw [if_pos rfl] at h_4
     rw [if_pos rfl]
     refine wpAny_mono h_4 (fun y s_5 h_5' => ?_) fun _ _ e => e
     refine x0_2 h_5' fun hoa hInv' => ?_
     clear h_5'
     refine x2_2 hoa fun h_6 tk_6 hcz9 hk_6 => ?_
     clear hoa
     cases hcz9
     have hys := Il i ys hInv
     have hsz := S.sz
     refine wpAny_list_append_plain (hsz := by rw [List.size_toArray]; exact Nat.le_trans (Nat.le_trans hys (Nat.le_of_lt (Nat.lt_of_lt_of_le hlt hsz))) (by decide)) ((hacc_5.at fun o e => hk_4 _ o e).at fun o e => hk_6 _ o e) fun h_7 li_7 hs_7 => ?_
     refine i1_2 (n + 1 - (i + 1)) (by omega) (fun Zq kq => kq h_7 _ _ (ys ++ [y]) (i + 1) rfl (W.frame _ _ _ hst_5 fun b hb o e => hs_7.extBut b o (fun z => hDf (z ▸ hb)) (hk_6 b o (hk_4 b o e))) (by rw [List.push_toArray] at li_7; exact li_7) (((hn_5.keeps hk_4).keeps hk_6).sameBut hs_7 (Ne.symm hDC)) hlt rfl hInv' (fun b o hb e => ?_))
     exact hs_7.extBut b o (below b (Heap.lt_size e)).2 (hk_6 b o (hk_4 b o (k_5 b o hb e)))
 · refine W.done _ _ _ hst' fun h_8 tk_8 hk_8 => ?_
   refine x1_1 (hacc') fun nD hpl => ?_
   try clear hacc'
   refine i1_2 m' (hn'.at' fun o e => hk_8 _ o hCw e) (fun h_9 hs_9 => ?_)
   have k_9 : ∀ b o, b ∉ wr -> s_2.heap.get? b = some o -> h_9.get? b = some o := fun b o hb e => hs_9.extBut b o (below b (Heap.lt_size e)).1 (hk_8 b o hb (hk b o hb e))
   have oD : h_9.get? s_2.heap.objs.size = some (PySem.W.listOf (List.toArray ys) nD) := hs_9.extBut _ _ hDC (hk_8 _ _ hDw hpl)
   refine hQ s_2.heap.objs.size h_9 tk_8 ys nD ⟨F.ns.at' fun o e => k_9 _ o (fun z => (hwr _ z).2.2 rfl) e, fun b o e => k_9 b o (fun q => by rw [(hwr b q).1] at e; cases e) (F.keep _ _ e), F.above⟩ (fun q hq => ?_) (fun q hq => (below _ (Heap.lt_size (N q hq).1)).2) hInv
   rcases List.mem_cons.mp hq with rfl | hq
   · exact i0_3 oD (Ne.symm (below _ F.ns.lt).2) (Heap.get?_none_of_le hz)
   · exact ⟨k_9 _ _ (fun z => (hwr _ z).2.1 q hq rfl) (N q hq).1, (N q hq).2⟩
theorem main : Stm progC wC AC EC envC h_0C s elt iter x1 x2 p1 p2 tp tk0 ifs cl pos Q := P1.2 ⟨fun a0 a1 a2 a3 a4 a5 a6 a7 a8 a9 a10 a11 a12 a13 => pk_all (p := cx1) (by with_unfolding_all exact main_1) ((((a0, a1), (a2, a3)), ((a4, a5), a6)), (((a7, a8), (a9, a10)), ((a11, a12), a13)))⟩
end evl_pairH
theorem evl_pairX {s elt iter x1 x2 p1 p2 tp tk0 ifs cl pos Q} : evl_pairH.Stm prog w A E env h₀ s elt iter x1 x2 p1 p2 tp tk0 ifs cl pos Q := pk_all (p := evl_pairH.cx) (by with_unfolding_all exact evl_pairH.main) (((((prog, w), A), (E, env)), (((h₀, s), elt), (iter, x1))), ((((x2, p1), p2), (tp, tk0)), ((ifs, cl), (pos, Q))))
theorem evl_pair {s : Shared} {elt iter : Expr} {x1 x2 : Str} {p1 p2 tp : Pos} {tk0 : Nat} {ifs : List Expr} {scope : Scope} {cl : List (Str × Addr)} {pos : Pos} {Q : Value -> Shared -> Prop}
   (hclos : closureFor scope env = pure cl) (hcell : ∀ z ∈ scope.names, z.2 ≠ .cell) (hkind : scope.kind = .function)
   (hnames : ∀ z ∈ scope.names, z.2 = .local -> scope.names.lookup z.1 = some .local) (hx1 : scope.names.lookup x1 = some .local) (hx2 : scope.names.lookup x2 = some .local) (hne : x1 ≠ x2) (hh : A.handled = none)
   (h : wpAny (model prog w) A (eval iter env) (fun xv s₁ => wpAny (model prog w) A (pyIter xv) (fun it s_2 => Stop (∃ m news n P, ∃ Inv : Nat -> List Value -> Prop, SrcE prog w A h₀ env.locals m news n P it s_2 /\ Inv 0 [] /\ (∀ i ys, Inv i ys -> ys.length <= i) /\
     (∀ C i v s_3 m_3 E' ys, i < n -> P i v -> Inv i ys -> Fr h₀ C s_3.heap m_3 -> News h₀ C s_3.heap news -> (∃ t, m_3 x1 = some (.int i t)) -> m_3 x2 = some v ->
       wpAny (model prog w) A (forIn ifs true fun c r => if r = true then do let ok <- isTrue c (compEnvC scope cl C env) (eval c (compEnvC scope cl C env)); pure (ForInStep.yield ok) else pure (ForInStep.yield r)) (fun ok s_4 => Keeps s_3 s_4 /\ if ok = true then wpAny (model prog w) A (eval elt (compEnvC scope cl C env)) (fun y s_5 => Keeps s_4 s_5 /\ Inv (i + 1) (ys ++ [y])) E' s_4 else Inv (i + 1) ys) E' s_3) /\
     ∀ (D : Nat) h' tk ys nD, Fr h₀ env.locals h' m -> News h₀ env.locals h' ((D, PySem.W.listOf ys.toArray nD) :: news) -> (∀ q ∈ news, @Ne Nat q.1 D) -> Inv n ys -> Q (.ref D) { s_2 with heap := h', toks := tk })) E s₁) E s)
   (hs : ∀ x, foldedSetIterable iter env x = pure x := by intro _; rfl) :
   wpAny (model prog w) A (eval (.ListComp elt [⟨.Tuple [.Name x1 p1, .Name x2 p2] tk0 tp, iter, ifs, 0⟩] scope pos) env) Q E s := evl_pairX hclos hcell hkind hnames hx1 hx2 hne hh h hs
theorem iter_enum_list {s : Shared} {L : Addr} {m : Str -> Option Value} {news : List (Addr × Obj)} {G : Addr} {items : Array Value} {Q : Value -> Shared -> Prop} (hh : A.handled = none) (F : Fr h₀ L s.heap m) (N : News h₀ L s.heap news) (hl : s.heap.IsList G items) (hz : items.size <= 9000)
   (h : ∀ it h_2, SrcE prog w A h₀ L m news items.size (fun i v => items[i]? = some v) it { s with heap := h_2 } -> Q it { s with heap := h_2 }) :
   wpAny (model prog w) A (call (.type "enumerate") [.ref G]) (fun xv s₁ => wpAny (model prog w) A (pyIter xv) Q E s₁) E s := by
 refine call_enumerate_list hl fun h' he hi hsz hk => ?_
 refine wpAny_pyIter_enum he (h _ _ ⟨⟨s.heap.objs.size + 1, _, _, _, _, rfl, WalksT.enumerateD (Draws.list (A := A.in1) hh s.heap.objs.size G (Nat.ne_of_lt (let ⟨_, e, _⟩ := hl; Heap.lt_size e)) items) (s.heap.objs.size + 1) (Nat.succ_ne_self _) (fun q => ?_) (List.mem_cons_self ..), ⟨⟨_, he⟩, hi, hl.at fun o e => hk _ o e⟩, fun b hb => ?_, fun b hb => ?_⟩, hz, F.keeps hk, fun q hq => ⟨hk _ _ (N q hq).1, (N q hq).2⟩⟩)
 · have hlt : G < s.heap.objs.size := let ⟨_, e, _⟩ := hl; Heap.lt_size e
   rcases List.mem_cons.mp q with q | q
   · exact Nat.succ_ne_self _ q
   · rw [<- List.mem_singleton.mp q] at hlt; exact absurd hlt (Nat.not_lt.mpr (Nat.le_succ _))
 · have hlt : G < s.heap.objs.size := let ⟨_, e, _⟩ := hl; Heap.lt_size e
   show b < h'.objs.size
   rw [hsz]
   simp only [List.mem_cons, List.not_mem_nil, or_false] at hb
   rcases hb with rfl | rfl | rfl
   · exact Nat.lt_succ_self _
   · exact Nat.lt_succ_of_lt (Nat.lt_succ_self _)
   · exact Nat.lt_succ_of_lt (Nat.lt_succ_of_lt hlt)
 · have hge : s.heap.objs.size <= b := by
     simp only [List.mem_cons, List.not_mem_nil, or_false] at hb
     rcases hb with rfl | rfl
     · exact Nat.le_succ _
     · exact Nat.le_refl _
   exact i0_3 (Heap.get?_none_of_le (Nat.le_trans (Nat.le_trans F.above (Nat.le_of_lt F.ns.lt)) hge)) (fun q hq => Nat.ne_of_lt (Nat.lt_of_lt_of_le (Heap.lt_size (N q hq).1) hge)) (Nat.ne_of_lt (Nat.lt_of_lt_of_le F.ns.lt hge))
end
end Mine
end
section
namespace Mine
structure CTurnC (prog : Program) (w : World) (A : Around) (env : Env) (scope : Scope) (cl : List (Str × Addr)) (x : Str) (ifs : List Expr) (elt : Expr) (h₀ : Heap) (news : List (Addr × Obj)) (P : Nat -> Value -> Prop) (p : Value -> Bool) (G : Value -> Value -> Prop) : Prop where
 tests : ∀ (C : Nat) i v s_3 m_3 E' ox, P i v -> Fr h₀ C s_3.heap m_3 -> News h₀ C s_3.heap ((C + 1, ox) :: news) -> ox.data = .cell (some v) ->
   wpAny (model prog w) A (forIn ifs true fun c r => if r = true then do let ok <- isTrue c (compEnvC scope ((x, C + 1) :: cl) C env) (eval c (compEnvC scope ((x, C + 1) :: cl) C env)); pure (ForInStep.yield ok) else pure (ForInStep.yield r))
     (fun ok s_4 => ok = p v /\ Keeps s_3 s_4) E' s_3
 elt : ∀ (C : Nat) i v s_3 m_3 E' ox, P i v -> p v = true -> Fr h₀ C s_3.heap m_3 -> News h₀ C s_3.heap ((C + 1, ox) :: news) -> ox.data = .cell (some v) ->
   wpAny (model prog w) A (eval elt (compEnvC scope ((x, C + 1) :: cl) C env)) (fun y s_4 => G v y /\ Keeps s_3 s_4) E' s_3
section
variable {prog : Program} {w : World} {A : Around} {E : Value -> Shared -> Prop} {env : Env} {h₀ : Heap}
theorem newEnvC {M : Model} {s : Shared} {scope : Scope} {globals : Addr} {cl : List (Str × Addr)} {qual : Str} {outer : Env} {Q : Env -> Shared -> Prop}
   (hQ : Q { scope := scope, locals := s.heap.objs.size, globals := globals, cells := cellsFrom (s.heap.objs.size + 1) scope.names cl, qual := qual, func := none, code := outer.code, frame := outer.frame, builtins := outer.builtins }
     { s with heap := pushCells (s.heap.push { cls := .type "dict", data := .dict #[] }) scope.names }) :
   wpAny M A (newFunctionEnv scope globals cl [] qual none .none (some outer)) Q E s := by
 simp only [newFunctionEnv, Option.isSome_some, if_true]
 refine wpAny_bind (wpAny_alloc ?_)
 refine wpAny_bind (wpAny_layCells _ (fun name kind cells => by cases hkc : kind == NameKind.cell <;> simp [hkc]) _ _ _ _ ?_)
 rw [show ({ s with heap := s.heap.push { cls := .type "dict", data := .dict #[] } } : Shared).heap.objs.size = s.heap.objs.size + 1 from Heap.size_push ..]
 refine wpAny_bind ?_
 rw [List.forIn_nil]
 exact wpAny_pure (wpAny_pure hQ)
namespace comp_blockCH
noncomputable def Stm (progC : Program) (wC : World) (AC : Around) (EC : Value -> Shared -> Prop) (envC : Env) (h_0C : Heap) (s_2 : Shared) (elt iter : Expr) (x : Str) (px : Pos) (ifs : List Expr) (cl : List (Str × Addr)) (pos : Pos) (I : Addr) (fp : List Addr) (n : Nat) (P : Nat -> Value -> Prop) (St : Nat -> Heap -> Prop) (L : Addr) (m : Str -> Option Value) (news : List (Addr × Obj)) (RR : Value -> Addr -> Result -> Shared -> Prop) : Prop := ∀ {scope : Scope} (W : Walks progC wC AC I fp [I] n P St) (hsz : n <= sizeLine) (p : Value -> Bool) (G : Value -> Value -> Prop) (hkind : scope.kind = .function) (hx : (relabel scope envC).names.lookup x = some .cell) (hpc : ∀ h, pushCells h scope.names = h.push { cls := .type "cell", data := .cell none }) (hcs : ∀ k, cellsFrom k scope.names cl = (x, k) :: cl) (hst : St 0 s_2.heap) (hfp : ∀ b ∈ fp, b < s_2.heap.objs.size) (hI : h_0C.get? I = none) (hnI : ∀ q ∈ news, q.1 ≠ I) (F : Fr h_0C L s_2.heap m) (N : News h_0C L s_2.heap news) (X : CTurnC progC wC AC envC scope cl x ifs elt h_0C news P p G) (hRR : ∀ D C h' tk m' ys (vs : List Value), s_2.heap.get? D = none -> s_2.heap.get? C = none -> D ≠ C -> h'.Ns C m' -> h'.IsList D ys -> h'.PlainList D ys -> vs.length = n -> (∀ j v, vs[j]? = some v -> P j v) -> Paired G (vs.filter p) ys.toList ->
     (∀ b o, b ∉ [I] -> s_2.heap.get? b = some o -> h'.get? b = some o) -> RR (.ref D) C (.ok .next) { s_2 with heap := h', toks := tk }), wpAny (model progC wC) AC (newList []) (fun acc s_3 => wpAny (model progC wC) AC (newFunctionEnv scope envC.globals cl [] envC.qual none .none (some envC)) (fun cenv s_4 =>
     codeAny (model progC wC) AC (.compStart (.ListComp elt [⟨.Name x px, iter, ifs, 0⟩] scope pos) 0 (.ref I) acc { cenv with scope := relabel scope envC }) (RR acc cenv.locals) s_4) EC s_3) EC s_2
noncomputable def cx (v : ((((Program × World) × Around) × (((Value -> Shared -> Prop) × Env) × Heap)) × (((Shared × Expr) × Expr) × ((Str × Pos) × (List Expr)))) × (((((List (Str × Addr)) × Pos) × Addr) × (((List Addr) × Nat) × (Nat -> Value -> Prop))) × ((((Nat -> Heap -> Prop) × Addr) × (Str -> Option Value)) × ((List (Addr × Obj)) × (Value -> Addr -> Result -> Shared -> Prop))))) : Prop := Stm v.1.1.1.1.1 v.1.1.1.1.2 v.1.1.1.2 v.1.1.2.1.1 v.1.1.2.1.2 v.1.1.2.2 v.1.2.1.1.1 v.1.2.1.1.2 v.1.2.1.2 v.1.2.2.1.1 v.1.2.2.1.2 v.1.2.2.2 v.2.1.1.1.1 v.2.1.1.1.2 v.2.1.1.2 v.2.1.2.1.1 v.2.1.2.1.2 v.2.1.2.2 v.2.2.1.1.1 v.2.2.1.1.2 v.2.2.1.2 v.2.2.2.1 v.2.2.2.2
noncomputable section
def tup := pk (by walk_at "ne") cx
@[irreducible]def progC:=tup.1.1.1.1.1
@[irreducible]def wC:=tup.1.1.1.1.2
@[irreducible]def AC:=tup.1.1.1.2
@[irreducible]def EC:=tup.1.1.2.1.1
@[irreducible]def envC:=tup.1.1.2.1.2
@[irreducible]def h_0C:=tup.1.1.2.2
@[irreducible]def s_2:=tup.1.2.1.1.1
@[irreducible]def elt:=tup.1.2.1.1.2
@[irreducible]def iter:=tup.1.2.1.2
@[irreducible]def x:=tup.1.2.2.1.1
@[irreducible]def px:=tup.1.2.2.1.2
@[irreducible]def ifs:=tup.1.2.2.2
@[irreducible]def cl:=tup.2.1.1.1.1
@[irreducible]def pos:=tup.2.1.1.1.2
@[irreducible]def I:=tup.2.1.1.2
@[irreducible]def fp:=tup.2.1.2.1.1
@[irreducible]def n:=tup.2.1.2.1.2
@[irreducible]def P:=tup.2.1.2.2
@[irreducible]def St:=tup.2.2.1.1.1
@[irreducible]def L:=tup.2.2.1.1.2
@[irreducible]def m:=tup.2.2.1.2
@[irreducible]def news:=tup.2.2.2.1
@[irreducible]def RR:=tup.2.2.2.2
end
theorem main : Stm progC wC AC EC envC h_0C s_2 elt iter x px ifs cl pos I fp n P St L m news RR := by
 intro scope W hsz p G hkind hx hpc hcs hst hfp hI hnI F N X hRR
 have hz : h_0C.objs.size <= s_2.heap.objs.size := Nat.le_trans F.above (Nat.le_of_lt F.ns.lt)
 refine wpAny_newObj_type (newEnvC ?_)
 rw [hpc, hcs]
 dsimp only
 generalize hH2 : s_2.heap.push { cls := .type "list", dict := none, data := .seq ([] : List Value).toArray } = H2
 have hC : H2.objs.size = s_2.heap.objs.size + 1 := by rw [<- hH2, Heap.size_push]
 have hC1 : (H2.push { cls := .type "dict", data := .dict #[] }).objs.size = H2.objs.size + 1 := Heap.size_push ..
 have hDC : s_2.heap.objs.size ≠ H2.objs.size := by rw [hC]; exact Nat.ne_of_lt (Nat.lt_succ_self _)
 have hDC1 : s_2.heap.objs.size ≠ H2.objs.size + 1 := by rw [hC]; exact Nat.ne_of_lt (Nat.lt_succ_of_lt (Nat.lt_succ_self _))
 have hCC1 : H2.objs.size ≠ H2.objs.size + 1 := Nat.ne_of_lt (Nat.lt_succ_self _)
 have hCle : s_2.heap.objs.size <= H2.objs.size := by rw [hC]; exact Nat.le_succ _
 have below : ∀ b, b < s_2.heap.objs.size -> b ≠ H2.objs.size /\ b ≠ s_2.heap.objs.size /\ b ≠ H2.objs.size + 1 := fun b hb => ⟨by rw [hC]; exact Nat.ne_of_lt (Nat.lt_succ_of_lt hb), Nat.ne_of_lt hb, by rw [hC]; exact Nat.ne_of_lt (Nat.lt_succ_of_lt (Nat.lt_succ_of_lt hb))⟩
 have hDf : s_2.heap.objs.size ∉ fp := fun hm => Nat.lt_irrefl _ (hfp _ hm)
 have hCf : H2.objs.size ∉ fp := fun hm => (below _ (hfp _ hm)).1 rfl
 have hC1f : H2.objs.size + 1 ∉ fp := fun hm => (below _ (hfp _ hm)).2.2 rfl
 have hIf : I ∈ fp := W.sub I List.mem_cons_self
 have fresh : ∀ a, s_2.heap.objs.size <= a -> s_2.heap.get? a = none := fun a ha => Heap.get?_none_of_le ha
 generalize hH3 : (H2.push { cls := .type "dict", data := .dict #[] }).push { cls := .type "cell", data := .cell none } = h_1
 have old : ∀ b o, s_2.heap.get? b = some o -> h_1.get? b = some o := fun b o e => by
   rw [<- hH3]; exact Heap.get?_push_of_some _ (Heap.get?_push_of_some _ (hH2 ▸ Heap.get?_push_of_some _ e))
 have hacc : h_1.PlainList s_2.heap.objs.size #[] := ⟨_, by rw [<- hH3]; exact Heap.get?_push_of_some _ (Heap.get?_push_of_some _ (hH2 ▸ Heap.get?_push_size _ rfl))⟩
 have hns_1 : h_1.Ns H2.objs.size (fun _ => none) := by rw [<- hH3]; exact (Heap.Ns.new H2 (.type "dict")).keeps fun b o e => Heap.get?_push_of_some _ e
 have hce_1 : h_1.IsCell (H2.objs.size + 1) none := ⟨{ cls := .type "cell", data := .cell none }, by rw [<- hH3, <- hC1]; exact Heap.get?_push_size _ rfl, rfl⟩
 suffices loop : ∀ s_3 : Shared, s_3 = { s_2 with heap := h_1 } ->
     codeAny (model progC wC) AC (.compLoop (.ListComp elt [⟨.Name x px, iter, ifs, 0⟩] scope pos) 0 (.ref I) (.ref s_2.heap.objs.size) (compEnvC scope ((x, H2.objs.size + 1) :: cl) H2.objs.size envC))
       (RR (.ref s_2.heap.objs.size) H2.objs.size) s_3 from codeAny_compStart_list (loop _ rfl) (W.self 0 _ _ _ (W.frame _ _ _ hst fun b _ o e => old b o e) (loop _ rfl))
 rintro s_3 rfl
 refine loop_tupL (fun k s' => ∀ Z : Prop, (∀ h' tk m' v₀ vs ys, s' = { s_2 with heap := h', toks := tk } -> St vs.length h' -> h'.PlainList s_2.heap.objs.size (List.toArray ys) -> h'.Ns H2.objs.size m' -> h'.IsCell (H2.objs.size + 1) v₀ -> vs.length <= n -> k = n + 1 - vs.length -> (∀ j v, vs[j]? = some v -> P j v) -> Paired G (vs.filter p) ys -> ys.length <= vs.length -> (∀ b o, b ∉ [I] -> s_2.heap.get? b = some o -> h'.get? b = some o) -> Z) -> Z) ?_ (n + 1) (fun Zq kq => kq h_1 _ _ none [] [] rfl (W.frame _ _ _ hst fun b _ o e => old b o e) hacc hns_1 hce_1 (Nat.zero_le _) rfl (fun j v h => by simp at h) .nil (Nat.le_refl _) (fun b o _ e => old b o e))
 intro k s' HIq
 refine HIq _ fun H tk m' v₀ vs ys hcq6 hst' hacc' hn' hc' hi hcq12 hP hF hyl hk => ?_
 subst hcq6
 subst hcq12
 rcases Nat.lt_or_eq_of_le hi with hlt | hin
 · refine W.item vs.length _ _ _ hlt hst' fun v h_2 tk_2 hPv hst_2 hk_2 => ?_
   refine wpAny_of_eq (rfl : letOwnedTupleGo (.Name _ _) _ _ = pure ()) ?_
   have up_2 : ∀ b o, b ∉ [I] -> H.get? b = some o -> h_2.get? b = some o := hk_2
   have nI : ∀ b, b ∉ fp -> b ∉ [I] := fun b hb z => hb (List.mem_singleton.mp z ▸ hIf)
   refine wpAny_assign_Name (wpAny_storeName_cell (v₀ := v₀) (c := H2.objs.size + 1) (by simp [compEnvC, relabel, hkind]) hx (by simp [compEnvC]) (let ⟨o, ho, r⟩ := hc'; ⟨o, up_2 _ o (nI _ hC1f) ho, r⟩) fun h_3 hc_3 hs_3 => ?_)
   have up_3 : ∀ b o, b ≠ H2.objs.size + 1 -> b ∉ [I] -> H.get? b = some o -> h_3.get? b = some o := fun b o h1 h2 e => hs_3.extBut b o h1 (up_2 b o h2 e)
   have k_3 : ∀ b o, b ∉ [I] -> s_2.heap.get? b = some o -> h_3.get? b = some o := fun b o hb e => up_3 b o (below b (Heap.lt_size e)).2.2 hb (hk b o hb e)
   have hn_3 : h_3.Ns H2.objs.size m' := hn'.at' fun o e => up_3 _ o hCC1 (nI _ hCf) e
   have hst_3 : St (vs.length + 1) h_3 := W.frame _ _ _ hst_2 fun b hb o e => hs_3.extBut b o (fun z => hC1f (z ▸ hb)) e
   refine x1_1 (hacc') fun nA hA => ?_
   try clear hacc'
   have hA_3 := up_3 _ _ hDC1 (nI _ hDf) hA
   refine x1_2 (id hc_3) fun oc hoc hocd => ?_
   have FC : Fr h_0C H2.objs.size h_3 m' := ⟨hn_3, fun b o e => k_3 b o (fun q => by rw [List.mem_singleton.mp q, hI] at e; cases e) (F.keep _ _ e), Nat.le_trans hz hCle⟩
   have NC : News h_0C H2.objs.size h_3 ((H2.objs.size + 1, oc) :: news) := fun q hq => by
     rcases List.mem_cons.mp hq with rfl | hq
     · exact i0_3 hoc (Ne.symm hCC1) (Heap.get?_none_of_le (Nat.le_trans hz (Nat.le_trans hCle (Nat.le_succ _))))
     · exact i0_3 (k_3 _ _ (fun z => hnI q hq (List.mem_singleton.mp z)) (N q hq).1) ((below _ (Heap.lt_size (N q hq).1)).1) ((N q hq).2.2)
   refine wpAny_mono (X.tests H2.objs.size vs.length v _ m' _ oc hPv FC NC hocd) (fun ok s_4 h_4 => ?_) fun _ _ e => e
   revert h_4; intro hoq
   refine x0_2 hoq fun hcz0 hoa => ?_
   refine x2_2 hoa fun h_4 tk_4 hcz3 hk_4 => ?_
   clear hoa
   try clear hoq
   cases hcz0
   cases hcz3
   have vsP : ∀ j u, (vs ++ [v])[j]? = some u -> P j u := fun j u hj => by
     rcases Nat.lt_or_ge j vs.length with hj' | hj'
     · rw [List.getElem?_append_left hj'] at hj; exact hP j u hj
     · rw [List.getElem?_append_right hj'] at hj
       cases hd : j - vs.length with
       | zero =>
         rw [hd] at hj
         have e1 : j = vs.length := by omega
         have e2 : v = u := by simpa using hj
         rw [e1, <- e2]; exact hPv
       | succ t => rw [hd] at hj; simp at hj
   cases hp : p v with
   | false =>
     rw [if_neg (by decide)]
     refine i1_2 (n + 1 - (vs.length + 1)) (by omega) (fun Zq kq => kq h_4 _ m' _ (vs ++ [v]) ys rfl ?_ ⟨nA, hk_4 _ _ hA_3⟩ (hn_3.keeps hk_4) (hc_3.keeps hk_4) ?_ ?_ vsP ?_ ?_ (fun b o hb e => hk_4 _ _ (k_3 b o hb e)))
     · rw [List.length_append]; exact W.frame _ _ _ hst_3 fun b _ o e => hk_4 _ _ e
     · rw [List.length_append]; exact hlt
     · rw [List.length_append]; rfl
     · rw [List.filter_append, List.filter_cons, hp]; simpa using hF
     · rw [List.length_append]; exact Nat.le_succ_of_le hyl
   | true =>
     rw [if_pos rfl]
     have FC_4 : Fr h_0C H2.objs.size h_4 m' := fr_keeps FC hk_4
     have NC_4 : News h_0C H2.objs.size h_4 ((H2.objs.size + 1, oc) :: news) := fun q hq => ⟨hk_4 _ _ (NC q hq).1, (NC q hq).2⟩
     refine wpAny_mono (X.elt H2.objs.size vs.length v _ m' _ oc hPv hp FC_4 NC_4 hocd) (fun y s_5 h_5 => ?_) fun _ _ e => e
     revert h_5; intro hoq
     refine x0_2 hoq fun hG hoa => ?_
     refine x2_2 hoa fun h_5 tk_5 hcz3 hk_5 => ?_
     clear hoa
     try clear hoq
     cases hcz3
     refine wpAny_list_append_plain (hsz := by rw [List.size_toArray]; exact Nat.le_trans hyl (Nat.le_trans (Nat.le_of_lt hlt) hsz)) ⟨nA, hk_5 _ _ (hk_4 _ _ hA_3)⟩ fun h_6 li_6 hs_6 => ?_
     have up_6 : ∀ b o, b ≠ s_2.heap.objs.size -> h_3.get? b = some o -> h_6.get? b = some o := fun b o hb e => hs_6.extBut b o hb (hk_5 _ _ (hk_4 _ _ e))
     refine i1_2 (n + 1 - (vs.length + 1)) (by omega) (fun Zq kq => kq h_6 _ m' (some v) (vs ++ [v]) (ys ++ [y]) rfl ?_ (by rw [List.push_toArray] at li_6; exact li_6) (hn_3.at' fun o e => up_6 _ o (Ne.symm hDC) e) ⟨oc, up_6 _ _ (Ne.symm hDC1) hoc, hocd⟩ ?_ ?_ vsP ?_ ?_ (fun b o hb e => up_6 b o (below b (Heap.lt_size e)).2.1 (k_3 b o hb e)))
     · rw [List.length_append]; exact W.frame _ _ _ hst_3 fun b hb o e => up_6 b o (fun z => hDf (z ▸ hb)) e
     · rw [List.length_append]; exact hlt
     · rw [List.length_append]; rfl
     · rw [List.filter_append, List.filter_cons, hp]
       exact hF.snoc hG
     · rw [List.length_append, List.length_append]; exact Nat.succ_le_succ hyl
 · rw [hin] at hst'
   refine W.done _ _ _ hst' fun h_8 tk_8 hk_8 => ?_
   refine x1_1 (hacc') fun nD hpl => ?_
   try clear hacc'
   have nI : ∀ b, b ∉ fp -> b ∉ [I] := fun b hb z => hb (List.mem_singleton.mp z ▸ hIf)
   have hpl_8 := hk_8 _ _ (nI _ hDf) hpl
   exact hRR _ _ h_8 tk_8 m' (List.toArray ys) vs (fresh _ (Nat.le_refl _)) (fresh _ hCle) hDC (hn'.at' fun o e => hk_8 _ o (nI _ hCf) e) ⟨_, hpl_8, rfl, nD, rfl⟩ ⟨nD, hpl_8⟩ hin hP hF fun b o hb e => hk_8 b o hb (hk b o hb e)
end comp_blockCH
theorem comp_blockC {s_2 elt iter x px ifs cl pos I fp n P St L m news RR} : comp_blockCH.Stm prog w A E env h₀ s_2 elt iter x px ifs cl pos I fp n P St L m news RR := pk_all (p := comp_blockCH.cx) (by with_unfolding_all exact comp_blockCH.main) (((((prog, w), A), ((E, env), h₀)), (((s_2, elt), iter), ((x, px), ifs))), ((((cl, pos), I), ((fp, n), P)), (((St, L), m), (news, RR))))
theorem evl_compC {s : Shared} {elt iter : Expr} {x : Str} {px : Pos} {ifs : List Expr} {scope : Scope} {cl : List (Str × Addr)} {pos : Pos} {Q : Value -> Shared -> Prop}
   (hclos : closureFor scope env = pure cl) (hkind : scope.kind = .function)
   (hnames : ∀ z ∈ scope.names, z.2 = .local -> scope.names.lookup z.1 = some .local) (hx : (relabel scope env).names.lookup x = some .cell)
   (hpc : ∀ h, pushCells h scope.names = h.push { cls := .type "cell", data := .cell none }) (hcs : ∀ k, cellsFrom k scope.names cl = (x, k) :: cl) (p : Value -> Bool) (G : Value -> Value -> Prop)
   (h : wpAny (model prog w) A (eval iter env) (fun xv s₁ => wpAny (model prog w) A (pyIter xv) (fun it s_2 => Stop (∃ m news n P, Src prog w A h₀ env.locals m news n P it s_2 /\ CTurnC prog w A env scope cl x ifs elt h₀ news P p G /\
     ∀ (D : Nat) h' tk ys nD (vs : List Value), Fr h₀ env.locals h' m -> News h₀ env.locals h' ((D, PySem.W.listOf ys nD) :: news) -> (∀ q ∈ news, @Ne Nat q.1 D) -> vs.length = n -> (∀ j v, vs[j]? = some v -> P j v) -> Paired G (vs.filter p) ys.toList -> Q (.ref D) { s_2 with heap := h', toks := tk })) E s₁) E s)
   (hs : ∀ x, foldedSetIterable iter env x = pure x := by intro _; rfl) :
   wpAny (model prog w) A (eval (.ListComp elt [⟨.Name x px, iter, ifs, 0⟩] scope pos) env) Q E s := by
 rw [eval_ListComp]
 refine wpAny_comprehension_free (use := none) rfl hs hclos hkind hnames (wpAny_mono h (fun xv s₁ h_1 => wpAny_mono h_1 (fun it s_2 h_2 => ?_) fun _ _ e => e) fun _ _ e => e)
 refine x4_3 (h_2) fun m news n P S X hQ => ?_
 try clear h_2
 refine x3_7 (S.ex) fun I fp St hcz3 W hst hfp hI hnI hL => ?_
 cases hcz3
 refine comp_blockC (RR := fun acc C => compPost (model prog w) A E none Q acc C) W S.sz p G hkind hx hpc hcs hst hfp hI hnI S.F S.N X ?_
 rintro D C h' tk m' ys vs hD hC hDC hn hl ⟨nD, hpl⟩ hlen hP hF hk
 refine i1_2 m' hn (fun h'' hs'' => ?_)
 have k_2 : ∀ b o, b ∉ [I] -> s_2.heap.get? b = some o -> h''.get? b = some o := fun b o hb e => hs''.extBut b o (fun z => by rw [z, hC] at e; cases e) (hk b o hb e)
 refine x0_2 (news_new S.F S.N hI hnI hD (hs''.extBut D _ hDC hpl) fun b o _ hb e => k_2 b o hb e) fun N' ne => ?_
 refine hQ D h'' tk ys nD vs ⟨S.F.ns.at' fun o e => k_2 _ o (fun z => hL (List.mem_singleton.mp z)) e, fun b o e => k_2 b o (fun z => ?_) (S.F.keep _ _ e), S.F.above⟩ N' ne hlen hP hF
 rw [List.mem_singleton.mp z, hI] at e; cases e
theorem asg_compC {s : Shared} {elt iter : Expr} {x y : Str} {px py : Pos} {ifs : List Expr} {scope : Scope} {cl : List (Str × Addr)} {pos spos : Pos} {Q : Flow -> Shared -> Prop}
   (hsw : swapsWith (.ListComp elt [⟨.Name x px, iter, ifs, 0⟩] scope pos) (some (.Name y py)) spos.line env = pure true)
   (hclos : closureFor scope env = pure cl) (hkind : scope.kind = .function)
   (hnames : ∀ z ∈ scope.names, z.2 = .local -> scope.names.lookup z.1 = some .local) (hx : (relabel scope env).names.lookup x = some .cell)
   (hpc : ∀ h, pushCells h scope.names = h.push { cls := .type "cell", data := .cell none }) (hcs : ∀ k, cellsFrom k scope.names cl = (x, k) :: cl)
   (hy : env.kindOf y = some .local) (hp : (env.scope.kind == .class || (env.scope.kind == .module && env.locals != env.globals)) = false) (p : Value -> Bool) (G : Value -> Value -> Prop)
   (h : wpAny (model prog w) A (eval iter env) (fun xv s₁ => wpAny (model prog w) A (pyIter xv) (fun it s_2 => Stop (∃ m news n P, Src prog w A h₀ env.locals m news n P it s_2 /\ CTurnC prog w A env scope cl x ifs elt h₀ news P p G /\
     ∀ (D : Nat) h' tk ys nD (vs : List Value), Fr h₀ env.locals h' (fun z => if z = y then some (.ref D) else m z) -> News h₀ env.locals h' ((D, PySem.W.listOf ys nD) :: news) -> (∀ q ∈ news, @Ne Nat q.1 D) -> vs.length = n -> (∀ j v, vs[j]? = some v -> P j v) -> Paired G (vs.filter p) ys.toList -> Q .next { s_2 with heap := h', toks := tk })) E s₁) E s)
   (hs : ∀ x, foldedSetIterable iter env x = pure x := by intro _; rfl) :
   wpAny (model prog w) A (exec (.Assign [.Name y py] (.ListComp elt [⟨.Name x px, iter, ifs, 0⟩] scope pos) spos) env) Q E s := by
 rw [exec_Assign_Name_used _ _ _ _ hsw]
 refine wpAny_bind (wpAny_standAt (wpAny_bind ?_))
 show wpAny _ A (do let _ <- comprehension (.ListComp elt [⟨.Name x px, iter, ifs, 0⟩] scope pos) scope env _ (newList []) false (eval iter env) (some (assign (.Name y py) env))) _ _ s
 refine wpAny_bind (wpAny_mono (wpAny_comprehension_free (use := some (assign (.Name y py) env)) (Q := fun _ s' => Q .next s') rfl hs hclos hkind hnames
   (wpAny_mono h (fun xv s₁ h_1 => wpAny_mono h_1 (fun it s_2 h_2 => ?_) fun _ _ e => e) fun _ _ e => e)) (fun _ s' hq => wpAny_pure (wpAny_pure hq)) fun _ _ e => e)
 refine x4_3 (h_2) fun m news n P S X hQ => ?_
 try clear h_2
 refine x3_7 (S.ex) fun I fp St hcz3 W hst hfp hI hnI hL => ?_
 cases hcz3
 refine comp_blockC (RR := fun acc C => compPost (model prog w) A E (some (assign (.Name y py) env)) (fun _ s' => Q .next s') acc C) W S.sz p G hkind hx hpc hcs hst hfp hI hnI S.F S.N X ?_
 rintro D C h' tk m' ys vs hD hC hDC hnC hlD ⟨nD, hpl⟩ hlen hP hF hk
 obtain ⟨oL, _, _, hoL, _⟩ := id S.F.ns
 have hLC : env.locals ≠ C := fun z => by rw [z, hC] at hoL; cases hoL
 have hLD : env.locals ≠ D := fun z => by rw [z, hD] at hoL; cases hoL
 have hLI : env.locals ∉ [I] := fun z => hL (List.mem_singleton.mp z)
 show wpAny _ A (assign (.Name y py) env (.ref D)) _ _ _
 refine wpAny_assign_Name (wpAny_storeName_local hy (S.F.ns.at' fun o e => hk _ o hLI e) (fun h_2 hn_2 hs_2 => ?_) hp)
 refine i1_2 m' (hnC.sameBut hs_2 (Ne.symm hLC)) (fun h_3 hs_3 => ?_)
 have k_3 : ∀ b o, b ≠ env.locals -> b ∉ [I] -> s_2.heap.get? b = some o -> h_3.get? b = some o := fun b o hbL hb e => hs_3.extBut b o (fun z => by rw [z, hC] at e; cases e) (hs_2.extBut b o hbL (hk b o hb e))
 refine x0_2 (news_new S.F S.N hI hnI hD (hs_3.extBut D _ hDC (hs_2.extBut D _ (Ne.symm hLD) hpl)) k_3) fun N' ne => ?_
 refine hQ D h_3 _ ys nD vs ⟨hn_2.sameBut hs_3 hLC, fun b o e => k_3 b o (fun z => ?_) (fun z => ?_) (S.F.keep _ _ e), S.F.above⟩ N' ne hlen hP hF
 · exact absurd (Heap.lt_size e) (by rw [z]; exact Nat.not_lt.mpr S.F.above)
 · rw [List.mem_singleton.mp z, hI] at e; cases e
end
end Mine
end
section
namespace Mine
section
variable {prog : Program} {w : World} {A : Around} {E : Value -> Shared -> Prop} {env : Env} {h₀ : Heap} {R : Result -> Shared -> Prop}
namespace asg_pairDH
noncomputable def Stm (progC : Program) (wC : World) (AC : Around) (EC : Value -> Shared -> Prop) (envC : Env) (h_0C : Heap) (s : Shared) (kx vx iter : Expr) (x1 x2 y : Str) (p1 p2 tp py : Pos) (tk0 : Nat) (cl : List (Str × Addr)) (pos spos : Pos) (Q : Flow -> Shared -> Prop) : Prop := ∀ {scope : Scope} (hsw : swapsWith (.DictComp kx vx [⟨.Tuple [.Name x1 p1, .Name x2 p2] tk0 tp, iter, [], 0⟩] scope pos) (some (.Name y py)) spos.line envC = pure true) (hclos : closureFor scope envC = pure cl) (hcell : ∀ z ∈ scope.names, z.2 ≠ .cell) (hkind : scope.kind = .function) (hnames : ∀ z ∈ scope.names, z.2 = .local -> scope.names.lookup z.1 = some .local) (hx1 : scope.names.lookup x1 = some .local) (hx2 : scope.names.lookup x2 = some .local) (hne : x1 ≠ x2) (hh : AC.handled = none) (hy : envC.kindOf y = some .local) (hp : (envC.scope.kind == .class || (envC.scope.kind == .module && envC.locals != envC.globals)) = false) (h : wpAny (model progC wC) AC (eval iter envC) (fun xv s₁ => wpAny (model progC wC) AC (pyIter xv) (fun it s_2 => Stop (∃ m news n P, ∃ Inv : Nat -> List (Str × Value) -> Prop, SrcE progC wC AC h_0C envC.locals m news n P it s_2 /\ Inv 0 [] /\ (∀ i ys, Inv i ys -> ys.length <= i) /\
     (∀ C i v s_3 m_3 E' ys, i < n -> P i v -> Inv i ys -> Fr h_0C C s_3.heap m_3 -> News h_0C C s_3.heap news -> (∃ t, m_3 x1 = some (.int i t)) -> m_3 x2 = some v ->
       wpAny (model progC wC) AC (eval kx (compEnvC scope cl C envC)) (fun kv s_4 => ∃ k t, kv = .str k t /\ Keeps s_3 s_4 /\ wpAny (model progC wC) AC (eval vx (compEnvC scope cl C envC)) (fun y s_5 => Keeps s_4 s_5 /\ Inv (i + 1) (stored ys k y)) E' s_4) E' s_3) /\
     ∀ (D : Nat) h' tk ys o, Fr h_0C envC.locals h' (fun z => if z = y then some (.ref D) else m z) -> o.IsDictOf (PySem.strKind progC wC) ys -> News h_0C envC.locals h' ((D, o) :: news) -> (∀ q ∈ news, @Ne Nat q.1 D) -> Inv n ys -> Q .next { s_2 with heap := h', toks := tk })) EC s₁) EC s) (hs : ∀ x, foldedSetIterable iter envC x = pure x), wpAny (model progC wC) AC (exec (.Assign [.Name y py] (.DictComp kx vx [⟨.Tuple [.Name x1 p1, .Name x2 p2] tk0 tp, iter, [], 0⟩] scope pos) spos) envC) Q EC s
noncomputable def cx (v : ((((Program × World) × Around) × (((Value -> Shared -> Prop) × Env) × Heap)) × (((Shared × Expr) × Expr) × (Expr × Str))) × ((((Str × Str) × Pos) × ((Pos × Pos) × Pos)) × (((Nat × (List (Str × Addr))) × Pos) × (Pos × (Flow -> Shared -> Prop))))) : Prop := Stm v.1.1.1.1.1 v.1.1.1.1.2 v.1.1.1.2 v.1.1.2.1.1 v.1.1.2.1.2 v.1.1.2.2 v.1.2.1.1.1 v.1.2.1.1.2 v.1.2.1.2 v.1.2.2.1 v.1.2.2.2 v.2.1.1.1.1 v.2.1.1.1.2 v.2.1.1.2 v.2.1.2.1.1 v.2.1.2.1.2 v.2.1.2.2 v.2.2.1.1.1 v.2.2.1.1.2 v.2.2.1.2 v.2.2.2.1 v.2.2.2.2
noncomputable section
def tup := pk (by walk_at "ne") cx
@[irreducible]def progC:=tup.1.1.1.1.1
@[irreducible]def wC:=tup.1.1.1.1.2
@[irreducible]def AC:=tup.1.1.1.2
@[irreducible]def EC:=tup.1.1.2.1.1
@[irreducible]def envC:=tup.1.1.2.1.2
@[irreducible]def h_0C:=tup.1.1.2.2
@[irreducible]def s:=tup.1.2.1.1.1
@[irreducible]def kx:=tup.1.2.1.1.2
@[irreducible]def vx:=tup.1.2.1.2
@[irreducible]def iter:=tup.1.2.2.1
@[irreducible]def x1:=tup.1.2.2.2
@[irreducible]def x2:=tup.2.1.1.1.1
@[irreducible]def y:=tup.2.1.1.1.2
@[irreducible]def p1:=tup.2.1.1.2
@[irreducible]def p2:=tup.2.1.2.1.1
@[irreducible]def tp:=tup.2.1.2.1.2
@[irreducible]def py:=tup.2.1.2.2
@[irreducible]def tk0:=tup.2.2.1.1.1
@[irreducible]def cl:=tup.2.2.1.1.2
@[irreducible]def pos:=tup.2.2.1.2
@[irreducible]def spos:=tup.2.2.2.1
@[irreducible]def Q:=tup.2.2.2.2
end
noncomputable def P1 : {PQ : Scope -> Value -> Shared -> Shared -> (Str -> Option Value) -> (List (Addr × Obj)) -> Nat -> (Nat -> Value -> Prop) -> (Nat -> List (Str × Value) -> Prop) -> Addr -> (List Addr) -> (List Addr) -> (Nat -> Heap -> Prop) -> (Nat -> Addr -> Heap -> Prop) -> Prop // Hold (∀ a0 a1 a2 a3 a4 a5 a6 a7 a8 a9 a10 a11 a12 a13, PQ a0 a1 a2 a3 a4 a5 a6 a7 a8 a9 a10 a11 a12 a13) -> Stm progC wC AC EC envC h_0C s kx vx iter x1 x2 y p1 p2 tp py tk0 cl pos spos Q} := ⟨_, by
 intro hPk
 intro scope hsw hclos hcell hkind hnames hx1 hx2 hne hh hy hp h hs
 rw [exec_Assign_Name_used _ _ _ _ hsw]
 refine wpAny_bind (wpAny_standAt (wpAny_bind ?_))
 show wpAny _ AC (do let _ <- comprehension (.DictComp kx vx [⟨.Tuple [.Name x1 p1, .Name x2 p2] tk0 tp, iter, [], 0⟩] scope pos) scope envC _ newDict false (eval iter envC) (some (assign (.Name y py) envC))) _ _ s
 refine wpAny_bind (wpAny_mono (wpAny_comprehension_free (use := some (assign (.Name y py) envC)) (Q := fun _ s' => Q .next s') rfl hs hclos hkind hnames
   (wpAny_mono h (fun xv s₁ h_1 => wpAny_mono h_1 (fun it s_2 h_2 => ?_) fun _ _ e => e) fun _ _ e => e)) (fun _ s' hq => wpAny_pure (wpAny_pure hq)) fun _ _ e => e)
 refine x5_5 (h_2) fun m news n P Inv S I0 Il turn hQ => ?_
 try clear h_2
 refine x5_5 (S.ex) fun I fp wr St Mid hcz5 W hst hfp hwr => ?_
 cases hcz5
 repeat (rename (_ : Prop) => hZ; revert hZ)
 intro hPk
 apply hPk.out scope xv s₁ s_2 m news n P Inv I fp wr St Mid
 ⟩
noncomputable def cx1 (v : (((Scope × Value) × (Shared × Shared)) × (((Str -> Option Value) × (List (Addr × Obj))) × Nat)) × ((((Nat -> Value -> Prop) × (Nat -> List (Str × Value) -> Prop)) × (Addr × (List Addr))) × (((List Addr) × (Nat -> Heap -> Prop)) × (Nat -> Addr -> Heap -> Prop)))) : Prop := P1.1 v.1.1.1.1 v.1.1.1.2 v.1.1.2.1 v.1.1.2.2 v.1.2.1.1 v.1.2.1.2 v.1.2.2 v.2.1.1.1 v.2.1.1.2 v.2.1.2.1 v.2.1.2.2 v.2.2.1.1 v.2.2.1.2 v.2.2.2
noncomputable section
def tup1 := pk (by walk_at "ne") cx1
@[irreducible]def scope:=tup1.1.1.1.1
@[irreducible]def xv:=tup1.1.1.1.2
@[irreducible]def s₁:=tup1.1.1.2.1
@[irreducible]def s_2:=tup1.1.1.2.2
@[irreducible]def m:=tup1.1.2.1.1
@[irreducible]def news:=tup1.1.2.1.2
@[irreducible]def n:=tup1.1.2.2
@[irreducible]def P:=tup1.2.1.1.1
@[irreducible]def Inv:=tup1.2.1.1.2
@[irreducible]def I:=tup1.2.1.2.1
@[irreducible]def fp:=tup1.2.1.2.2
@[irreducible]def wr:=tup1.2.2.1.1
@[irreducible]def St:=tup1.2.2.1.2
@[irreducible]def Mid:=tup1.2.2.2
end
theorem main_1 : P1.1 scope xv s₁ s_2 m news n P Inv I fp wr St Mid := by
 intro hsw hclos hcell hkind hnames hx1 hx2 hne hh hy hp h hs h_1 I0 Il turn hQ W hst hfp hwr S
 have F := S.F
 have N := S.N
 have hz : h_0C.objs.size <= s_2.heap.objs.size := Nat.le_trans F.above (Nat.le_of_lt F.ns.lt)
 refine wpAny_newObj_type (wpAny_newFunctionEnv hcell (by intro y hy; simp at hy) (fun h_1 hns_1 hsb_1 => ?_) hkind)
 dsimp only at hns_1 hsb_1 ⊢
 have hnew : (s_2.heap.push { cls := .type "dict", dict := none, data := .dict #[] }).DictOf (PySem.strKind progC wC) s_2.heap.objs.size [] := Heap.DictOf.new s_2.heap
 generalize hH2 : s_2.heap.push { cls := .type "dict", dict := none, data := .dict #[] } = H2 at hns_1 hsb_1 hnew ⊢
 have hC : H2.objs.size = s_2.heap.objs.size + 1 := by rw [<- hH2, Heap.size_push]
 have hDC : s_2.heap.objs.size ≠ H2.objs.size := by rw [hC]; exact Nat.ne_of_lt (Nat.lt_succ_self _)
 have hCle : s_2.heap.objs.size <= H2.objs.size := by rw [hC]; exact Nat.le_succ _
 have below : ∀ b, b < s_2.heap.objs.size -> b ≠ H2.objs.size /\ b ≠ s_2.heap.objs.size := fun b hb => ⟨by rw [hC]; exact Nat.ne_of_lt (Nat.lt_succ_of_lt hb), Nat.ne_of_lt hb⟩
 have hDf : s_2.heap.objs.size ∉ fp := fun hm => Nat.lt_irrefl _ (hfp _ hm)
 have hCf : H2.objs.size ∉ fp := fun hm => by have := hfp _ hm; rw [hC] at this; exact Nat.lt_irrefl _ (Nat.lt_of_succ_lt this)
 have hDw : s_2.heap.objs.size ∉ wr := fun hm => hDf (W.sub _ hm)
 have hCw : H2.objs.size ∉ wr := fun hm => hCf (W.sub _ hm)
 have old : ∀ b o, s_2.heap.get? b = some o -> h_1.get? b = some o := fun b o e => hsb_1.extBut b o (below b (Heap.lt_size e)).1 (Heap.get?_push_of_some _ (hH2 ▸ Heap.get?_push_of_some _ e))
 have hacc : h_1.DictOf (PySem.strKind progC wC) s_2.heap.objs.size [] := hnew.at fun o e => hsb_1.extBut _ _ hDC (Heap.get?_push_of_some _ e)
 have hst_1 : St 0 h_1 := W.frame _ _ _ hst fun b _ o e => old b o e
 have frC : ∀ {h : Heap} {m_3}, h.Ns H2.objs.size m_3 -> (∀ b o, b ∉ wr -> s_2.heap.get? b = some o -> h.get? b = some o) -> Fr h_0C H2.objs.size h m_3 /\ News h_0C H2.objs.size h news := fun hns hk =>
   ⟨⟨hns, fun b o e => hk b o (fun q => by rw [(hwr b q).1] at e; cases e) (F.keep _ _ e), Nat.le_trans hz hCle⟩, fun q hq => ⟨hk _ _ (fun z => (hwr _ z).2.1 q hq rfl) (N q hq).1, (below _ (Heap.lt_size (N q hq).1)).1, (N q hq).2.2⟩⟩
 suffices loop : ∀ s_3 : Shared, s_3 = { s_2 with heap := h_1, toks := s_2.toks + ([] : List (Str × Value)).length } ->
     codeAny (model progC wC) AC (.compLoop (.DictComp kx vx [⟨.Tuple [.Name x1 p1, .Name x2 p2] tk0 tp, iter, [], 0⟩] scope pos) 0 (.ref I) (.ref s_2.heap.objs.size) (compEnvC scope cl H2.objs.size envC))
       (compPost (model progC wC) AC EC (some (assign (.Name y py) envC)) (fun _ s' => Q .next s') (.ref s_2.heap.objs.size) H2.objs.size) s_3 from codeAny_compStart_dict (loop _ rfl) (W.self 0 _ _ _ hst_1 (loop _ rfl))
 rintro s_3 rfl
 refine loop_tupD (fun k s' => ∀ Z : Prop, (∀ h' tk m' ys i, s' = { s_2 with heap := h', toks := tk } -> St i h' -> h'.DictOf (PySem.strKind progC wC) s_2.heap.objs.size ys -> h'.Ns H2.objs.size m' -> i <= n -> k = n + 1 - i -> Inv i ys -> (∀ b o, b ∉ wr -> s_2.heap.get? b = some o -> h'.get? b = some o) -> Z) -> Z) ?_ (n + 1) (fun Zq kq => kq h_1 _ _ [] 0 rfl hst_1 hacc hns_1 (Nat.zero_le _) rfl I0 (fun b o _ e => old b o e))
 intro k s' HIq
 refine HIq _ fun H tk m' ys i hcq5 hst' hacc' hn' hi hcq10 hInv hk => ?_
 subst hcq5
 subst hcq10
 rcases Nat.lt_or_eq_of_le hi with hlt | rfl
 · refine pair_next W hh rfl (lookup_relabel_local hx1) (lookup_relabel_local hx2) (by simp [compEnvC, relabel, hkind]) hCf hlt hst' hn' fun h_5 tk_5 t v hPv hst_5 hn_5 up_5 => ?_
   have k_5 : ∀ b o, b ∉ wr -> s_2.heap.get? b = some o -> h_5.get? b = some o := fun b o hb e => up_5 b o (below b (Heap.lt_size e)).1 hb (hk b o hb e)
   refine x0_2 (frC hn_5 k_5) fun FC NC => ?_
   refine wpAny_tests_nil ?_
   rw [if_pos rfl]
   refine wpAny_mono (turn H2.objs.size i v _ _ _ ys hlt hPv hInv FC NC ⟨t, by rw [if_neg hne, if_pos rfl]⟩ (by rw [if_pos rfl])) (fun kv s_4 h_4 => ?_) fun _ _ e => e
   revert h_4; intro hoq
   refine x2_3 hoq fun kk tkk hcz hoa h_4 => ?_
   clear hoq
   cases hcz
   refine x2_2 hoa fun h_4' tk_4 hcz9 hk_4 => ?_
   clear hoa
   cases hcz9
   have hacc_5 : h_5.DictOf (PySem.strKind progC wC) s_2.heap.objs.size ys := hacc'.at fun o e => up_5 _ o hDC hDw e
   refine wpAny_mono h_4 (fun vv s_5 h_5' => ?_) fun _ _ e => e
   refine x0_2 h_5' fun hoa hInv' => ?_
   clear h_5'
   refine x2_2 hoa fun h_6 tk_6 hcz9 hk_6 => ?_
   clear hoa
   cases hcz9
   have hys := Il i ys hInv
   have hsz := S.sz
   refine wpAny_dictSet_pairs (hsz := Nat.le_trans (Nat.le_trans hys (Nat.le_of_lt (Nat.lt_of_lt_of_le hlt hsz))) (by decide)) (strKind_is progC wC kk tkk) ((hacc_5.at fun o e => hk_4 _ o e).at fun o e => hk_6 _ o e) fun h_7 hl_7 hs_7 => ?_
   refine i1_2 (n + 1 - (i + 1)) (by omega) (fun Zq kq => kq h_7 _ _ (stored ys kk vv) (i + 1) rfl (W.frame _ _ _ hst_5 fun b hb o e => hs_7.extBut b o (fun z => hDf (z ▸ hb)) (hk_6 b o (hk_4 b o e))) hl_7 (((hn_5.keeps hk_4).keeps hk_6).sameBut hs_7 (Ne.symm hDC)) hlt rfl hInv' (fun b o hb e => ?_))
   exact hs_7.extBut b o (below b (Heap.lt_size e)).2 (hk_6 b o (hk_4 b o (k_5 b o hb e)))
 · refine W.done _ _ _ hst' fun h_8 tk_8 hk_8 => ?_
   have k_8 : ∀ b o, b ∉ wr -> s_2.heap.get? b = some o -> h_8.get? b = some o := fun b o hb e => hk_8 b o hb (hk b o hb e)
   have hL8 : h_8.Ns envC.locals m := F.ns.at' fun o e => k_8 _ o (fun z => (hwr _ z).2.2 rfl) e
   refine x1_2 (Heap.dictOf_iff.mp (hacc'.at fun o e => hk_8 _ o hDw e)) fun oD hoD hdD => ?_
   have hLC : envC.locals ≠ H2.objs.size := (below _ F.ns.lt).1
   have hLD : envC.locals ≠ s_2.heap.objs.size := (below _ F.ns.lt).2
   show wpAny _ AC (assign (.Name y py) envC (.ref s_2.heap.objs.size)) _ _ _
   refine wpAny_assign_Name (wpAny_storeName_local hy hL8 (fun h_10 hn_10 hs_10 => ?_) hp)
   refine i1_2 m' ((hn'.at' fun o e => hk_8 _ o hCw e).sameBut hs_10 (Ne.symm hLC)) (fun h_9 hs_9 => ?_)
   have k_9 : ∀ b o, b ∉ wr -> b ≠ envC.locals -> s_2.heap.get? b = some o -> h_9.get? b = some o := fun b o hb hL e => hs_9.extBut b o (below b (Heap.lt_size e)).1 (hs_10.extBut b o hL (k_8 b o hb e))
   refine hQ s_2.heap.objs.size h_9 _ ys oD ⟨hn_10.sameBut hs_9 hLC, fun b o e => k_9 b o (fun q => by rw [(hwr b q).1] at e; cases e) (fun q => absurd (Heap.lt_size e) (by rw [q]; exact Nat.not_lt.mpr F.above)) (F.keep _ _ e), F.above⟩ hdD (fun q hq => ?_) (fun q hq => (below _ (Heap.lt_size (N q hq).1)).2) hInv
   rcases List.mem_cons.mp hq with rfl | hq
   · exact i0_3 (hs_9.extBut _ _ hDC (hs_10.extBut _ _ (Ne.symm hLD) hoD)) (Ne.symm hLD) (Heap.get?_none_of_le hz)
   · exact ⟨k_9 _ _ (fun z => (hwr _ z).2.1 q hq rfl) (N q hq).2.1 (N q hq).1, (N q hq).2⟩
theorem main : Stm progC wC AC EC envC h_0C s kx vx iter x1 x2 y p1 p2 tp py tk0 cl pos spos Q := P1.2 ⟨fun a0 a1 a2 a3 a4 a5 a6 a7 a8 a9 a10 a11 a12 a13 => pk_all (p := cx1) (by with_unfolding_all exact main_1) ((((a0, a1), (a2, a3)), ((a4, a5), a6)), (((a7, a8), (a9, a10)), ((a11, a12), a13)))⟩
end asg_pairDH
theorem asg_pairDX {s kx vx iter x1 x2 y p1 p2 tp py tk0 cl pos spos Q} : asg_pairDH.Stm prog w A E env h₀ s kx vx iter x1 x2 y p1 p2 tp py tk0 cl pos spos Q := pk_all (p := asg_pairDH.cx) (by with_unfolding_all exact asg_pairDH.main) (((((prog, w), A), ((E, env), h₀)), (((s, kx), vx), (iter, x1))), ((((x2, y), p1), ((p2, tp), py)), (((tk0, cl), pos), (spos, Q))))
theorem asg_pairD {s : Shared} {kx vx iter : Expr} {x1 x2 y : Str} {p1 p2 tp py : Pos} {tk0 : Nat} {scope : Scope} {cl : List (Str × Addr)} {pos spos : Pos} {Q : Flow -> Shared -> Prop}
   (hsw : swapsWith (.DictComp kx vx [⟨.Tuple [.Name x1 p1, .Name x2 p2] tk0 tp, iter, [], 0⟩] scope pos) (some (.Name y py)) spos.line env = pure true)
   (hclos : closureFor scope env = pure cl) (hcell : ∀ z ∈ scope.names, z.2 ≠ .cell) (hkind : scope.kind = .function)
   (hnames : ∀ z ∈ scope.names, z.2 = .local -> scope.names.lookup z.1 = some .local) (hx1 : scope.names.lookup x1 = some .local) (hx2 : scope.names.lookup x2 = some .local) (hne : x1 ≠ x2) (hh : A.handled = none)
   (hy : env.kindOf y = some .local) (hp : (env.scope.kind == .class || (env.scope.kind == .module && env.locals != env.globals)) = false)
   (h : wpAny (model prog w) A (eval iter env) (fun xv s₁ => wpAny (model prog w) A (pyIter xv) (fun it s_2 => Stop (∃ m news n P, ∃ Inv : Nat -> List (Str × Value) -> Prop, SrcE prog w A h₀ env.locals m news n P it s_2 /\ Inv 0 [] /\ (∀ i ys, Inv i ys -> ys.length <= i) /\
     (∀ C i v s_3 m_3 E' ys, i < n -> P i v -> Inv i ys -> Fr h₀ C s_3.heap m_3 -> News h₀ C s_3.heap news -> (∃ t, m_3 x1 = some (.int i t)) -> m_3 x2 = some v ->
       wpAny (model prog w) A (eval kx (compEnvC scope cl C env)) (fun kv s_4 => ∃ k t, kv = .str k t /\ Keeps s_3 s_4 /\ wpAny (model prog w) A (eval vx (compEnvC scope cl C env)) (fun y s_5 => Keeps s_4 s_5 /\ Inv (i + 1) (stored ys k y)) E' s_4) E' s_3) /\
     ∀ (D : Nat) h' tk ys o, Fr h₀ env.locals h' (fun z => if z = y then some (.ref D) else m z) -> o.IsDictOf (PySem.strKind prog w) ys -> News h₀ env.locals h' ((D, o) :: news) -> (∀ q ∈ news, @Ne Nat q.1 D) -> Inv n ys -> Q .next { s_2 with heap := h', toks := tk })) E s₁) E s)
   (hs : ∀ x, foldedSetIterable iter env x = pure x := by intro _; rfl) :
   wpAny (model prog w) A (exec (.Assign [.Name y py] (.DictComp kx vx [⟨.Tuple [.Name x1 p1, .Name x2 p2] tk0 tp, iter, [], 0⟩] scope pos) spos) env) Q E s := asg_pairDX hsw hclos hcell hkind hnames hx1 hx2 hne hh hy hp h hs
theorem iter_enum_str {s : Shared} {L : Addr} {m : Str -> Option Value} {news : List (Addr × Obj)} {x : Str} {t : Tok} {Q : Value -> Shared -> Prop} (hh : A.handled = none) (F : Fr h₀ L s.heap m) (N : News h₀ L s.heap news) (hx : x.cps.all (· < 128) = true) (hz : x.cps.size <= 9000)
   (h : ∀ it h_2, SrcE prog w A h₀ L m news x.cps.size (SignAt x) it { s with heap := h_2 } -> Q it { s with heap := h_2 }) :
   wpAny (model prog w) A (call (.type "enumerate") [.str x t]) (fun xv s₁ => wpAny (model prog w) A (pyIter xv) Q E s₁) E s := by
 refine call_enumerate_str fun h' he hi hsz hk => ?_
 have hty : strIterType x = "str_ascii_iterator" := by unfold strIterType; rw [hx]; rfl
 rw [hty] at hi
 refine wpAny_pyIter_enum he (h _ _ ⟨⟨s.heap.objs.size + 1, _, _, _, _, rfl, WalksT.enumerateD (Draws.strAscii (A := A.in1) hh s.heap.objs.size x t) (s.heap.objs.size + 1) (Nat.succ_ne_self _) (fun q => ?_) (List.mem_singleton.mpr rfl), ⟨⟨_, he⟩, hi⟩, fun b hb => ?_, fun b hb => ?_⟩, hz, F.keeps hk, fun q hq => ⟨hk _ _ (N q hq).1, (N q hq).2⟩⟩)
 · exact Nat.succ_ne_self _ (List.mem_singleton.mp q)
 · show b < h'.objs.size
   rw [hsz]
   simp only [List.mem_cons, List.not_mem_nil, or_false] at hb
   rcases hb with rfl | rfl
   · exact Nat.lt_succ_self _
   · exact Nat.lt_succ_of_lt (Nat.lt_succ_self _)
 · have hge : s.heap.objs.size <= b := by
     simp only [List.mem_cons, List.not_mem_nil, or_false] at hb
     rcases hb with rfl | rfl
     · exact Nat.le_succ _
     · exact Nat.le_refl _
   exact i0_3 (Heap.get?_none_of_le (Nat.le_trans (Nat.le_trans F.above (Nat.le_of_lt F.ns.lt)) hge)) (fun q hq => Nat.ne_of_lt (Nat.lt_of_lt_of_le (Heap.lt_size (N q hq).1) hge)) (Nat.ne_of_lt (Nat.lt_of_lt_of_le F.ns.lt hge))
end
end Mine
end
section
namespace Mine
theorem typeCall_r2 (a b : Value) : checkTypeCall "range" ⟨[a, b], []⟩ = pure () := by kernel_rfl
theorem newCall_r2 (a b : Value) : checkBuiltinCall "range.__new__" ⟨[.type "range", a, b], []⟩ = pure () := by kernel_rfl
theorem initArgs_r2 (obj a b : Value) : argsOk "object.__init__" ⟨[obj, a, b], []⟩ := by unfold argsOk; kernel_rfl
noncomputable abbrev riObj (x left : Int) : Obj := { cls := .type "range_iterator", data := .fields #[rawInt x, rawInt left, rawInt 1] }
theorem rsize {a b : Int} : Builtin.Range.rangeSize a b 1 = ((b - a).toNat : Int) := by
 unfold Builtin.Range.rangeSize
 rw [if_pos (by decide)]
 by_cases h : a < b
 · rw [if_pos h]; lia
 · rw [if_neg h]; lia
theorem rsmall {a b : Int} (h0 : 0 <= a) (h1 : a <= 10000) (h2 : 0 <= b) (h3 : b <= 10000) : Builtin.Range.small a b 1 = true := by
 unfold Builtin.Range.small Builtin.Range.rangeFitsLong
 rw [rsize]
 simp only [Bool.and_eq_true, decide_eq_true_eq, Bool.or_eq_true, beq_iff_eq]
 refine ⟨⟨⟨⟨by lia, by lia⟩, by lia⟩, by lia⟩, .inr ?_⟩
 rw [if_pos (by decide)]
 simp only [Bool.and_eq_true, decide_eq_true_eq]
 first | lia | omega +splitDisjunctions
section
variable {prog : Program} {w : World} {A : Around} {E : Value -> Shared -> Prop} {s : Shared} {h₀ : Heap} {L : Addr} {m : Str -> Option Value} {news : List (Addr × Obj)} {Q : Value -> Shared -> Prop}
theorem range_iter2 {a b : Int} {t u : Tok} (F : Fr h₀ L s.heap m) (N : News h₀ L s.heap news) (h0 : 0 <= a) (h1 : a <= 10000) (h2 : 0 <= b) (h3 : b <= 10000)
   (h : ∀ (it : Nat) h' tk, Fr h₀ L h' m -> News h₀ L h' ((it, riObj a ((b - a).toNat : Int)) :: news) -> (∀ q ∈ news, @LT.lt Nat _ q.1 it) -> L < it -> it < h'.objs.size -> Q (.ref it) { s with heap := h', toks := tk }) :
   wpAny (model prog w) A (call (.type "range") [.int a t, .int b u]) (fun xv s₁ => wpAny (model prog w) A (pyIter xv) Q E s₁) E s := by
 refine callType_new PySem.F.called_range (by decide) (typeCall_r2 _ _) (newCall_r2 _ _) (fun obj => initArgs_r2 obj _ _) PySem.F.entry_range_new (AutoRange.range___new___type_int_int_0 a b t u (by rw [isSubtype_type]; kernel_rfl)) ?_
 refine ⟨⟨_, Heap.get?_push_size _ rfl, rfl⟩, ?_⟩
 refine wpAny_pyIter_range (Heap.get?_push_size _ rfl) (rsmall h0 h1 h2 h3) ?_
 rw [rsize]
 have F_2 := (F.push { cls := Value.type "range", data := Data.fields #[Value.int a t, Value.int b u, Value.int 1 s.toks] }).push (riObj a ((b - a).toNat : Int))
 have N_1 : News h₀ L (s.heap.push { cls := Value.type "range", data := Data.fields #[Value.int a t, Value.int b u, Value.int 1 s.toks] }) news := fun q hq => ⟨Heap.get?_push_of_some _ (N q hq).1, (N q hq).2⟩
 have F_1 := F.push { cls := Value.type "range", data := Data.fields #[Value.int a t, Value.int b u, Value.int 1 s.toks] }
 exact h _ _ _ F_2 (News.push F_1 N_1 (riObj a ((b - a).toNat : Int)) rfl) (fun q hq => Heap.lt_size (N_1 q hq).1) F_1.ns.lt (by show _ < ((s.heap.push _).push _).objs.size; simp only [Heap.size_push]; exact Nat.lt_succ_self _)
theorem range_iter1 {b : Int} {u : Tok} (F : Fr h₀ L s.heap m) (N : News h₀ L s.heap news) (h2 : 0 <= b) (h3 : b <= 10000)
   (h : ∀ (it : Nat) h' tk, Fr h₀ L h' m -> News h₀ L h' ((it, riObj 0 b) :: news) -> (∀ q ∈ news, @LT.lt Nat _ q.1 it) -> L < it -> it < h'.objs.size -> Q (.ref it) { s with heap := h', toks := tk }) :
   wpAny (model prog w) A (call (.type "range") [.int b u]) (fun xv s₁ => wpAny (model prog w) A (pyIter xv) Q E s₁) E s := by
 refine callType_new PySem.F.called_range (by decide) (PySem.F.typeCall_range_1 _) (PySem.F.newCall_range_1 _) (fun obj => PySem.F.initArgs_range_1 obj _) PySem.F.entry_range_new (AutoRange.range___new___type_int_0 b u (by rw [isSubtype_type]; kernel_rfl)) ?_
 refine ⟨⟨_, Heap.get?_push_size _ rfl, rfl⟩, ?_⟩
 refine wpAny_pyIter_range (Heap.get?_push_size _ rfl) (rsmall (Int.le_refl 0) (by decide) h2 h3) ?_
 rw [rsize, show ((b - 0).toNat : Int) = b by lia]
 have F_1 := F.push { cls := Value.type "range", data := Data.fields #[Value.int 0 s.toks, Value.int b u, Value.int 1 (s.toks + 1)] }
 have F_2 := F_1.push (riObj 0 b)
 have N_1 : News h₀ L (s.heap.push { cls := Value.type "range", data := Data.fields #[Value.int 0 s.toks, Value.int b u, Value.int 1 (s.toks + 1)] }) news := fun q hq => ⟨Heap.get?_push_of_some _ (N q hq).1, (N q hq).2⟩
 exact h _ _ _ F_2 (News.push F_1 N_1 (riObj 0 b) rfl) (fun q hq => Heap.lt_size (N_1 q hq).1) F_1.ns.lt (by show _ < ((s.heap.push _).push _).objs.size; simp only [Heap.size_push]; exact Nat.lt_succ_self _)
theorem src_range {a : Int} {n : Nat} {it : Nat} (hh : A.handled = none) (F : Fr h₀ L s.heap m) (N : News h₀ L s.heap ((it, riObj a n) :: news)) (lt : ∀ q ∈ news, @LT.lt Nat _ q.1 it) (hL : L < it) (hz : it < s.heap.objs.size) (hn : n <= 9000) :
   Src prog w A h₀ L m news n (fun i v => ∃ t, v = .int (a + i * 1) t) (.ref it) s := by
 have z := N _ List.mem_cons_self
 refine ⟨⟨it, [it], _, rfl, Walks.range hh it a 1 n, ?_, fun b hb => ?_, z.2.2, fun q hq => Nat.ne_of_lt (lt q hq), Nat.ne_of_lt hL⟩, Nat.le_trans hn (by decide), F, fun q hq => N q (List.mem_cons_of_mem _ hq)⟩
 · have e : riObj a n = { cls := .type "range_iterator", dict := none, data := .fields #[rawInt (a + ((0 : Nat) : Int) * 1), rawInt ((n : Int) - ((0 : Nat) : Int)), rawInt 1], slots := #[] } := by simp [riObj]
   show s.heap.get? it = _
   rw [z.1, e]
 · rw [List.mem_singleton.mp hb]; exact hz
end
end Mine
end
section
namespace Mine
section
variable {prog : Program} {w : World} {A : Around} {E : Value -> Shared -> Prop} {env : Env} {h₀ : Heap}
theorem evl_compK {s : Shared} {elt iter : Expr} {x : Str} {px : Pos} {ifs : List Expr} {scope : Scope} {cl : List (Str × Addr)} {pos : Pos} {Q : Value -> Shared -> Prop}
   (hclos : closureFor scope env = pure cl) (hcell : ∀ z ∈ scope.names, z.2 ≠ .cell) (hkind : scope.kind = .function)
   (hnames : ∀ z ∈ scope.names, z.2 = .local -> scope.names.lookup z.1 = some .local) (hx : scope.names.lookup x = some .local) (p : Value -> Bool) (G : Value -> Value -> Prop)
   (h : wpAny (model prog w) A (eval iter env) (fun xv s₁ => wpAny (model prog w) A (pyIter xv) (fun it s_2 => Stop (∃ m news n P, ∃ s_0 : Shared, Src prog w A h₀ env.locals m news n P it s_2 /\ (∀ I, it = .ref I -> s_0.heap.get? I = none) /\ (∀ b o, s_0.heap.get? b = some o -> s_2.heap.get? b = some o) /\ CTurn prog w A env scope cl x ifs elt h₀ news P p G /\
     ∀ (D : Nat) h' tk ys nD (vs : List Value), Fr h₀ env.locals h' m -> News h₀ env.locals h' ((D, PySem.W.listOf ys nD) :: news) -> (∀ q ∈ news, @Ne Nat q.1 D) -> vs.length = n -> (∀ j v, vs[j]? = some v -> P j v) -> Paired G (vs.filter p) ys.toList -> (∀ b o, s_0.heap.get? b = some o -> h'.get? b = some o) -> Q (.ref D) { s_2 with heap := h', toks := tk })) E s₁) E s)
   (hs : ∀ x, foldedSetIterable iter env x = pure x := by intro _; rfl) :
   wpAny (model prog w) A (eval (.ListComp elt [⟨.Name x px, iter, ifs, 0⟩] scope pos) env) Q E s := by
 refine wpAny_ListComp_free p G hclos hcell hkind hnames hx (wpAny_mono h (fun xv s₁ h_1 => wpAny_mono h_1 (fun it s_2 h_2 => ?_) fun _ _ e => e) fun _ _ e => e) hs
 refine x5_5 (h_2) fun m news n P s_0 S fr_0 k_0 X hQ => ?_
 try clear h_2
 refine x3_7 (S.ex) fun I fp St hcz3 W hst hfp hI hnI hL => ?_
 cases hcz3
 have i_0 := fr_0 I rfl
 refine ⟨I, fp, [I], n, P, St, rfl, W, S.sz, hst, hfp, X.quiet S.F S.N hI hnI, ?_⟩
 rintro D h' tk ys vs hD hl ⟨nD, hpl⟩ hlen hP hF hk
 refine x0_2 (news_new S.F S.N hI hnI hD hpl fun b o _ hb e => hk b o hb e) fun N' ne => ?_
 refine hQ D h' tk ys nD vs ⟨S.F.ns.at' fun o e => hk _ o (fun z => hL (List.mem_singleton.mp z)) e, fun b o e => hk b o (fun z => ?_) (S.F.keep _ _ e), S.F.above⟩ N' ne hlen hP hF fun b o e => hk b o (fun z => by rw [List.mem_singleton.mp z, i_0] at e; cases e) (k_0 b o e)
 rw [List.mem_singleton.mp z, hI] at e; cases e
theorem evl_compCK {s : Shared} {elt iter : Expr} {x : Str} {px : Pos} {ifs : List Expr} {scope : Scope} {cl : List (Str × Addr)} {pos : Pos} {Q : Value -> Shared -> Prop}
   (hclos : closureFor scope env = pure cl) (hkind : scope.kind = .function)
   (hnames : ∀ z ∈ scope.names, z.2 = .local -> scope.names.lookup z.1 = some .local) (hx : (relabel scope env).names.lookup x = some .cell)
   (hpc : ∀ h, pushCells h scope.names = h.push { cls := .type "cell", data := .cell none }) (hcs : ∀ k, cellsFrom k scope.names cl = (x, k) :: cl) (p : Value -> Bool) (G : Value -> Value -> Prop)
   (h : wpAny (model prog w) A (eval iter env) (fun xv s₁ => wpAny (model prog w) A (pyIter xv) (fun it s_2 => Stop (∃ m news n P, ∃ s_0 : Shared, Src prog w A h₀ env.locals m news n P it s_2 /\ (∀ I, it = .ref I -> s_0.heap.get? I = none) /\ (∀ b o, s_0.heap.get? b = some o -> s_2.heap.get? b = some o) /\ CTurnC prog w A env scope cl x ifs elt h₀ news P p G /\
     ∀ (D : Nat) h' tk ys nD (vs : List Value), Fr h₀ env.locals h' m -> News h₀ env.locals h' ((D, PySem.W.listOf ys nD) :: news) -> (∀ q ∈ news, @Ne Nat q.1 D) -> vs.length = n -> (∀ j v, vs[j]? = some v -> P j v) -> Paired G (vs.filter p) ys.toList -> (∀ b o, s_0.heap.get? b = some o -> h'.get? b = some o) -> Q (.ref D) { s_2 with heap := h', toks := tk })) E s₁) E s)
   (hs : ∀ x, foldedSetIterable iter env x = pure x := by intro _; rfl) :
   wpAny (model prog w) A (eval (.ListComp elt [⟨.Name x px, iter, ifs, 0⟩] scope pos) env) Q E s := by
 rw [eval_ListComp]
 refine wpAny_comprehension_free (use := none) rfl hs hclos hkind hnames (wpAny_mono h (fun xv s₁ h_1 => wpAny_mono h_1 (fun it s_2 h_2 => ?_) fun _ _ e => e) fun _ _ e => e)
 refine x5_5 (h_2) fun m news n P s_0 S fr_0 k_0 X hQ => ?_
 try clear h_2
 refine x3_7 (S.ex) fun I fp St hcz3 W hst hfp hI hnI hL => ?_
 cases hcz3
 have i_0 := fr_0 I rfl
 refine comp_blockC (RR := fun acc C => compPost (model prog w) A E none Q acc C) W S.sz p G hkind hx hpc hcs hst hfp hI hnI S.F S.N X ?_
 rintro D C h' tk m' ys vs hD hC hDC hn hl ⟨nD, hpl⟩ hlen hP hF hk
 refine i1_2 m' hn (fun h'' hs'' => ?_)
 have k_2 : ∀ b o, b ∉ [I] -> s_2.heap.get? b = some o -> h''.get? b = some o := fun b o hb e => hs''.extBut b o (fun z => by rw [z, hC] at e; cases e) (hk b o hb e)
 refine x0_2 (news_new S.F S.N hI hnI hD (hs''.extBut D _ hDC hpl) fun b o _ hb e => k_2 b o hb e) fun N' ne => ?_
 refine hQ D h'' tk ys nD vs ⟨S.F.ns.at' fun o e => k_2 _ o (fun z => hL (List.mem_singleton.mp z)) e, fun b o e => k_2 b o (fun z => ?_) (S.F.keep _ _ e), S.F.above⟩ N' ne hlen hP hF fun b o e => k_2 b o (fun z => by rw [List.mem_singleton.mp z, i_0] at e; cases e) (k_0 b o e)
 rw [List.mem_singleton.mp z, hI] at e; cases e
theorem iter_listK {s : Shared} {L : Addr} {m : Str -> Option Value} {news : List (Addr × Obj)} {G : Addr} {items : Array Value} {Q : Value -> Shared -> Prop} (hh : A.handled = none) (F : Fr h₀ L s.heap m) (N : News h₀ L s.heap news) (hl : s.heap.IsList G items) (hz : items.size <= sizeLine)
   (h : ∀ it h_2, Src prog w A h₀ L m news items.size (fun i v => items[i]? = some v) it { s with heap := h_2 } -> (∀ I, it = .ref I -> s.heap.get? I = none) -> (∀ b o, s.heap.get? b = some o -> h_2.get? b = some o) -> Q it { s with heap := h_2 }) : wpAny (model prog w) A (pyIter (.ref G)) Q E s := by
 refine x0_5 (src_push (s := s) (o := { cls := .type "list_iterator", data := .fields #[.ref G, .int 0 0] }) F N) fun F_2 N_2 a b c => ?_
 obtain ⟨og, hg, _⟩ := id hl
 have hlt : G < s.heap.objs.size := Heap.lt_size hg
 refine wpAny_pyIter_list hl (h _ _ ⟨⟨s.heap.objs.size, [s.heap.objs.size, G], _, rfl, Walks.list hh _ G (Nat.ne_of_lt hlt) items, ⟨⟨_, Heap.get?_push_size _ rfl, rfl, rfl⟩, hl.at fun o e => Heap.get?_push_of_some _ e⟩, fun x hx => ?_, a, b, c⟩, hz, F_2, N_2⟩ (fun I e => by cases e; exact Heap.get?_none_of_le (Nat.le_refl _)) fun b o e => Heap.get?_push_of_some _ e)
 rw [Heap.size_push]
 rcases List.mem_cons.mp hx with rfl | hx
 · exact Nat.lt_succ_self _
 · rw [List.mem_singleton.mp hx]; exact Nat.lt_succ_of_lt hlt
theorem range_iter1K {s : Shared} {L : Addr} {m : Str -> Option Value} {news : List (Addr × Obj)} {Q : Value -> Shared -> Prop} {b : Int} {u : Tok} (F : Fr h₀ L s.heap m) (N : News h₀ L s.heap news) (h2 : 0 <= b) (h3 : b <= 10000)
   (h : ∀ (it : Nat) h' tk, Fr h₀ L h' m -> News h₀ L h' ((it, riObj 0 b) :: news) -> (∀ q ∈ news, @LT.lt Nat _ q.1 it) -> L < it -> it < h'.objs.size -> s.heap.get? it = none -> (∀ b o, s.heap.get? b = some o -> h'.get? b = some o) -> Q (.ref it) { s with heap := h', toks := tk }) :
   wpAny (model prog w) A (call (.type "range") [.int b u]) (fun xv s₁ => wpAny (model prog w) A (pyIter xv) Q E s₁) E s := by
 refine callType_new PySem.F.called_range (by decide) (PySem.F.typeCall_range_1 _) (PySem.F.newCall_range_1 _) (fun obj => PySem.F.initArgs_range_1 obj _) PySem.F.entry_range_new (AutoRange.range___new___type_int_0 b u (by rw [isSubtype_type]; kernel_rfl)) ?_
 refine ⟨⟨_, Heap.get?_push_size _ rfl, rfl⟩, ?_⟩
 refine wpAny_pyIter_range (Heap.get?_push_size _ rfl) (rsmall (Int.le_refl 0) (by decide) h2 h3) ?_
 rw [rsize, show ((b - 0).toNat : Int) = b by omega]
 have F_1 := F.push { cls := Value.type "range", data := Data.fields #[Value.int 0 s.toks, Value.int b u, Value.int 1 (s.toks + 1)] }
 have F_2 := F_1.push (riObj 0 b)
 have N_1 : News h₀ L (s.heap.push { cls := Value.type "range", data := Data.fields #[Value.int 0 s.toks, Value.int b u, Value.int 1 (s.toks + 1)] }) news := fun q hq => ⟨Heap.get?_push_of_some _ (N q hq).1, (N q hq).2⟩
 exact h _ _ _ F_2 (News.push F_1 N_1 (riObj 0 b) rfl) (fun q hq => Heap.lt_size (N_1 q hq).1) F_1.ns.lt (by show _ < ((s.heap.push _).push _).objs.size; simp only [Heap.size_push]; exact Nat.lt_succ_self _) (Heap.get?_none_of_le (by simp only [Heap.size_push]; exact Nat.le_succ _)) fun b o e => Heap.get?_push_of_some _ (Heap.get?_push_of_some _ e)
end
end Mine
end
section
namespace Mine
section
variable {prog : Program} {w : World} {A : Around} {E : Value -> Shared -> Prop} {env : Env} {h₀ : Heap}
namespace evl_newH
noncomputable def Stm (progC : Program) (wC : World) (AC : Around) (EC : Value -> Shared -> Prop) (envC : Env) (h_0C : Heap) (s : Shared) (elt iter : Expr) (x : Str) (px : Pos) (cl : List (Str × Addr)) (pos : Pos) (Q : Value -> Shared -> Prop) : Prop := ∀ {scope : Scope} (hclos : closureFor scope envC = pure cl) (hcell : ∀ z ∈ scope.names, z.2 ≠ .cell) (hkind : scope.kind = .function) (hnames : ∀ z ∈ scope.names, z.2 = .local -> scope.names.lookup z.1 = some .local) (hx : scope.names.lookup x = some .local) (hh : AC.handled = none) (h : wpAny (model progC wC) AC (eval iter envC) (fun xv s₁ => wpAny (model progC wC) AC (pyIter xv) (fun it s_2 => Stop (∃ (I : Nat) (m : Str -> Option Value) (news : List (Addr × Obj)) (n : Nat) (a : Int), ∃ Inv : Nat -> List Value -> List (Addr × Obj) -> Prop, it = .ref I /\ n <= 9000 /\ Fr h_0C envC.locals s_2.heap m /\ News h_0C envC.locals s_2.heap ((I, riObj a n) :: news) /\ (∀ q ∈ news, @LT.lt Nat _ q.1 I) /\ envC.locals < I /\ I < s_2.heap.objs.size /\ Inv 0 [] [] /\ (∀ i ys md, Inv i ys md -> ys.length <= i) /\
     (∀ C i t s_3 m_3 E' ys md news', i < n -> Inv i ys md -> Fr h_0C C s_3.heap m_3 -> News h_0C C s_3.heap news' -> (∀ q ∈ news, q ∈ news') -> m_3 x = some (.int (a + (i : Int)) t) ->
       wpAny (model progC wC) AC (eval elt (compEnvC scope cl C envC)) (fun y s_4 => Keeps s_3 s_4 /\ ∃ more, (∀ q ∈ more, s_4.heap.get? q.1 = some q.2 /\ h_0C.get? q.1 = none /\ q.1 ≠ C /\ ∀ r ∈ news', r.1 ≠ q.1) /\ Inv (i + 1) (ys ++ [y]) (md ++ more)) E' s_3) /\
     ∀ (D : Nat) h' tk ys nD md, Fr h_0C envC.locals h' m -> News h_0C envC.locals h' ((D, PySem.W.listOf ys.toArray nD) :: (md ++ news)) -> (∀ q ∈ md ++ news, @Ne Nat q.1 D) -> (∀ q ∈ md, ∀ r ∈ news, r.1 ≠ q.1) -> Inv n ys md -> Q (.ref D) { s_2 with heap := h', toks := tk })) EC s₁) EC s) (hs : ∀ x, foldedSetIterable iter envC x = pure x), wpAny (model progC wC) AC (eval (.ListComp elt [⟨.Name x px, iter, [], 0⟩] scope pos) envC) Q EC s
noncomputable def cx (v : (((Program × World) × (Around × (Value -> Shared -> Prop))) × ((Env × Heap) × Shared)) × (((Expr × Expr) × (Str × Pos)) × (((List (Str × Addr)) × Pos) × (Value -> Shared -> Prop)))) : Prop := Stm v.1.1.1.1 v.1.1.1.2 v.1.1.2.1 v.1.1.2.2 v.1.2.1.1 v.1.2.1.2 v.1.2.2 v.2.1.1.1 v.2.1.1.2 v.2.1.2.1 v.2.1.2.2 v.2.2.1.1 v.2.2.1.2 v.2.2.2
noncomputable section
def tup := pk (by walk_at "ne") cx
@[irreducible]def progC:=tup.1.1.1.1
@[irreducible]def wC:=tup.1.1.1.2
@[irreducible]def AC:=tup.1.1.2.1
@[irreducible]def EC:=tup.1.1.2.2
@[irreducible]def envC:=tup.1.2.1.1
@[irreducible]def h_0C:=tup.1.2.1.2
@[irreducible]def s:=tup.1.2.2
@[irreducible]def elt:=tup.2.1.1.1
@[irreducible]def iter:=tup.2.1.1.2
@[irreducible]def x:=tup.2.1.2.1
@[irreducible]def px:=tup.2.1.2.2
@[irreducible]def cl:=tup.2.2.1.1
@[irreducible]def pos:=tup.2.2.1.2
@[irreducible]def Q:=tup.2.2.2
end
noncomputable def P1 : {PQ : Scope -> Value -> Shared -> Shared -> Nat -> (Str -> Option Value) -> (List (Addr × Obj)) -> Nat -> Int -> (Nat -> List Value -> List (Addr × Obj) -> Prop) -> Prop // Hold (∀ a0 a1 a2 a3 a4 a5 a6 a7 a8 a9, PQ a0 a1 a2 a3 a4 a5 a6 a7 a8 a9) -> Stm progC wC AC EC envC h_0C s elt iter x px cl pos Q} := ⟨_, by
 intro hPk
 intro scope hclos hcell hkind hnames hx hh h hs
 rw [eval_ListComp]
 refine wpAny_comprehension_free (use := none) rfl hs hclos hkind hnames (wpAny_mono h (fun xv s₁ h_1 => wpAny_mono h_1 (fun it s_2 h_2 => ?_) fun _ _ e => e) fun _ _ e => e)
 obtain ⟨I, m, news, n, a, Inv, (rfl), hn9, F, NI, ltI, hLI, hIz, I0, Il, turn, hQ⟩ := h_2
 repeat (rename (_ : Prop) => hZ; revert hZ)
 intro hPk
 exact hPk.out scope xv s₁ s_2 I m news n a Inv
 ⟩
noncomputable def cx1 (v : (((Scope × Value) × Shared) × (Shared × Nat)) × ((((Str -> Option Value) × (List (Addr × Obj))) × Nat) × (Int × (Nat -> List Value -> List (Addr × Obj) -> Prop)))) : Prop := P1.1 v.1.1.1.1 v.1.1.1.2 v.1.1.2 v.1.2.1 v.1.2.2 v.2.1.1.1 v.2.1.1.2 v.2.1.2 v.2.2.1 v.2.2.2
noncomputable section
def tup1 := pk (by walk_at "ne") cx1
@[irreducible]def scope:=tup1.1.1.1.1
@[irreducible]def xv:=tup1.1.1.1.2
@[irreducible]def s₁:=tup1.1.1.2
@[irreducible]def s_2:=tup1.1.2.1
@[irreducible]def I:=tup1.1.2.2
@[irreducible]def m:=tup1.2.1.1.1
@[irreducible]def news:=tup1.2.1.1.2
@[irreducible]def n:=tup1.2.1.2
@[irreducible]def a:=tup1.2.2.1
@[irreducible]def Inv:=tup1.2.2.2
end
theorem main_1 : P1.1 scope xv s₁ s_2 I m news n a Inv := by
 intro hclos hcell hkind hnames hx hh h hs h_1 hn9 F NI ltI hLI hIz I0 Il turn hQ
 have N : News h_0C envC.locals s_2.heap news := fun q hq => NI q (List.mem_cons_of_mem _ hq)
 have zI := NI _ List.mem_cons_self
 have hz : h_0C.objs.size <= s_2.heap.objs.size := Nat.le_trans F.above (Nat.le_of_lt F.ns.lt)
 refine wpAny_newObj_type (wpAny_newFunctionEnv hcell (by intro y hy; simp at hy) (fun h_1 hns_1 hsb_1 => ?_) hkind)
 dsimp only at hns_1 hsb_1 ⊢
 generalize hH2 : s_2.heap.push { cls := .type "list", dict := none, data := .seq ([] : List Value).toArray } = H2 at hns_1 hsb_1 ⊢
 have hC : H2.objs.size = s_2.heap.objs.size + 1 := by rw [<- hH2, Heap.size_push]
 have hDC : s_2.heap.objs.size ≠ H2.objs.size := by rw [hC]; exact Nat.ne_of_lt (Nat.lt_succ_self _)
 have hCle : s_2.heap.objs.size <= H2.objs.size := by rw [hC]; exact Nat.le_succ _
 have below : ∀ b, b < s_2.heap.objs.size -> b ≠ H2.objs.size /\ b ≠ s_2.heap.objs.size := fun b hb => ⟨by rw [hC]; exact Nat.ne_of_lt (Nat.lt_succ_of_lt hb), Nat.ne_of_lt hb⟩
 have hDI : s_2.heap.objs.size ≠ I := Nat.ne_of_gt hIz
 have hCI : H2.objs.size ≠ I := by rw [hC]; exact Nat.ne_of_gt (Nat.lt_succ_of_lt hIz)
 have old : ∀ b o, s_2.heap.get? b = some o -> h_1.get? b = some o := fun b o e => hsb_1.extBut b o (below b (Heap.lt_size e)).1 (Heap.get?_push_of_some _ (hH2 ▸ Heap.get?_push_of_some _ e))
 have hacc : h_1.PlainList s_2.heap.objs.size #[] := ⟨_, hsb_1.extBut _ _ hDC (Heap.get?_push_of_some _ (hH2 ▸ Heap.get?_push_size _ rfl))⟩
 have nwr : ∀ q ∈ news, q.1 ≠ I := fun q hq => Nat.ne_of_lt (ltI q hq)
 suffices loop : ∀ s_3 : Shared, s_3 = { s_2 with heap := h_1, toks := s_2.toks + ([] : List (Str × Value)).length } ->
     codeAny (model progC wC) AC (.compLoop (.ListComp elt [⟨.Name x px, iter, [], 0⟩] scope pos) 0 (.ref I) (.ref s_2.heap.objs.size) (compEnvC scope cl H2.objs.size envC))
       (compPost (model progC wC) AC EC none Q (.ref s_2.heap.objs.size) H2.objs.size) s_3 from codeAny_compStart_list (loop _ rfl) (wpAny_pyIter_rangeiter (it := I) (show IsRangeIter h_1 I a n 1 from old _ _ zI.1) (loop _ rfl))
 rintro s_3 rfl
 refine loop_tupL (fun k s' => ∀ Z : Prop, (∀ h' tk m' ys i md, s' = { s_2 with heap := h', toks := tk } -> h'.get? I = some (riObj (a + (i : Nat)) ((n : Int) - (i : Nat))) -> h'.PlainList s_2.heap.objs.size (List.toArray ys) -> h'.Ns H2.objs.size m' -> i <= n -> k = n + 1 - i -> Inv i ys md -> (∀ q ∈ md, h'.get? q.1 = some q.2 /\ h_0C.get? q.1 = none /\ q.1 ≠ H2.objs.size /\ q.1 ≠ s_2.heap.objs.size /\ q.1 ≠ I /\ q.1 ≠ envC.locals /\ ∀ r ∈ news, r.1 ≠ q.1) -> (∀ b o, b ≠ I -> s_2.heap.get? b = some o -> h'.get? b = some o) -> Z) -> Z) ?_ (n + 1) (fun Zq kq => kq h_1 _ _ [] 0 [] rfl ?_ hacc hns_1 (Nat.zero_le _) rfl I0 (fun q hq => (nomatch hq)) (fun b o _ e => old b o e))
 case refine_2 => simpa using old _ _ zI.1
 intro k s' HIq
 refine HIq _ fun H tk m' ys i md hcq6 hst' hacc' hn' hi hcq11 hInv hmd hk => ?_
 subst hcq6
 subst hcq11
 rcases Nat.lt_or_eq_of_le hi with hlt | rfl
 · refine wpAny_pyNext_range_item (it := I) hst' (by omega) fun h_2 hit_2 hs_2 => ?_
   refine wpAny_of_eq (rfl : letOwnedTupleGo (.Name _ _) _ _ = pure ()) ?_
   refine wpAny_assign_Name (wpAny_storeName_local (lookup_relabel_local hx) (hn'.sameBut hs_2 hCI) (fun h_3 hn_3 hs_3 => ?_) (by simp [compEnvC, relabel, hkind]))
   have up : ∀ b o, b ≠ I -> b ≠ H2.objs.size -> H.get? b = some o -> h_3.get? b = some o := fun b o h1 h2 e => hs_3.extBut b o h2 (hs_2.extBut b o h1 e)
   have k_3 : ∀ b o, b ≠ I -> s_2.heap.get? b = some o -> h_3.get? b = some o := fun b o hb e => up b o hb (below b (Heap.lt_size e)).1 (hk b o hb e)
   have hI_3 : h_3.get? I = some (riObj (a + (i : Nat) + 1) ((n : Int) - (i : Nat) - 1)) := hs_3.extBut _ _ (Ne.symm hCI) hit_2
   refine x1_1 (hacc') fun nA hA => ?_
   try clear hacc'
   have hA_3 := up _ _ hDI hDC hA
   have FC : Fr h_0C H2.objs.size h_3 _ := ⟨hn_3, fun b o e => k_3 b o (fun q => by rw [q, zI.2.2] at e; cases e) (F.keep _ _ e), Nat.le_trans hz hCle⟩
   have zD : h_0C.get? s_2.heap.objs.size = none := Heap.get?_none_of_le hz
   obtain ⟨oL, _, _, hoL, _⟩ := id F.ns
   have hLz := Heap.lt_size hoL
   have NC : News h_0C H2.objs.size h_3 ((I, riObj (a + (i : Nat) + 1) ((n : Int) - (i : Nat) - 1)) :: (s_2.heap.objs.size, PySem.W.listOf (List.toArray ys) nA) :: (envC.locals, oL) :: (md ++ news)) := fun q hq => by
     rcases List.mem_cons.mp hq with rfl | hq
     · exact i0_3 hI_3 (Ne.symm hCI) zI.2.2
     rcases List.mem_cons.mp hq with rfl | hq
     · exact i0_3 hA_3 hDC zD
     rcases List.mem_cons.mp hq with rfl | hq
     · exact i0_3 (k_3 _ _ (Nat.ne_of_lt hLI) hoL) ((below _ hLz).1) (Heap.get?_none_of_le F.above)
     rcases List.mem_append.mp hq with hq | hq
     · refine x0_7 (hmd q hq) fun z1 z2 z3 z4 z5 z6 z7 => ?_
       exact i0_3 (up _ _ z5 z3 z1) z3 z2
     · exact i0_3 (k_3 _ _ (nwr q hq) (N q hq).1) ((below _ (Heap.lt_size (N q hq).1)).1) ((N q hq).2.2)
   refine (?_ : wpAny _ _ (forIn ([] : List Expr) true _) _ _ _)
   rw [List.forIn_nil]
   refine wpAny_pure ?_
   rw [if_pos rfl]
   refine wpAny_mono (turn H2.objs.size i _ _ _ _ ys md _ hlt hInv FC NC (fun q hq => List.mem_cons_of_mem _ (List.mem_cons_of_mem _ (List.mem_cons_of_mem _ (List.mem_append_right _ hq)))) (by rw [if_pos rfl])) (fun y s_4 h_4 => ?_) fun _ _ e => e
   obtain ⟨⟨h_4', tk_4, (rfl), hk_4⟩, more, hmore, hInv'⟩ := h_4
   have hys := Il i ys md hInv
   refine wpAny_list_append_plain (hsz := by rw [List.size_toArray]; exact Nat.le_trans (Nat.le_trans hys (Nat.le_of_lt (Nat.lt_of_lt_of_le hlt hn9))) (by decide)) ⟨nA, hk_4 _ _ hA_3⟩ fun h_5 li_5 hs_5 => ?_
   have k_5 : ∀ b o, b ≠ s_2.heap.objs.size -> h_3.get? b = some o -> h_5.get? b = some o := fun b o hb e => hs_5.extBut b o hb (hk_4 b o e)
   refine i1_2 (n + 1 - (i + 1)) (by omega) (fun Zq kq => kq h_5 _ _ (ys ++ [y]) (i + 1) (md ++ more) rfl ?_ (by rw [List.push_toArray] at li_5; exact li_5) ((hn_3.keeps hk_4).sameBut hs_5 (Ne.symm hDC)) hlt rfl hInv' (fun q hq => ?_) (fun b o hb e => k_5 b o (below b (Heap.lt_size e)).2 (k_3 b o hb e)))
   · rw [k_5 _ _ (Ne.symm hDI) hI_3]
     congr 2 <;> push_cast <;> omega
   · rcases List.mem_append.mp hq with hq | hq
     · refine x0_7 (hmd q hq) fun z1 z2 z3 z4 z5 z6 z7 => ?_
       exact i0_7 (k_5 _ _ z4 (up _ _ z5 z3 z1)) z2 z3 z4 z5 z6 z7
     · refine x0_4 (hmore q hq) fun z1 z2 z3 z4 => ?_
       have y1 := z4 _ List.mem_cons_self
       have y2 := z4 _ (List.mem_cons_of_mem _ List.mem_cons_self)
       have y3 := z4 _ (List.mem_cons_of_mem _ (List.mem_cons_of_mem _ List.mem_cons_self))
       exact i0_7 (hs_5.extBut _ _ (Ne.symm y2) z1) z2 z3 (Ne.symm y2) (Ne.symm y1) (Ne.symm y3) (fun r hr => z4 r (List.mem_cons_of_mem _ (List.mem_cons_of_mem _ (List.mem_cons_of_mem _ (List.mem_append_right _ hr)))))
 · refine wpAny_pyNext_range_end (it := I) hh hst' (by omega) fun h_8 hk_8 => ?_
   refine x1_1 (hacc') fun nD hpl => ?_
   try clear hacc'
   refine i1_2 m' (hn'.at' fun o e => hk_8 _ o hCI e) (fun h_9 hs_9 => ?_)
   have k_9 : ∀ b o, b ≠ I -> s_2.heap.get? b = some o -> h_9.get? b = some o := fun b o hb e => hs_9.extBut b o (below b (Heap.lt_size e)).1 (hk_8 b o hb (hk b o hb e))
   have oD : h_9.get? s_2.heap.objs.size = some (PySem.W.listOf (List.toArray ys) nD) := hs_9.extBut _ _ hDC (hk_8 _ _ hDI hpl)
   refine hQ s_2.heap.objs.size h_9 tk ys nD md ⟨F.ns.at' fun o e => k_9 _ o (Nat.ne_of_lt hLI) e, fun b o e => k_9 b o (fun q => by rw [q, zI.2.2] at e; cases e) (F.keep _ _ e), F.above⟩ (fun q hq => ?_) (fun q hq => ?_) (fun q hq r hr => (hmd q hq).2.2.2.2.2.2 r hr) hInv
   · rcases List.mem_cons.mp hq with rfl | hq
     · exact i0_3 oD (Ne.symm (below _ F.ns.lt).2) (Heap.get?_none_of_le hz)
     rcases List.mem_append.mp hq with hq | hq
     · refine x0_7 (hmd q hq) fun z1 z2 z3 z4 z5 z6 z7 => ?_
       exact i0_3 (hs_9.extBut _ _ z3 (hk_8 _ _ z5 z1)) z6 z2
     · exact ⟨k_9 _ _ (nwr q hq) (N q hq).1, (N q hq).2⟩
   · rcases List.mem_append.mp hq with hq | hq
     · exact (hmd q hq).2.2.2.1
     · exact (below _ (Heap.lt_size (N q hq).1)).2
theorem main : Stm progC wC AC EC envC h_0C s elt iter x px cl pos Q := P1.2 ⟨fun a0 a1 a2 a3 a4 a5 a6 a7 a8 a9 => pk_all (p := cx1) (by with_unfolding_all exact main_1) ((((a0, a1), a2), (a3, a4)), (((a5, a6), a7), (a8, a9)))⟩
end evl_newH
theorem evl_newX {s elt iter x px cl pos Q} : evl_newH.Stm prog w A E env h₀ s elt iter x px cl pos Q := pk_all (p := evl_newH.cx) (by with_unfolding_all exact evl_newH.main) ((((prog, w), (A, E)), ((env, h₀), s)), (((elt, iter), (x, px)), ((cl, pos), Q)))
theorem evl_new {s : Shared} {elt iter : Expr} {x : Str} {px : Pos} {scope : Scope} {cl : List (Str × Addr)} {pos : Pos} {Q : Value -> Shared -> Prop}
   (hclos : closureFor scope env = pure cl) (hcell : ∀ z ∈ scope.names, z.2 ≠ .cell) (hkind : scope.kind = .function)
   (hnames : ∀ z ∈ scope.names, z.2 = .local -> scope.names.lookup z.1 = some .local) (hx : scope.names.lookup x = some .local) (hh : A.handled = none)
   (h : wpAny (model prog w) A (eval iter env) (fun xv s₁ => wpAny (model prog w) A (pyIter xv) (fun it s_2 => Stop (∃ (I : Nat) (m : Str -> Option Value) (news : List (Addr × Obj)) (n : Nat) (a : Int), ∃ Inv : Nat -> List Value -> List (Addr × Obj) -> Prop, it = .ref I /\ n <= 9000 /\ Fr h₀ env.locals s_2.heap m /\ News h₀ env.locals s_2.heap ((I, riObj a n) :: news) /\ (∀ q ∈ news, @LT.lt Nat _ q.1 I) /\ env.locals < I /\ I < s_2.heap.objs.size /\ Inv 0 [] [] /\ (∀ i ys md, Inv i ys md -> ys.length <= i) /\
     (∀ C i t s_3 m_3 E' ys md news', i < n -> Inv i ys md -> Fr h₀ C s_3.heap m_3 -> News h₀ C s_3.heap news' -> (∀ q ∈ news, q ∈ news') -> m_3 x = some (.int (a + (i : Int)) t) ->
       wpAny (model prog w) A (eval elt (compEnvC scope cl C env)) (fun y s_4 => Keeps s_3 s_4 /\ ∃ more, (∀ q ∈ more, s_4.heap.get? q.1 = some q.2 /\ h₀.get? q.1 = none /\ q.1 ≠ C /\ ∀ r ∈ news', r.1 ≠ q.1) /\ Inv (i + 1) (ys ++ [y]) (md ++ more)) E' s_3) /\
     ∀ (D : Nat) h' tk ys nD md, Fr h₀ env.locals h' m -> News h₀ env.locals h' ((D, PySem.W.listOf ys.toArray nD) :: (md ++ news)) -> (∀ q ∈ md ++ news, @Ne Nat q.1 D) -> (∀ q ∈ md, ∀ r ∈ news, r.1 ≠ q.1) -> Inv n ys md -> Q (.ref D) { s_2 with heap := h', toks := tk })) E s₁) E s)
   (hs : ∀ x, foldedSetIterable iter env x = pure x := by intro _; rfl) :
   wpAny (model prog w) A (eval (.ListComp elt [⟨.Name x px, iter, [], 0⟩] scope pos) env) Q E s := evl_newX hclos hcell hkind hnames hx hh h hs
end
end Mine
end
section
namespace Mine
noncomputable def stP : Option (List Nat) -> List Nat -> List Nat
 | none, [] => []
 | some mid, [] => mid
 | none, c :: r => if c = 34 then stP (some [34]) r else c :: stP none r
 | some mid, c :: r => if c = 34 then stP none r else stP (some (mid ++ [c])) r
noncomputable def SI (l : List Nat) (i st : Nat) (op : Option Nat) (J : List Nat) : Prop := match op with
 | none => st <= i /\ J ++ (l.drop st).take (i - st) ++ stP none (l.drop i) = stP none l
 | some o => st <= o /\ o < i /\ J ++ (l.drop st).take (o - st) ++ stP (some ((l.drop o).take (i - o))) (l.drop i) = stP none l
theorem SI.zero (l : List Nat) : SI l 0 0 none [] := ⟨Nat.le_refl _, by simp⟩
theorem drop_cons {l : List Nat} {i c : Nat} (hc : l[i]? = some c) : l.drop i = c :: l.drop (i + 1) := by
 obtain ⟨h1, h2⟩ := List.getElem?_eq_some_iff.mp hc
 rw [<- h2]; exact List.drop_eq_getElem_cons h1
theorem take_more {l : List Nat} {st i c : Nat} (hc : l[i]? = some c) (h : st <= i) : (l.drop st).take (i + 1 - st) = (l.drop st).take (i - st) ++ [c] := by
 rw [show i + 1 - st = (i - st) + 1 by omega, List.take_add_one, List.getElem?_drop, show st + (i - st) = i by omega, hc]
 rfl
theorem SI.open {l : List Nat} {i st : Nat} {J : List Nat} (h : SI l i st none J) (hc : l[i]? = some 34) : SI l (i + 1) st (some i) J := by
 obtain ⟨h1, h2⟩ := h
 refine ⟨h1, Nat.lt_succ_self _, ?_⟩
 rw [drop_cons hc, stP, if_pos rfl] at h2
 rw [take_more hc (Nat.le_refl _), Nat.sub_self, List.take_zero, List.nil_append]
 exact h2
theorem SI.close {l : List Nat} {i st o : Nat} {J : List Nat} (h : SI l i st (some o) J) (hc : l[i]? = some 34) : SI l (i + 1) (i + 1) none (J ++ (l.drop st).take (o - st)) := by
 obtain ⟨h0, h1, h2⟩ := h
 refine ⟨Nat.le_refl _, ?_⟩
 rw [drop_cons hc, stP, if_pos rfl] at h2
 rw [Nat.sub_self, List.take_zero, List.append_nil]
 exact h2
theorem SI.same {l : List Nat} {i st c : Nat} {op : Option Nat} {J : List Nat} (h : SI l i st op J) (hc : l[i]? = some c) (hne : c ≠ 34) : SI l (i + 1) st op J := by
 cases op with
 | none =>
   obtain ⟨h1, h2⟩ := h
   refine ⟨Nat.le_succ_of_le h1, ?_⟩
   rw [drop_cons hc, stP, if_neg hne] at h2
   rw [take_more hc h1, <- h2]
   simp
 | some o =>
   obtain ⟨h0, h1, h2⟩ := h
   refine ⟨h0, Nat.lt_succ_of_lt h1, ?_⟩
   rw [drop_cons hc, stP, if_neg hne] at h2
   rw [take_more hc (Nat.le_of_lt h1), <- h2]
theorem SI.done {l : List Nat} {st : Nat} {op : Option Nat} {J : List Nat} (h : SI l l.length st op J) : J ++ l.drop st = stP none l := by
 cases op with
 | none =>
   obtain ⟨h1, h2⟩ := h
   rw [List.drop_length, stP, List.append_nil] at h2
   rw [<- h2, List.take_of_length_le (by simp)]
 | some o =>
   obtain ⟨h0, h1, h2⟩ := h
   rw [List.drop_length, stP, List.take_of_length_le (l := l.drop o) (by simp)] at h2
   rw [<- h2, List.append_assoc]
   congr 1
   conv => lhs; rw [<- List.take_append_drop (o - st) (l.drop st)]
   rw [List.drop_drop, show st + (o - st) = o by omega]
theorem stP_none_of (l : List Nat) (h : 34 ∉ l) : stP none l = l := by
 induction l with
 | nil => rfl
 | cons c r ih =>
   rw [stP, if_neg (fun z => h (by rw [z]; exact List.mem_cons_self)), ih (fun z => h (List.mem_cons_of_mem _ z))]
theorem stP_mem : ∀ (l : List Nat) (o : Option (List Nat)) (c : Nat), c ∈ stP o l -> c ∈ l \/ ∃ mid, o = some mid /\ c ∈ mid := by
 intro l
 induction l with
 | nil => intro o c h; cases o with
   | none => cases h
   | some mid => exact .inr ⟨mid, rfl, h⟩
 | cons a r ih =>
   intro o c h
   cases o with
   | none =>
     rw [stP] at h
     by_cases ha : a = 34
     · rw [if_pos ha] at h
       rcases ih _ _ h with h | ⟨mid, e, h⟩
       · exact .inl (List.mem_cons_of_mem _ h)
       · cases e; rw [List.mem_singleton.mp h, <- ha]; exact .inl List.mem_cons_self
     · rw [if_neg ha] at h
       rcases List.mem_cons.mp h with rfl | h
       · exact .inl List.mem_cons_self
       · rcases ih _ _ h with h | ⟨mid, e, h⟩
         · exact .inl (List.mem_cons_of_mem _ h)
         · cases e
   | some m' =>
     rw [stP] at h
     by_cases ha : a = 34
     · rw [if_pos ha] at h
       rcases ih _ _ h with h | ⟨mid, e, h⟩
       · exact .inl (List.mem_cons_of_mem _ h)
       · cases e
     · rw [if_neg ha] at h
       rcases ih _ _ h with h | ⟨mid, e, h⟩
       · exact .inl (List.mem_cons_of_mem _ h)
       · cases e
         rcases List.mem_append.mp h with h | h
         · exact .inr ⟨m', rfl, h⟩
         · rw [List.mem_singleton.mp h]; exact .inl List.mem_cons_self
theorem stP_len : ∀ (l : List Nat) (o : Option (List Nat)), (stP o l).length <= l.length + (o.getD []).length := by
 intro l
 induction l with
 | nil => intro o; cases o <;> simp [stP]
 | cons a r ih =>
   intro o
   cases o with
   | none =>
     rw [stP]
     split
     · have := ih (some [34]); simp at this ⊢; omega
     · have := ih none; simp at this ⊢; omega
   | some m' =>
     rw [stP]
     split
     · have := ih none; simp at this ⊢; omega
     · have := ih (some (m' ++ [a])); simp at this ⊢; omega
noncomputable def Good (x : Str) : Prop := (∀ c ∈ x.cps.toList, c < 128 /\ c ≠ 92) /\ x.length <= 1000
noncomputable def stripP (x : Str) : Str := ⟨(stP none x.cps.toList).toArray⟩
theorem Good.strip {x : Str} (h : Good x) : Good (stripP x) := by
 refine ⟨fun c hc => ?_, ?_⟩
 · rcases stP_mem _ none c (by simpa [stripP] using hc) with h' | ⟨_, e, _⟩
   · exact h.1 c h'
   · cases e
 · have := stP_len x.cps.toList none
   have h2 := h.2
   show (stP none x.cps.toList).toArray.size <= 1000
   have e : x.length = x.cps.toList.length := by simp [Str.length]
   simp at this e ⊢
   omega
theorem slice_ss {x : Str} {i j : Nat} (h1 : i <= j) (h2 : j <= x.length) : (Txt.slice x (some (i : Int)) (some (j : Int))).cps.toList = (x.cps.toList.drop i).take (j - i) := by
 have := beq_iff_eq.mp (slice_closesL (x := x) (i := i) (j := j) (by omega) (by omega) (by omega))
 rw [this]
 rw [show ((i : Int)).toNat = i from rfl, show (((j : Int) - (i : Int))).toNat = j - i by omega]
theorem slice_s {x : Str} {i : Nat} (h1 : i <= x.length) : (Txt.slice x (some (i : Int)) none).cps.toList = x.cps.toList.drop i := by
 have := slice_from_eq (x := x) (i := i) (b := x.length) (by omega) (by omega) rfl
 rw [this]
 rw [show ((i : Int)).toNat = i from rfl, List.take_of_length_le]
 have e : x.length = x.cps.toList.length := by simp [Str.length]
 simp at e ⊢; omega
theorem join_empty : ∀ ys : List Str, Txt.join (Str.ofString "") ys = ⟨(ys.flatMap (·.cps.toList)).toArray⟩ := by
 have e0 : Str.ofString "" = ⟨#[]⟩ := by decide +kernel
 intro ys
 show Builtin.Str.glued _ ys = _
 rw [StrLaws.glued_eq_join, e0]
 induction ys with
 | nil => rfl
 | cons x r ih =>
   cases r with
   | nil => show x = _; simp
   | cons y r =>
     show (x ++ (⟨#[]⟩ : Str) ++ Str.join ⟨#[]⟩ (y :: r)) = _
     rw [ih]
     show (⟨x.cps ++ #[] ++ _⟩ : Str) = _
     simp
theorem sum_lens : ∀ ys : List Str, (ys.map (·.length)).sum = (ys.flatMap (·.cps.toList)).length
 | [] => rfl
 | y :: r => by
   rw [List.map_cons, List.sum_cons, List.flatMap_cons, List.length_append, sum_lens r]
   rfl
theorem joinOk_empty {ys : List Str} (h : (ys.flatMap (·.cps.toList)).length <= 16777216) : JoinOk (Str.ofString "") ys = true := by
 apply joinOk_of
 rw [sum_lens, show (Str.ofString "").length = 0 by decide +kernel]
 omega
end Mine
end
section
namespace Mine
theorem one_eq (c d : Nat) {y : Str} (h : y = ⟨#[d]⟩) : ((⟨#[c]⟩ : Str) == y) = decide (c = d) := by
 subst h
 by_cases e : c = d
 · subst e; simp
 · rw [decide_eq_false e, beq_eq_false_iff_ne]
   intro z; apply e
   have := congrArg (fun y : Str => y.cps.toList) z
   simpa using this
noncomputable def opV : Option Nat -> Tok -> Value
 | none, _ => .none
 | some o, t => .int (Nat.cast o) t
noncomputable abbrev lstJ (lst : List (Str × Tok)) : List Nat := (lst.map (·.1)).flatMap (·.cps.toList)
theorem strValues_snoc (lst : List (Str × Tok)) (y : Str) (u : Tok) : ((strValues lst).toArray).push (.str y u) = (strValues (lst ++ [(y, u)])).toArray := by simp [strValues]
theorem lstJ_snoc (lst : List (Str × Tok)) (y : Str) (u : Tok) : lstJ (lst ++ [(y, u)]) = lstJ lst ++ y.cps.toList := by simp [lstJ]
theorem strip_len {x : Str} (hx : Good x) : (stP none x.cps.toList).length <= 1000 := by simpa [stripP, Str.length] using hx.strip.2
structure StripI (s : Shared) (x : Str) (t : Tok) (D : Addr) (i : Nat) (m : Str -> Option Value) (s' : Shared) (st : Nat) (op : Option Nat) (lst : List (Str × Tok)) (ts to' : Tok) : Prop where
 si : SI x.cps.toList i st op (lstJ lst)
 st : m "start" = some (.int (Nat.cast st) ts)
 op : m "open_pos" = some (opV op to')
 re : m "result" = some (.ref D)
 ad : m "addr" = some (.str x t)
 li : PlainL s'.heap D (strValues lst).toArray
 len : lst.length <= i
 kp : Kp s s'
section
namespace c_stripH
noncomputable def Stm (pC : Program) (looseC : List Str) (mgC mbC : Str -> Option Value) (w : World) (s : Shared) (x : Str) (t : Tok) (R : Result -> Shared -> Prop) : Prop := ∀  (T : TopRead pC looseC mgC mbC s.heap) (X : (Mine.mk.heap_1 w.params).In s.heap) (hx : Good x) (hR : ∀ s' t', Kp s s' -> R (.ok (.ret (.str (stripP x) t'))) s'), codeAny (model Challenge.rw_kl0462_01.prog w) (AL 1) (.call (.ref 59) ⟨[.str x t], []⟩) R s
noncomputable def cx (v : (((Program × (List Str)) × (Str -> Option Value)) × ((Str -> Option Value) × World)) × ((Shared × Str) × (Tok × (Result -> Shared -> Prop)))) : Prop := Stm v.1.1.1.1 v.1.1.1.2 v.1.1.2 v.1.2.1 v.1.2.2 v.2.1.1 v.2.1.2 v.2.2.1 v.2.2.2
noncomputable def tup := pk (by walk_at "ne") cx
noncomputable section
@[irreducible]def pC:=tup.1.1.1.1
@[irreducible]def looseC:=tup.1.1.1.2
@[irreducible]def mgC:=tup.1.1.2
@[irreducible]def mbC:=tup.1.2.1
@[irreducible]def w:=tup.1.2.2
@[irreducible]def s:=tup.2.1.1
@[irreducible]def x:=tup.2.1.2
@[irreducible]def t:=tup.2.2.1
@[irreducible]def R:=tup.2.2.2
end
noncomputable def P1 : {PQ : Addr -> Heap -> Nat -> Nat -> Heap -> Nat -> Heap -> Nat -> Nat -> Heap -> Prop // Hold (∀ a0 a1 a2 a3 a4 a5 a6 a7 a8 a9, PQ a0 a1 a2 a3 a4 a5 a6 a7 a8 a9) -> Stm pC looseC mgC mbC w s x t R} := ⟨_, by
 intro hPk
 intro T X hx hR
 have kS1 : Key "call ref" := trivial
 have kS2 : Key "exec For" := trivial
 have kS3 : Key "exec Expr" := trivial
 revert X
 k_fill
 intro X
 have hl : x.length <= 1000 := hx.2
 have e34 : (Str.ofString "\"") = ⟨#[34]⟩ := by decide +kernel
 refine callF X T.nolimit (by k_is) (by k_is) (by decide) (binds := [("addr", .str x t)]) (BindsTo.of_eq rfl) (locs rfl) ?_
 intro L h_1 F eL
 k_steps
 · rename (_ : Bool) = true => hq
   have h34 : (34 : Nat) ∉ x.cps.toList := by
     have := StrLaws.found_one x 34
     rw [e34] at hq
     rw [hq] at this
     simpa using this
   have hs : stripP x = x := by
     show (⟨(stP none x.cps.toList).toArray⟩ : Str) = x
     rw [stP_none_of _ h34]
   exact hs ▸ hR _ _ (Kp.of F.keep)
 · rename Fr s.heap L _ _ => F_3
   refine wpAny_newList ?_
   rename Heap => h_2
   generalize hD : h_2.objs.size = D
   have F_4 : Fr s.heap L (h_2.push { cls := .type "list", data := .seq #[] }) _ := F_3.push _
   refine wpAny_storeName_local rfl F_4.ns (fun h_3 hn_3 hs_3 => ?_) rfl
   rename_i zi1 zi2 zi3 zi4 zi5 zi6
   repeat (rename (_ : Prop) => hZ; revert hZ)
   intro hPk
   apply hPk.out L h_1 zi1 zi3 zi4 zi6 h_2 tk D h_3
 ⟩
noncomputable def cx1 (v : (((Addr × Heap) × Nat) × (Nat × Heap)) × (((Nat × Heap) × Nat) × (Nat × Heap))) : Prop := P1.1 v.1.1.1.1 v.1.1.1.2 v.1.1.2 v.1.2.1 v.1.2.2 v.2.1.1.1 v.2.1.1.2 v.2.1.2 v.2.2.1 v.2.2.2
noncomputable section
def tup1 := Mine.pk (by walk_at "ne") cx1
@[irreducible]def L:=tup1.1.1.1.1
@[irreducible]def h_1:=tup1.1.1.1.2
@[irreducible]def zi1:=tup1.1.1.2
@[irreducible]def zi3:=tup1.1.2.1
@[irreducible]def zi4:=tup1.1.2.2
@[irreducible]def zi6:=tup1.2.1.1.1
@[irreducible]def h_2:=tup1.2.1.1.2
@[irreducible]def tk:=tup1.2.1.2
@[irreducible]def D:=tup1.2.2.1
@[irreducible]def h_3:=tup1.2.2.2
end
noncomputable def P2 : {PQ : Nat -> Nat -> Nat -> Shared -> Nat -> Shared -> Shared -> (Str -> Option Value) -> Tok -> Tok -> Nat -> (List (Str × Tok)) -> Tok -> Tok -> (Flow -> Shared -> Prop) -> Prop // Hold (∀ a0 a1 a2 a3 a4 a5 a6 a7 a8 a9 a10 a11 a12 a13 a14, PQ a0 a1 a2 a3 a4 a5 a6 a7 a8 a9 a10 a11 a12 a13 a14) -> P1.1 L h_1 zi1 zi3 zi4 zi6 h_2 tk D h_3} := ⟨_, by
   intro hPk
   intro T hx hR kS1 kS2 kS3 X hl e34 F eL _ _ F_3 hD F_4 hn_3 hs_3
   have hLD : L < D := hD ▸ F_3.ns.lt
   have li_3 : PlainL h_3 D (strValues []).toArray := ⟨_, _, hs_3.extBut _ _ (Nat.ne_of_gt hLD) (hD ▸ Heap.get?_push_size _ rfl), rfl, rfl, rfl⟩
   have F_5 : Fr s.heap L h_3 _ := F_4.set hn_3 hs_3
   refine wpAny_execs_cons (wpAny_For ?_)
   k_steps
   refine wpAny_call (gen_call (A' := AL 0) (mu := [L, D]) (T.keeps F_5.keep) (Frag.In.keeps X F_5.keep) hx.1 ?_ rfl ?_ ?_)
   · exact Nat.lt_of_le_of_lt (Nat.le_of_ble_eq_true rfl : _ <= 800) (by decide)
   · intro b hb
     have hg := T.g.lt
     have hbl := T.b.lt
     rcases List.mem_cons.mp hb with rfl | hb
     · rw [eL]
       exact i0_3 (eL ▸ F_5.ns.lt) (Nat.ne_of_gt hg) (Nat.ne_of_gt hbl)
     · rw [List.mem_singleton.mp hb]
       exact i0_3 li_3.lt (Nat.ne_of_gt (Nat.lt_trans (eL ▸ hg) hLD)) (Nat.ne_of_gt (Nat.lt_trans (eL ▸ hbl) hLD))
   intro a g C s_3 hC hCa G k_3 o_3 b_3
   dsimp only
   have hcl : cStatics < L := by
     rw [eL]; obtain ⟨mc, hns, _⟩ := T.nolimit; exact hns.lt
   have hDC : D < C := Nat.lt_of_lt_of_le li_3.lt hC
   have hLC : L < C := Nat.lt_trans hLD hDC
   have old : ∀ b o, s.heap.get? b = some o -> b ≠ C /\ b ≠ L /\ b <= a /\ b ≠ D := fun b o q => by
     have h1 : b < L := eL ▸ Heap.lt_size q
     exact i0_4 (Nat.ne_of_lt (Nat.lt_trans h1 hLC)) (Nat.ne_of_lt h1) (Nat.le_of_lt (Nat.lt_trans h1 (Nat.lt_trans hLC hCa))) (Nat.ne_of_lt (Nat.lt_trans h1 hLD))
   have K_0 : Kp s s_3 := ⟨fun b o q => k_3 b o (F_5.keep b o q), o_3, b_3⟩
   refine forGen (env := envOf "_strip_quoted_realnames" _ L 59 (.ref 58)) (fun i m s' => ∃ st op lst ts to', StripI s x t D i m s' st op lst ts to') ?_ ?_ ?_ ?_ ?_ ?_ ?_ ?_ hCa ?_ ?_ ?_ ?_ ?_ (F_5.ns.keeps k_3) G ?_
   · rfl
   · exact Nat.le_of_ble_eq_true rfl
   · exact Nat.le_of_ble_eq_true rfl
   · rfl
   · rfl
   · rfl
   · exact List.mem_cons_self
   · exact hLC
   · intro b hb
     rcases List.mem_cons.mp hb with rfl | hb
     · exact hLC
     · rw [List.mem_singleton.mp hb]; exact hDC
   · exact hcl
   · intro z
     rcases List.mem_cons.mp z with z | z
     · exact Nat.ne_of_lt hcl z
     · exact Nat.ne_of_lt (Nat.lt_trans hcl hLD) (List.mem_singleton.mp z)
   · intro i s_4 s_5 m c ti u hi hc hoq hn TT
     refine x5_1 hoq fun st op lst ts to' I => ?_
     clear hoq
     refine cutQ ?_
     intro Q HQ
     rename_i zi1 zi2
     repeat (rename (_ : Prop) => hZ; revert hZ)
     intro hPk
     revert c op
     apply hPk.out a g C s_3 i s_4 s_5 m ti u st lst ts to' Q
   · intro s_4 s_5 m hoq hn TT
     refine x5_1 hoq fun st op lst ts to' I => ?_
     clear hoq
     have K_5 : Kp s s_5 := ⟨fun b o q => TT.keep b o (old b o q).1 (old b o q).2.1 (old b o q).2.2.1 (I.kp.keep b o q), TT.os.trans I.kp.os, fun B => TT.bare (I.kp.bare B)⟩
     have li_5 : PlainL s_5.heap D (strValues lst).toArray := let ⟨o, n, e, r⟩ := I.li; ⟨o, n, TT.keep D o (Nat.ne_of_lt hDC) (Nat.ne_of_gt hLD) (Nat.le_of_lt (Nat.lt_trans hDC hCa)) e, r⟩
     have F_6 : Fr s.heap L s_5.heap m := ⟨hn, K_5.keep, F.above⟩
     have F_7 := fr_know (x := "addr") (v := .str x t) (fr_know (x := "result") (v := .ref D) (fr_know F_6 I.st) I.re) I.ad
     clear F F_3 F_4 F_5 F_6
     dsimp only
     k_steps
     · have hlt : st < x.length := by
         omega
       refine wpAny_Expr (wpAny_Call_append rfl rfl rfl rfl (wpAny_Name (wpAny_loadName_local rfl rfl hn I.re ⟨D, _, rfl, li_5, ?_⟩)))
       refine Subscript_Slice (wpAny_Name (wpAny_loadName_local rfl rfl hn I.ad (wpAny_Slice (evalPart_some_step (wpAny_Name (wpAny_loadName_local rfl rfl hn I.st (evalPart_none_step (evalPart_none_step ?_))))))))
       refine SBH.sliceItem_sn (P := fun h' => ∀ b o, s_5.heap.get? b = some o -> h'.get? b = some o) (fun h ob k b o q => Heap.get?_push_of_some _ (k b o q)) (fun b o q => q) (fun h_6 t_6 k_6 up_6 => ?_) (Nat.le_trans hl (by decide))
       refine list_append_plainL (li_5.keeps up_6) (fun h_7 li_7 hs_7 => ?_) (by
         show (strValues lst).toArray.size <= sizeLine
         have h10 : (strValues lst).toArray.size = lst.length := by simp [strValues]
         rw [h10]; exact Nat.le_trans I.len (Nat.le_trans hl (by decide)))
       refine wpAny_execs_nil ?_
       have hn_7 : h_7.Ns L m := (hn.keeps up_6).sameBut hs_7 (Nat.ne_of_lt hLD)
       rw [strValues_snoc] at li_7
       have k_7 : ∀ b o, s.heap.get? b = some o -> h_7.get? b = some o := fun b o q => hs_7.extBut b o (old b o q).2.2.2 (up_6 b o (K_5.keep b o q))
       have F_8 : Fr s.heap L h_7 m := ⟨hn_7, k_7, F_7.above⟩
       have F_9 := fr_know F_8 I.re
       clear F_7 F_8
       have hJ : lstJ (lst ++ [(Txt.slice x (some (Nat.cast st)) none, t_6)]) = stP none x.cps.toList := by
         rw [lstJ_snoc, slice_s (Nat.le_of_lt hlt)]
         exact SI.done (by have e : x.cps.toList.length = x.cps.size := by simp
                           rw [e]; exact I.si)
       k_steps
       refine SC.join li_7.isList rfl (joinOk_empty ?_) fun t' k => ?_
       · show (lstJ _).length <= _
         rw [hJ]; exact Nat.le_trans (strip_len hx) (by decide)
       · rw [join_empty]
         show R (.ok (.ret (.str ⟨(lstJ _).toArray⟩ t'))) _
         rw [hJ]
         exact hR _ _ ⟨k_7, K_5.os, K_5.bare⟩
     · have hge : x.length <= st := by
         omega
       have hJ : lstJ lst = stP none x.cps.toList := by
         have := SI.done (l := x.cps.toList) (by have e : x.cps.toList.length = x.cps.size := by simp
                                                 rw [e]; exact I.si)
         rwa [List.drop_of_length_le (by simpa [Str.length] using hge), List.append_nil] at this
       refine SC.join li_5.isList rfl (joinOk_empty ?_) fun t' k => ?_
       · show (lstJ _).length <= _
         rw [hJ]; exact Nat.le_trans (strip_len hx) (by decide)
       · rw [join_empty]
         show R (.ok (.ret (.str ⟨(lstJ _).toArray⟩ t'))) _
         rw [hJ]
         exact hR _ _ ⟨K_5.keep, K_5.os, K_5.bare⟩
   · exact i5_1 0 none [] _ 0 ⟨SI.zero _, rfl, rfl, rfl, rfl, li_3.keeps k_3, Nat.le_refl _, K_0⟩
 ⟩
noncomputable def cx2 (v : (((Nat × Nat) × (Nat × Shared)) × ((Nat × Shared) × (Shared × (Str -> Option Value)))) × (((Tok × Tok) × (Nat × (List (Str × Tok)))) × ((Tok × Tok) × (Flow -> Shared -> Prop)))) : Prop := P2.1 v.1.1.1.1 v.1.1.1.2 v.1.1.2.1 v.1.1.2.2 v.1.2.1.1 v.1.2.1.2 v.1.2.2.1 v.1.2.2.2 v.2.1.1.1 v.2.1.1.2 v.2.1.2.1 v.2.1.2.2 v.2.2.1.1 v.2.2.1.2 v.2.2.2
noncomputable section
def tup2 := Mine.pk (by walk_at "ne") cx2
@[irreducible]def a:=tup2.1.1.1.1
@[irreducible]def g:=tup2.1.1.1.2
@[irreducible]def C:=tup2.1.1.2.1
@[irreducible]def s_3:=tup2.1.1.2.2
@[irreducible]def i:=tup2.1.2.1.1
@[irreducible]def s_4:=tup2.1.2.1.2
@[irreducible]def s_5:=tup2.1.2.2.1
@[irreducible]def m:=tup2.1.2.2.2
@[irreducible]def ti:=tup2.2.1.1.1
@[irreducible]def u:=tup2.2.1.1.2
@[irreducible]def st:=tup2.2.1.2.1
@[irreducible]def lst:=tup2.2.1.2.2
@[irreducible]def ts:=tup2.2.2.1.1
@[irreducible]def to':=tup2.2.2.1.2
@[irreducible]def Q:=tup2.2.2.2
end
theorem main_2 : P2.1 a g C s_3 i s_4 s_5 m ti u st lst ts to' Q := by
     intro c op T hx hR kS1 kS2 kS3 X hl e34 F eL _ _ F_3 hD F_4 hn_3 hs_3 hLD li_3 F_5 hC hCa G k_3 o_3 b_3 hcl hDC hLC old K_0 hi hc hn TT I HQ
     have K_5 : Kp s s_5 := ⟨fun b o q => TT.keep b o (old b o q).1 (old b o q).2.1 (old b o q).2.2.1 (I.kp.keep b o q), TT.os.trans I.kp.os, fun B => TT.bare (I.kp.bare B)⟩
     have li_5 : PlainL s_5.heap D (strValues lst).toArray := let ⟨o, n, e, r⟩ := I.li; ⟨o, n, TT.keep D o (Nat.ne_of_lt hDC) (Nat.ne_of_gt hLD) (Nat.le_of_lt (Nat.lt_trans hDC hCa)) e, r⟩
     have e1 : (pcm m i ti c u) "start" = some (.int (Nat.cast st) ts) := I.st
     have e2 : (pcm m i ti c u) "open_pos" = some (opV op to') := I.op
     have e3 : (pcm m i ti c u) "result" = some (.ref D) := I.re
     have e4 : (pcm m i ti c u) "addr" = some (.str x t) := I.ad
     have e5 : (pcm m i ti c u) "ch" = some (.str ⟨#[c]⟩ u) := rfl
     have e6 : (pcm m i ti c u) "pos" = some (.int (Nat.cast i) ti) := rfl
     generalize pcm m i ti c u = m_5 at hn e1 e2 e3 e4 e5 e6
     have hcl' : x.cps.toList[i]? = some c := by rw [Array.getElem?_toList]; exact hc
     have hsi := I.si
     have hlen := I.len
     clear I
     have setK : ∀ (h' : Heap) (tk : Nat), (∀ b o, b ∉ [L, D] -> s_5.heap.get? b = some o -> h'.get? b = some o) -> Kp s { s_5 with heap := h', toks := tk } := fun h' tk k => ⟨fun b o q => k b o (fun z => by
       rcases List.mem_cons.mp z with z | z
       · exact (old b o q).2.1 z
       · exact (old b o q).2.2.2 (List.mem_singleton.mp z)) (K_5.keep b o q), K_5.os, K_5.bare⟩
     have setP : ∀ {h h' : Heap} {its}, PlainL h D its -> Heap.SameBut L h h' -> PlainL h' D its := fun pC hs => pC.extBut hs.extBut (Nat.ne_of_gt hLD)
     have nm : ∀ {b}, b ∉ [L, D] -> b ≠ L := fun hb z => hb (z ▸ List.mem_cons_self)
     have nd : ∀ {b}, b ∉ [L, D] -> b ≠ D := fun hb z => hb (List.mem_cons_of_mem _ (List.mem_singleton.mpr z))
     refine wpAny_execs_cons (wpAny_If (wpAny_isTrue_Compare1 (wpAny_Name (wpAny_loadName_local rfl rfl hn e5 (wpAny_Constant_str (PyProof.Rows.eq_str (wpAny_truthy_bool ?_)))))))
     rw [one_eq c 34 e34]
     by_cases h1 : c = 34
     · subst h1
       rw [if_pos (by decide)]
       cases op with
       | none =>
         refine wpAny_execs_cons (wpAny_If (wpAny_isTrue_Compare1 (wpAny_Name (wpAny_loadName_local rfl rfl hn e2 (wpAny_Constant_none (wpAny_is_self rfl (wpAny_truthy_bool ?_)))))))
         rw [if_pos rfl]
         refine wpAny_execs_cons (wpAny_Assign_Name (wpAny_Name (wpAny_loadName_local rfl rfl hn e6 (wpAny_storeName_local rfl hn (fun h_6 hn_6 hs_6 => ?_) rfl))))
         refine wpAny_execs_nil (wpAny_execs_nil (wpAny_execs_nil ?_))
         exact HQ _ _ ⟨_, _, _, rfl, hn_6, fun b o hb q => hs_6.extBut b o (nm hb) q, st, some i, lst, ts, _, ⟨hsi.open hcl', e1, rfl, e3, e4, setP li_5 hs_6, Nat.le_succ_of_le hlen, setK _ _ fun b o hb q => hs_6.extBut b o (nm hb) q⟩⟩
       | some o =>
         have hso := hsi.1
         have hoi := hsi.2.1
         have hix : i < x.length := hi
         refine wpAny_execs_cons (wpAny_If (wpAny_isTrue_Compare1 (wpAny_Name (wpAny_loadName_local rfl rfl hn e2 (wpAny_Constant_none (PyProof.Rows.is_int_none (wpAny_truthy_bool ?_)))))))
         rw [if_neg (by decide)]
         refine wpAny_execs_cons (wpAny_If (wpAny_isTrue_Compare1 (wpAny_Name (wpAny_loadName_local rfl rfl hn e1 (wpAny_Name (wpAny_loadName_local rfl rfl hn e2 (PyProof.Rows.ne_int (wpAny_truthy_bool ?_))))))))
         by_cases h2 : st = o
         · subst h2
           rw [if_neg (by simp)]
           refine wpAny_execs_nil ?_
           refine wpAny_execs_cons (wpAny_Assign_Name (wpAny_BinOp (wpAny_Name (wpAny_loadName_local rfl rfl hn e6 (wpAny_Constant_int (PyProof.Rows.add_int (wpAny_storeName_local rfl hn (fun h_8 hn_8 hs_8 => ?_) rfl)))))))
           refine wpAny_execs_cons (wpAny_Assign_Name (wpAny_Constant_none (wpAny_storeName_local rfl hn_8 (fun h_9 hn_9 hs_9 => ?_) rfl)))
           refine wpAny_execs_nil (wpAny_execs_nil (wpAny_execs_nil ?_))
           have kk : ∀ b o, b ∉ [L, D] -> s_5.heap.get? b = some o -> h_9.get? b = some o := fun b o hb q => hs_9.extBut b o (nm hb) (hs_8.extBut b o (nm hb) (q))
           have ei : ((i + 1 : Nat) : Int) = (i : Int) + 1 := by omega
           exact HQ _ _ ⟨_, _, _, rfl, hn_9, kk, i + 1, none, lst, _, 0, ⟨(by have := hsi.close hcl'; rw [Nat.sub_self, List.take_zero, List.append_nil] at this; exact this), congrArg (fun z => some (Value.int z _)) ei.symm, rfl, e3, e4, setP (setP li_5 hs_8) hs_9, Nat.le_succ_of_le hlen, setK _ _ kk⟩⟩
         · rw [if_pos (by simp; omega)]
           refine wpAny_execs_cons (wpAny_Expr (wpAny_Call_append rfl rfl rfl rfl (wpAny_Name (wpAny_loadName_local rfl rfl hn e3 ⟨D, _, rfl, li_5, ?_⟩))))
           refine Subscript_Slice (wpAny_Name (wpAny_loadName_local rfl rfl hn e4 (wpAny_Slice (evalPart_some_step (wpAny_Name (wpAny_loadName_local rfl rfl hn e1 (evalPart_some_step (wpAny_Name (wpAny_loadName_local rfl rfl hn e2 (evalPart_none_step ?_))))))))))
           refine SBH.sliceItem_ss (P := fun h' => ∀ b o, s_5.heap.get? b = some o -> h'.get? b = some o) (fun h ob k b o q => Heap.get?_push_of_some _ (k b o q)) (fun b o q => q) (fun h_6 t_6 k_6 up_6 => ?_) (Nat.le_trans hl (by decide))
           refine list_append_plainL (li_5.keeps up_6) (fun h_7 li_7 hs_7 => ?_) (by
             show (strValues lst).toArray.size <= sizeLine
             have h10 : (strValues lst).toArray.size = lst.length := by simp [strValues]
             rw [h10]; exact Nat.le_trans hlen (Nat.le_trans (Nat.le_of_lt (Nat.lt_of_lt_of_le hix hl)) (by decide)))
           refine wpAny_execs_nil ?_
           have hn_7 : h_7.Ns L m_5 := (hn.keeps up_6).sameBut hs_7 (Nat.ne_of_lt hLD)
           rw [strValues_snoc] at li_7
           refine wpAny_execs_cons (wpAny_Assign_Name (wpAny_BinOp (wpAny_Name (wpAny_loadName_local rfl rfl hn_7 e6 (wpAny_Constant_int (PyProof.Rows.add_int (wpAny_storeName_local rfl hn_7 (fun h_8 hn_8 hs_8 => ?_) rfl)))))))
           refine wpAny_execs_cons (wpAny_Assign_Name (wpAny_Constant_none (wpAny_storeName_local rfl hn_8 (fun h_9 hn_9 hs_9 => ?_) rfl)))
           refine wpAny_execs_nil (wpAny_execs_nil (wpAny_execs_nil ?_))
           have kk : ∀ b o, b ∉ [L, D] -> s_5.heap.get? b = some o -> h_9.get? b = some o := fun b o hb q => hs_9.extBut b o (nm hb) (hs_8.extBut b o (nm hb) (hs_7.extBut b o (nd hb) (up_6 b o q)))
           have ei : ((i + 1 : Nat) : Int) = (i : Int) + 1 := by omega
           exact HQ _ _ ⟨_, _, _, rfl, hn_9, kk, i + 1, none, (lst ++ [(Txt.slice x (some (Nat.cast st)) (some (Nat.cast o)), t_6)]), _, 0, ⟨(by rw [lstJ_snoc, slice_ss hso (Nat.le_of_lt (Nat.lt_trans hoi hix))]; exact hsi.close hcl'), congrArg (fun z => some (Value.int z _)) ei.symm, rfl, e3, e4, setP (setP li_7 hs_8) hs_9, (by rw [List.length_append]; exact Nat.succ_le_succ hlen), setK _ _ kk⟩⟩
     · rw [if_neg (by simpa using h1)]
       refine wpAny_execs_nil (wpAny_execs_nil ?_)
       exact HQ _ _ ⟨_, _, _, rfl, hn, fun b o hb q => q, st, op, lst, ts, to', ⟨hsi.same hcl' h1, e1, e2, e3, e4, li_5, Nat.le_succ_of_le hlen, ⟨K_5.keep, K_5.os, K_5.bare⟩⟩⟩
theorem main_1 : P1.1 L h_1 zi1 zi3 zi4 zi6 h_2 tk D h_3 := P2.2 ⟨fun a0 a1 a2 a3 a4 a5 a6 a7 a8 a9 a10 a11 a12 a13 a14 => Mine.pk_all (p := cx2) (by with_unfolding_all exact main_2) ((((a0, a1), (a2, a3)), ((a4, a5), (a6, a7))), (((a8, a9), (a10, a11)), ((a12, a13), a14)))⟩
theorem main : Stm pC looseC mgC mbC w s x t R := P1.2 ⟨fun a0 a1 a2 a3 a4 a5 a6 a7 a8 a9 => Mine.pk_all (p := cx1) (by with_unfolding_all exact main_1) ((((a0, a1), a2), (a3, a4)), (((a5, a6), a7), (a8, a9)))⟩
end c_stripH
theorem c_strip {w s x t R} : c_stripH.Stm p loose mg mb w s x t R := pk_all (p := c_stripH.cx) (by with_unfolding_all exact c_stripH.main) ((((p, loose), mg), (mb, w)), ((s, x), (t, R)))
end
end Mine
end
section
namespace Mine
noncomputable def chkL : List Nat -> Nat -> Bool
 | [], o => o == 0
 | c :: r, o => if c = 40 then chkL r (o + 1) else if c = 41 then (if o = 0 then false else chkL r (o - 1)) else chkL r o
noncomputable def checkP (x : Str) : Bool := chkL (stripP x).cps.toList 0
section
namespace c_checkH
noncomputable def Stm (pC : Program) (looseC : List Str) (mgC mbC : Str -> Option Value) (w : World) (s : Shared) (x : Str) (t : Tok) (R : Result -> Shared -> Prop) : Prop := ∀  (T : TopRead pC looseC mgC mbC s.heap) (X : (Mine.mk.heap_1 w.params).In s.heap) (hx : Good x) (hR : ∀ s', Kp s s' -> R (.ok (.ret (.bool (checkP x)))) s'), codeAny (model Challenge.rw_kl0462_01.prog w) (AL 2) (.call (.ref 66) ⟨[.str x t], []⟩) R s
noncomputable def cx (v : (((Program × (List Str)) × (Str -> Option Value)) × ((Str -> Option Value) × World)) × ((Shared × Str) × (Tok × (Result -> Shared -> Prop)))) : Prop := Stm v.1.1.1.1 v.1.1.1.2 v.1.1.2 v.1.2.1 v.1.2.2 v.2.1.1 v.2.1.2 v.2.2.1 v.2.2.2
noncomputable section
def tup := pk (by walk_at "ne") cx
@[irreducible]def pC:=tup.1.1.1.1
@[irreducible]def looseC:=tup.1.1.1.2
@[irreducible]def mgC:=tup.1.1.2
@[irreducible]def mbC:=tup.1.2.1
@[irreducible]def w:=tup.1.2.2
@[irreducible]def s:=tup.2.1.1
@[irreducible]def x:=tup.2.1.2
@[irreducible]def t:=tup.2.2.1
@[irreducible]def R:=tup.2.2.2
end
noncomputable def P1 : {PQ : Addr -> Heap -> Nat -> Shared -> Tok -> Heap -> Nat -> Heap -> Nat -> Nat -> Nat -> Nat -> Shared -> Nat -> Shared -> Shared -> (Str -> Option Value) -> Nat -> Tok -> Tok -> (Str -> Option Value) -> Prop // Hold (∀ a0 a1 a2 a3 a4 a5 a6 a7 a8 a9 a10 a11 a12 a13 a14 a15 a16 a17 a18 a19 a20, PQ a0 a1 a2 a3 a4 a5 a6 a7 a8 a9 a10 a11 a12 a13 a14 a15 a16 a17 a18 a19 a20) -> Stm pC looseC mgC mbC w s x t R} := ⟨_, by
 intro hPk
 intro T X hx hR
 have kS1 : Key "call ref" := trivial
 have kS2 : Key "exec For" := trivial
 revert X
 k_fill
 intro X
 refine callF X T.nolimit (by k_is) (by k_is) (by decide) (binds := [("addr", .str x t)]) (BindsTo.of_eq rfl) (locs rfl) ?_
 intro L h_1 F eL
 k_steps
 refine callC 1 (c_strip (T.keeps F.keep) (Frag.In.keeps X F.keep) hx fun s_2 t_2 K_2 => ?_)
 have hg := hx.strip
 have F_2 := F.keeps K_2.keep
 k_steps
 rename Fr s.heap L _ _ => F_3
 refine wpAny_For ?_
 k_steps
 refine wpAny_call (gen_call (A' := AL 0) (mu := [L]) (T.keeps F_3.keep) (Frag.In.keeps X F_3.keep) hg.1 ?_ rfl ?_ ?_)
 · exact Nat.lt_of_le_of_lt (Nat.le_of_ble_eq_true rfl : _ <= 800) (by decide)
 · intro b hb
   rw [List.mem_singleton.mp hb, eL]
   have hg := T.g.lt
   have hbl := T.b.lt
   exact i0_3 (Nat.lt_of_lt_of_le (eL ▸ F_3.ns.lt) (Nat.le_refl _)) (Nat.ne_of_gt hg) (Nat.ne_of_gt hbl)
 intro a g C s_3 hC hCa G k_3 o_3 b_3
 dsimp only
 have hcl : cStatics < L := by
   rw [eL]; obtain ⟨mc, hns, _⟩ := T.nolimit; exact hns.lt
 have hLC : L < C := Nat.lt_of_lt_of_le F_3.ns.lt hC
 have old : ∀ b o, s.heap.get? b = some o -> b ≠ C /\ b ≠ L /\ b <= a := fun b o q => by
   have h1 : b < L := eL ▸ Heap.lt_size q
   exact i0_3 (Nat.ne_of_lt (Nat.lt_trans h1 hLC)) (Nat.ne_of_lt h1) (Nat.le_of_lt (Nat.lt_trans h1 (Nat.lt_trans hLC hCa)))
 have K_0 : Kp s s_3 := ⟨fun b o q => k_3 b o (F_3.keep b o q), o_3.trans K_2.os, fun B => b_3 (K_2.bare B)⟩
 refine forGen (env := envOf "_check_parenthesis" _ L 66 (.ref 65)) (fun i m s' => (∃ o tk, m "opens" = some (.int (Nat.cast o) tk) /\ chkL (stripP x).cps.toList 0 = chkL ((stripP x).cps.toList.drop i) o) /\ Kp s s') ?_ ?_ ?_ ?_ ?_ ?_ ?_ ?_ hCa ?_ ?_ ?_ ?_ ?_ (F_3.ns.keeps k_3) G ?_
 · rfl
 · exact Nat.le_of_ble_eq_true rfl
 · exact Nat.le_of_ble_eq_true rfl
 · rfl
 · rfl
 · rfl
 · exact List.mem_singleton.mpr rfl
 · exact Nat.lt_of_lt_of_le F_3.ns.lt hC
 · intro b hb
   rw [List.mem_singleton.mp hb]
   exact Nat.lt_of_lt_of_le F_3.ns.lt hC
 · exact hcl
 · exact fun z => Nat.ne_of_lt hcl (List.mem_singleton.mp z)
 · rintro i s_4 s_5 m c ti u hi hc ⟨⟨o, tk, e1, e2⟩, K_4⟩ hn TT
   have K_5 : Kp s s_5 := ⟨fun b o q => TT.keep b o (old b o q).1 (old b o q).2.1 (old b o q).2.2 (K_4.keep b o q), TT.os.trans K_4.os, fun B => TT.bare (K_4.bare B)⟩
   have e3 : (pcm m i ti c u) "opens" = some (.int (Nat.cast o) tk) := e1
   have e4 : (pcm m i ti c u) "ch" = some (.str ⟨#[c]⟩ u) := rfl
   generalize pcm m i ti c u = m_5 at hn e3 e4
   rename_i zi1 zi2 zi3 zi4 zi5 zi6
   repeat (rename (_ : Prop) => hZ; revert hZ)
   intro hPk
   revert o tk
   exact hPk.out L h_1 zi1 s_2 t_2 zi2 zi4 zi5 zi6 a g C s_3 i s_4 s_5 m c ti u m_5
 · rintro s_4 s_5 m ⟨⟨o, tk, e1, e2⟩, K_4⟩ hn TT
   have K_5 : Kp s s_5 := ⟨fun b o q => TT.keep b o (old b o q).1 (old b o q).2.1 (old b o q).2.2 (K_4.keep b o q), TT.os.trans K_4.os, fun B => TT.bare (K_4.bare B)⟩
   have := hR _ (⟨K_5.keep, K_5.os, K_5.bare⟩ : Kp s { s_5 with toks := s_5.toks + 1 })
   have e7 : ([] : List Nat) = (stripP x).cps.toList.drop (stripP x).cps.size := by rw [<- Array.length_toList, List.drop_length]
   rw [checkP, e2, <- e7, chkL] at this
   refine wpAny_execs_cons (wpAny_Return_some (wpAny_Compare1 (wpAny_Name (wpAny_loadName_local rfl rfl hn e1 (wpAny_Constant_int (PyProof.Rows.eq_int ?_))))))
   rw [show ((o : Int) == 0) = (o == 0) by cases o <;> rfl]
   exact this
 · exact ⟨⟨0, _, rfl, rfl⟩, K_0⟩
 ⟩
noncomputable def cx1 (v : ((((Addr × Heap) × Nat) × ((Shared × Tok) × Heap)) × (((Nat × Heap) × Nat) × (Nat × Nat))) × ((((Nat × Shared) × Nat) × (Shared × Shared)) × ((((Str -> Option Value) × Nat) × Tok) × (Tok × (Str -> Option Value))))) : Prop := P1.1 v.1.1.1.1.1 v.1.1.1.1.2 v.1.1.1.2 v.1.1.2.1.1 v.1.1.2.1.2 v.1.1.2.2 v.1.2.1.1.1 v.1.2.1.1.2 v.1.2.1.2 v.1.2.2.1 v.1.2.2.2 v.2.1.1.1.1 v.2.1.1.1.2 v.2.1.1.2 v.2.1.2.1 v.2.1.2.2 v.2.2.1.1.1 v.2.2.1.1.2 v.2.2.1.2 v.2.2.2.1 v.2.2.2.2
noncomputable section
def tup1 := pk (by walk_at "ne") cx1
@[irreducible]def L:=tup1.1.1.1.1.1
@[irreducible]def h_1:=tup1.1.1.1.1.2
@[irreducible]def zi1:=tup1.1.1.1.2
@[irreducible]def s_2:=tup1.1.1.2.1.1
@[irreducible]def t_2:=tup1.1.1.2.1.2
@[irreducible]def zi2:=tup1.1.1.2.2
@[irreducible]def zi4:=tup1.1.2.1.1.1
@[irreducible]def zi5:=tup1.1.2.1.1.2
@[irreducible]def zi6:=tup1.1.2.1.2
@[irreducible]def a:=tup1.1.2.2.1
@[irreducible]def g:=tup1.1.2.2.2
@[irreducible]def C:=tup1.2.1.1.1.1
@[irreducible]def s_3:=tup1.2.1.1.1.2
@[irreducible]def i:=tup1.2.1.1.2
@[irreducible]def s_4:=tup1.2.1.2.1
@[irreducible]def s_5:=tup1.2.1.2.2
@[irreducible]def m:=tup1.2.2.1.1.1
@[irreducible]def c:=tup1.2.2.1.1.2
@[irreducible]def ti:=tup1.2.2.1.2
@[irreducible]def u:=tup1.2.2.2.1
@[irreducible]def m_5:=tup1.2.2.2.2
end
theorem main_1 : P1.1 L h_1 zi1 s_2 t_2 zi2 zi4 zi5 zi6 a g C s_3 i s_4 s_5 m c ti u m_5 := by
   intro o tk T hx hR kS1 kS2 X F eL K_2 hg F_2 _ F_3 hC hCa G k_3 o_3 b_3 hcl hLC old K_0 hi hc K_4 e1 e2 TT K_5 hn e3 e4
   have e5 : chkL (stripP x).cps.toList 0 = chkL (c :: (stripP x).cps.toList.drop (i + 1)) o := by
     rw [e2]; congr 1
     obtain ⟨h1, h2⟩ := (Array.getElem?_eq_some_iff.mp hc)
     rw [<- h2, <- Array.getElem_toList]
     exact (List.drop_eq_getElem_cons (by simpa using h1))
   have set_1 : ∀ (h' : Heap) (tk : Nat), Heap.SameBut L s_5.heap h' -> Kp s { s_5 with heap := h', toks := tk } := fun h' tk hs => ⟨fun b o q => hs.extBut b o (old b o q).2.1 (K_5.keep b o q), K_5.os, K_5.bare⟩
   refine wpAny_execs_cons (wpAny_If (wpAny_isTrue_Compare1 (wpAny_Name (wpAny_loadName_local rfl rfl hn e4 (wpAny_Constant_str (PyProof.Rows.eq_str (wpAny_truthy_bool ?_)))))))
   rw [one_eq c 40 (by decide +kernel)]
   by_cases h1 : c = 40
   · rw [if_pos (decide_eq_true h1)]
     refine wpAny_execs_cons (wpAny_AugAssign_Name (wpAny_loadName_local rfl rfl hn e3 (wpAny_Constant_int (PyProof.Rows.iadd_int (wpAny_storeName_local rfl hn (fun h_6 hn_6 hs_6 => ?_) rfl)))))
     refine wpAny_execs_nil (wpAny_execs_nil ?_)
     refine i3_5 _ _ _ rfl hn_6 (fun b o hb q => hs_6.extBut b o (fun z => hb (List.mem_singleton.mpr z)) q) ⟨o + 1, _, rfl, ?_⟩ (set_1 _ _ hs_6)
     rw [e5, chkL, if_pos h1]
   · rw [if_neg (by simpa using h1)]
     refine wpAny_execs_cons (wpAny_If (wpAny_isTrue_Compare1 (wpAny_Name (wpAny_loadName_local rfl rfl hn e4 (wpAny_Constant_str (PyProof.Rows.eq_str (wpAny_truthy_bool ?_)))))))
     rw [one_eq c 41 (by decide +kernel)]
     by_cases h2 : c = 41
     · rw [if_pos (decide_eq_true h2)]
       refine wpAny_execs_cons (wpAny_AugAssign_Name (wpAny_loadName_local rfl rfl hn e3 (wpAny_Constant_int (PyProof.Rows.isub_int (wpAny_storeName_local rfl hn (fun h_6 hn_6 hs_6 => ?_) rfl)))))
       refine wpAny_execs_cons (wpAny_If (wpAny_isTrue_Compare1 (wpAny_Name (wpAny_loadName_local rfl rfl hn_6 rfl (wpAny_Constant_int (PyProof.Rows.lt_int (wpAny_truthy_bool ?_)))))))
       rw [chkL, if_neg h1, if_pos h2] at e5
       by_cases h3 : o = 0
       · subst h3
         rw [if_pos (by decide)]
         rw [if_pos rfl] at e5
         refine wpAny_execs_cons (wpAny_Return_some (wpAny_Constant_bool ?_))
         rw [checkP, e5] at hR
         exact hR _ (set_1 _ _ hs_6)
       · rw [if_neg (by simp; omega)]
         rw [if_neg h3] at e5
         refine wpAny_execs_nil (wpAny_execs_nil (wpAny_execs_nil (wpAny_execs_nil ?_)))
         have e8 : (((o - 1 : Nat)) : Int) = (o : Int) - 1 := by omega
         exact i3_5 _ _ _ rfl hn_6 (fun b o hb q => hs_6.extBut b o (fun z => hb (List.mem_singleton.mpr z)) q) ⟨o - 1, _, congrArg (fun z => some (Value.int z _)) e8.symm, e5⟩ (set_1 _ _ hs_6)
     · rw [if_neg (by simpa using h2)]
       refine wpAny_execs_nil (wpAny_execs_nil (wpAny_execs_nil ?_))
       refine i3_5 _ _ _ rfl hn (fun b o hb q => q) ⟨o, _, e3, ?_⟩ ⟨K_5.keep, K_5.os, K_5.bare⟩
       rw [e5, chkL, if_neg h1, if_neg h2]
theorem main : Stm pC looseC mgC mbC w s x t R := P1.2 ⟨fun a0 a1 a2 a3 a4 a5 a6 a7 a8 a9 a10 a11 a12 a13 a14 a15 a16 a17 a18 a19 a20 => pk_all (p := cx1) (by with_unfolding_all exact main_1) (((((a0, a1), a2), ((a3, a4), a5)), (((a6, a7), a8), (a9, a10))), ((((a11, a12), a13), (a14, a15)), (((a16, a17), a18), (a19, a20))))⟩
end c_checkH
theorem c_check {w s x t R} : c_checkH.Stm p loose mg mb w s x t R := pk_all (p := c_checkH.cx) (by with_unfolding_all exact c_checkH.main) ((((p, loose), mg), (mb, w)), ((s, x), (t, R)))
end
end Mine
end
section
namespace Mine
theorem callCW {prog : Program} {w : World} {A : Around} {K : Frag} {R : Result -> Shared -> Prop} {g : Heap} {cl : List (Addr × Obj)} {s : Shared} {name qual : Str} {params : Arguments} {body : List Stmt} {scope : Scope} {dV kV doc pm cdv ct oc : Value} {an od : Option Addr} {osl : Array (Option Value)} {f : Addr} {args : Args} {binds : List (Str × Value)}
   (W : WH g s cl) (X : K.In g) (hlim : g.NoLimit)
   (ho : K.lookup f = some ⟨oc, od, .func (fnOf name qual params body scope dV kV doc pm an cdv ct), osl⟩) (hcd : codeIn K cdv qual = true) (hroom : A.depth < recursionLimit)
   (hbind : BindsTo s (fnOf name qual params body scope dV kV doc pm an cdv ct) args binds)
   (hkind : (binds.all fun y => scope.names.lookup y.1 == some .local || scope.names.lookup y.1 == some .cell) = true)
   (hnd : ((cellsFrom 0 scope.names []).map (·.1)).Nodup)
   (h : ∀ (L : Nat) h_1 tk cells, Fr g L h_1 (bindL (envOfC qual scope L f cdv).kindOf binds fun _ => none) -> News g L h_1 (cells ++ cl) ->
     CellsAre (bindC (envOfC qual scope L f cdv).kindOf binds fun _ => none) (cellsFrom (L + 1) scope.names []) cells -> L = s.heap.objs.size -> (∀ p ∈ cl, p.1 < L) ->
     wpAny (model prog w) (A.deeper (envOfC qual scope L f cdv)) (execs body (envOfC qual scope L f cdv))
       (fun fl s' => R (.ok (.ret (match fl with | .ret v => v | _ => .none))) s')
       (fun _ _ => False)
       { s with heap := h_1, toks := tk })
   (hco : scope.isCoroutine = false := by rfl) (hgen : scope.isGenerator = false := by rfl) (hk : scope.kind = .function := by rfl) : codeAny (model prog w) A (.call (.ref f) args) R s := by
 refine codeAny_call_function hroom (X.keeps W.keep _ _ ho) rfl hco hgen rfl (codeRec_of (X.keeps W.keep) hcd) (hbind _ _ _ _ ?_)
 refine wpAny_newFunctionEnv_cells hk (kindsX hkind _) fun env' he s' x => ?_
 subst he
 refine ⟨(hlim.keeps W.keep).keeps x.toInCall.keep, codeAny_func ?_⟩
 obtain ⟨h_1, tk, (rfl), _⟩ := x.done
 have hk_1 := x.toInCall.keep
 refine x1_2 (Cl.news (h₀ := s.heap) (Nat.le_refl _) fun n c hm => ⟨x.cell n c (lookup_of_mem_nodup (cellsFrom_names scope.names 0 (s.heap.objs.size + 1) [] [] rfl ▸ hnd) hm), x.above n c hm⟩) fun cells NC Y => ?_
 refine wpAny_mono (h s.heap.objs.size h_1 tk cells ⟨x.toInCall.ns, fun b o e => hk_1 b o (W.keep b o e), W.size⟩ (fun p hp => ?_) Y rfl (fun p hp => Heap.lt_size (W.news p hp).1)) (fun _ _ x => x) fun _ _ x => x.elim
 rcases List.mem_append.mp hp with hp | hp
 · refine i0_3 ((NC p hp).1) ((NC p hp).2.1) ?_
   cases q : g.get? p.1 with
   | none => rfl
   | some o => have := W.keep _ _ q; rw [(NC p hp).2.2] at this; cases this
 · exact i0_3 (hk_1 _ _ (W.news p hp).1) (Nat.ne_of_lt (Heap.lt_size (W.news p hp).1)) ((W.news p hp).2)
end Mine
end
section
namespace Mine
noncomputable def BoundAt (id : String) (self : Value) (q : Addr) (h : Heap) : Prop := ∃ d vs sl, h.get? q = some ⟨.type "builtin_function_or_method", d, .fields vs, sl⟩ /\ vs[0]? = some (.builtin id) /\ vs[1]? = some self
theorem BoundAt.keeps {id : String} {self : Value} {q : Addr} {h h' : Heap} (X : BoundAt id self q h) (k : ∀ b o, h.get? b = some o -> h'.get? b = some o) : BoundAt id self q h' :=
 let ⟨d, vs, sl, e, r⟩ := X; ⟨d, vs, sl, k _ _ e, r⟩
section
variable {M : Model} {A : Around} {E : Value -> Shared -> Prop} {s : Shared} {env : Env} {pos : Pos} {first : List Value} {Q : Value -> Shared -> Prop} {q : Addr} {id : String} {self : Value}
theorem keeps_B (h : Heap) (X : BoundAt id self q h) : ∃ k, (k = Keeper.frame \/ k = Keeper.machine \/ k = Keeper.boundFrame) /\ Looks M h (keeperOf (.ref q)) k := by
 obtain ⟨d, vs, sl, e, _⟩ := X
 exact i1_2 .machine (.inr (.inl rfl)) ((Looks.ld (part := none) e).andThen .now)
theorem callWith_B {e : PySem.Expr} {rest : List PySem.Expr} (_X : BoundAt id self q s.heap) (h : wpAny M A (spliced (backTo pos (starEach (e :: rest) env))) (fun vs s₁ => BoundAt id self q s₁.heap /\ wpAny M A (call (.ref q) (first ++ vs)) Q E s₁) E s)
   (he : starEach (e :: rest) env = (false, eval e env) :: starEach rest env := by rfl) (hplain : (backTo pos (starEach rest env)).any (·.1) = false := by rfl) :
   wpAny M A (callWith pos (.ref q) first (backTo pos (starEach (e :: rest) env)) []) Q E s := by
 rw [he] at h ⊢
 exact callWith_of (by show ((false || (backTo pos (starEach rest env)).any (·.1)) || false) = false; rw [hplain]; rfl) keeps_B (evalArgs_plain h)
end
section
variable {prog : Program} {w : World} {A : Around} {E : Value -> Shared -> Prop} {s : Shared} {R : Result -> Shared -> Prop}
theorem code_bound {q : Addr} {id : String} {self : Value} {pos : List Value} (X : BoundAt id self q s.heap) (hq : (Code.builtin id ⟨self :: pos, []⟩).quiet = true)
   (h : wpAny (model prog w) (A.under (.call (.ref q) ⟨pos, []⟩)) (checkBoundCall id ⟨self :: pos, []⟩) (fun _ s' => codeAny (model prog w) A (.builtin id ⟨self :: pos, []⟩) R s') (fun _ _ => False) s) :
   codeAny (model prog w) A (.call (.ref q) ⟨pos, []⟩) R s := by
 refine x3_3 (X) fun d vs sl e h0 h1 => ?_
 try clear X
 refine codeAny_of_tree ?_
 show wpAny _ _ (callAny (.ref q) ⟨pos, []⟩) _ _ s
 simp only [callAny]
 refine wpAny_bind (wpAny_load e ?_)
 dsimp only
 rw [if_pos (by decide), h0, h1]
 dsimp only
 rw [if_pos (by decide)]
 exact wpAny_bind (wpAny_mono h (fun _ s' h' => wpAny_bind (wpAny_pure (wpAny_pure ⟨hq, h'⟩))) fun _ _ x => x.elim)
theorem args_append_own (l : Addr) (v : Value) : (match List.lookup (String.ofList ['d', 'n', 'e', 'p', 'p', 'a'].reverse) Manifest.sig_list with
   | some sig => Bind.checkArgs "list.append" { sig with full := s!"{Bind.lastOf "list"}.{Bind.lastOf "list.append"}" } ⟨[.ref l, v], []⟩
   | none => pure ()) = pure () := by kernel_rfl
theorem kind_append : builtinKind "list.append" = some .method := by decide +kernel
theorem check_append {l : Addr} {v : Value} {o : Obj} {its : Array Value} {n : Nat} {Q : Unit -> Shared -> Prop} (ho : s.heap.get? l = some o) (hc : o.cls = .type "list") (hd : o.data = .seq its n) (h : Q () s) :
   wpAny (model prog w) A (checkBoundCall "list.append" ⟨[.ref l, v], []⟩) Q E s := by
 have hT : s.TypeIs (.ref l) "list" := ⟨o, ho, hc⟩
 unfold checkBoundCall
 rw [signature?_of (id := "list.append") (n := ['d', 'n', 'e', 'p', 'p', 'a']) (o := ['t', 's', 'i', 'l']) (by kernel_rfl) PySem.F.owner_list]
 have a := args_append_own l v
 cases hs : List.lookup (String.ofList ['d', 'n', 'e', 'p', 'p', 'a'].reverse) Manifest.sig_list with
 | none => exact wpAny_pure h
 | some sig =>
   rw [hs] at a
   dsimp only at a ⊢
   rw [kind_append]
   dsimp only
   rw [if_neg (by decide)]
   refine wpAny_bind (wpAny_isInstance (b := false) hT (by rw [isSubtype_type]; kernel_rfl) ?_)
   rw [if_neg (by decide +kernel)]
   unfold isType loadHead
   refine wpAny_bind (wpAny_bind (wpAny_loadPart ho ?_))
   rw [hd]
   refine wpAny_pure ?_
   dsimp only
   rw [if_neg (by decide)]
   refine wpAny_bind (wpAny_typeOf hT ?_)
   dsimp only
   exact wpAny_of_eq a h
theorem bound_append {q l : Addr} {v : Value} {its : Array Value} {n : Nat} (X : BoundAt "list.append" (.ref l) q s.heap) (ho : s.heap.get? l = some (PySem.W.listOf its n)) (hz : its.size <= sizeLine)
   (h : ∀ h', h'.get? l = some (PySem.W.listOf (its.push v) (n + 1)) -> Heap.SameBut l s.heap h' -> R (.ok (.ret .none)) { s with heap := h' }) :
   codeAny (model prog w) A (.call (.ref q) ⟨[v], []⟩) R s := by
 refine code_bound X (plainId_quiet slot_list_append.plain _) (check_append ho rfl rfl ?_)
 refine codeAny_builtin entry_list_append ?_
 show wpAny _ _ (updateSeq l (·.push v) >>= fun _ => ret .none) _ _ s
 refine wpAny_bind (wpAny_updateSeq ho rfl (wpAny_pure (h _ ?_ (Heap.SameBut.update ..))) hz)
 rw [Heap.get?_update_self _ ho (by rw [Obj.mapSeq_push_plain]; rfl), Obj.mapSeq_push_plain]
end
end Mine
namespace Mine
section
variable {prog : Program} {w : World} {A : Around} {E : Value -> Shared -> Prop} {s : Shared} {g : Heap} {L : Addr} {m : Str -> Option Value} {news news' : List (Addr × Obj)}
theorem write_K {bm P : Addr} {its : Array Value} {n : Nat} {v : Value} {Q : Value -> Shared -> Prop} (F : Fr g L s.heap m) (N : News g L s.heap news) (hb : BoundAt "list.append" (.ref P) bm g) (U : Upd P (PySem.W.listOf its n) (PySem.W.listOf (its.push v) (n + 1)) news news') (hz : its.size <= sizeLine)
   (h : ∀ h', Fr g L h' m -> News g L h' news' -> Q .none { s with heap := h' }) : wpAny (model prog w) A (call (.ref bm) [v]) Q E s := by
 refine x2_4 (U.split) fun pre post hcz2 hcz3 a b => ?_
 cases hcz2
 cases hcz3
 have z := N (P, PySem.W.listOf its n) (List.mem_append.mpr (.inr (.head _)))
 exact wpAny_call (bound_append (hb.keeps F.keep) z.1 hz fun h' ho' hs => h h' (F.change hs z.2.1 z.2.2) (news_set N a b hs ho'))
theorem check_join (x : Str) (t : Tok) (D : Addr) : checkBoundCall "str.join" ⟨[.str x t, .ref D], []⟩ = pure () := by first | kernel_rfl | rfl
theorem join_K {bm D : Addr} {x : Str} {t : Tok} {l : List (Str × Tok)} {Q : Value -> Shared -> Prop} (hb : BoundAt "str.join" (.str x t) bm s.heap) (hl : s.heap.IsList D (strValues l).toArray) (hok : JoinOk x (l.map (·.1)) = true)
   (hq : ∀ t' k, Q (.str (Txt.join x (l.map (·.1))) t') { s with toks := k }) : wpAny (model prog w) A (call (.ref bm) [.ref D]) Q E s := by
 refine wpAny_call (code_bound hb (plainId_quiet PySem.F.slot_str_join.plain _) (wpAny_of_eq (check_join x t D) ?_))
 refine codeAny_builtin PySem.F.entry_str_join ?_
 have hok' := hok
 unfold JoinOk at hok'
 rw [Bool.not_eq_true'] at hok'
 exact meets_str_join_list x t D l hok' prog w A (wants Q E) s ⟨hl, post_join l ⟨joinFit_length hok', hq⟩⟩
end
end Mine
end
local macro_rules | `(tactic| walk_at "bk") => Mine.mGo "ref BoundAt.keeps ?p ( Fr.keep ?q ) | p:a q:k"
local macro_rules | `(tactic| walk_at "nil") => `(tactic| try dsimp only [List.nil_append, List.cons_append])
section
namespace Mine
theorem news_put {g : Heap} {L D : Addr} {m : Str -> Option Value} {h h' : Heap} {o o' : Obj} {news news' : List (Addr × Obj)} (F : Fr g L h m) (N : News g L h news) (U : Upd D o o' news news') (hs : Heap.SameBut D h h') (ho : h'.get? D = some o') :
   Fr g L h' m /\ News g L h' news' := by
 refine x2_4 (U.split) fun pre post hcz2 hcz3 a b => ?_
 cases hcz2
 cases hcz3
 have z := N (D, o) (List.mem_append.mpr (.inr (.head _)))
 exact ⟨F.change hs z.2.1 z.2.2, news_set N a b hs ho⟩
section
variable {prog : Program} {w : World} {A : Around} {E : Value -> Shared -> Prop} {s : Shared}
theorem filt_none {f : Value × Nat -> Option Value} : ∀ (l : List Value) (i : Nat), (∀ x k, k < i + l.length -> f (x, k) = none) -> (l.zipIdx i).filterMap f = []
 | [], _, _ => rfl
 | x :: r, i, h => by
   rw [List.zipIdx_cons, List.filterMap_cons, h x i (by rw [List.length_cons]; omega)]
   exact filt_none r (i + 1) fun y k hk => h y k (by rw [List.length_cons]; omega)
namespace del_allH
noncomputable def Stm (progC : Program) (wC : World) (AC : Around) (EC : Value -> Shared -> Prop) (sC : Shared) (l sl : Addr) (vs : Array Value) (n : Nat) (Q : Unit -> Shared -> Prop) : Prop := ∀  (ho : sC.heap.get? l = some (PySem.W.listOf vs n)) (hz : vs.size <= 1000) (hs : sC.heap.IsSliceOf sl .none .none .none) (h : ∀ h' n', h'.get? l = some (PySem.W.listOf #[] n') -> Heap.SameBut l sC.heap h' -> Q () { sC with heap := h' }), wpAny (model progC wC) AC (delItem (.ref l) (.ref sl)) Q EC sC
noncomputable def cx (v : (((Program × World) × Around) × ((Value -> Shared -> Prop) × Shared)) × (((Addr × Addr) × (Array Value)) × (Nat × (Unit -> Shared -> Prop)))) : Prop := Stm v.1.1.1.1 v.1.1.1.2 v.1.1.2 v.1.2.1 v.1.2.2 v.2.1.1.1 v.2.1.1.2 v.2.1.2 v.2.2.1 v.2.2.2
noncomputable section
def tup := pk (by walk_at "ne") cx
@[irreducible]def progC:=tup.1.1.1.1
@[irreducible]def wC:=tup.1.1.1.2
@[irreducible]def AC:=tup.1.1.2
@[irreducible]def EC:=tup.1.2.1
@[irreducible]def sC:=tup.1.2.2
@[irreducible]def l:=tup.2.1.1.1
@[irreducible]def sl:=tup.2.1.1.2
@[irreducible]def vs:=tup.2.1.2
@[irreducible]def n:=tup.2.2.1
@[irreducible]def Q:=tup.2.2.2
end
theorem main : Stm progC wC AC EC sC l sl vs n Q := by
 intro ho hz hs h
 have hl : sC.heap.IsList l vs := ⟨_, ho, rfl, _, rfl⟩
 refine x1_3 (id hs) fun os hos hcs hds => ?_
 have hTs : sC.TypeIs (.ref sl) "slice" := ⟨os, hos, hcs⟩
 refine wpAny_delItem_slot hl.typeIs (by decide) PySem.F.slot_list_delitem (wpAny_call_entry PySem.F.slot_list_delitem hl.typeIs PySem.F.entry_list_delitem ?_ (PySem.F.args_list_delitem_2 _ _))
 show wpAny _ _ (Builtin.List.listSubscript? (.ref sl) >>= _) _ _ sC
 refine wpAny_bind ?_
 unfold Builtin.List.listSubscript?
 refine wpAny_bind (wpAny_specialOf hTs slice_no_index ?_)
 simp only [Option.isNone_none, if_true]
 refine wpAny_pure ?_
 show wpAny _ _ (typeOf (.ref sl) >>= _) _ _ sC
 refine wpAny_bind (wpAny_typeOf hTs ?_)
 rw [if_neg (by decide)]
 rw [listSliceParts_eq]
 refine wpAny_bind (wpAny_bind (wpAny_field hos hds (x := .none) rfl (wpAny_bind (wpAny_listPart .none ?_))))
 rw [if_neg (by decide)]
 refine wpAny_bind (wpAny_field hos hds (x := .none) rfl (wpAny_bind (wpAny_listPart .none ?_)))
 refine wpAny_bind (wpAny_field hos hds (x := .none) rfl (wpAny_bind (wpAny_listPart .none ?_)))
 refine wpAny_pure ?_
 refine wpAny_bind (m := Builtin.List.listItems (.ref l)) ?_
 unfold Builtin.List.listItems
 refine wpAny_bind (wpAny_seqItems ho rfl (wpAny_pure ?_))
 refine wpAny_bind (wpAny_of_eq (sliceIndices_raw none none none vs.size (by decide)) ?_)
 refine wpAny_bind (wpAny_rule ?_)
 refine wpAny_bind (m := Builtin.List.listUpdate _ _) ?_
 show wpAny _ _ (updateSeq l _) _ _ _
 have sel : ∀ k : Nat, k < vs.size -> (decide ((0 : Int) <= (k : Int)) && decide ((k : Int) < (vs.size : Int)) && (((k : Int) - 0) % 1 == 0)) = true := fun k hk => by
   simp; omega
 generalize hf : (fun xs : Array Value => _) = f
 have e : f vs = #[] := by
   subst hf
   refine congrArg List.toArray (filt_none _ 0 fun x k hk => ?_)
   rw [Nat.zero_add, Array.length_toList] at hk
   exact if_pos (sel k hk)
 refine wpAny_updateSeq ho rfl ?_ (Nat.le_trans hz (by decide)) (by rw [e]; exact Nat.zero_le _)
 refine wpAny_bind (wpAny_letGo ?_)
 refine wpAny_pure ⟨_, rfl, h _ (if ((f vs).size == vs.size) = true then n else n + 1) ?_ (Heap.SameBut.update ..)⟩
 rw [Heap.get?_update_self _ ho rfl]
 show some (⟨.type "list", none, .seq (f vs) (if ((f vs).size == vs.size) = true then n else n + 1), #[]⟩ : Obj) = _
 rw [e]
end del_allH
theorem del_all {l sl vs n Q} : del_allH.Stm prog w A E s l sl vs n Q := pk_all (p := del_allH.cx) (by with_unfolding_all exact del_allH.main) ((((prog, w), A), (E, s)), (((l, sl), vs), (n, Q)))
end
end Mine
end
section
namespace Mine
theorem lit_dict {prog : Program} {w : World} : ∀ (es : List DictEntry), (∀ e ∈ es, ∃ k t, e.key = .str k t /\ e.hash = PyData.keyHash w.params k) -> ∃ kvs : List (Str × Value), Pairs (PySem.strKind prog w) es kvs /\ kvs.map (fun p => some p.1) = es.map (fun e => match e.key with | .str k _ => some k | _ => none)
 | [], _ => ⟨[], .nil, rfl⟩
 | e :: r, h => by
   refine x2_2 (h e List.mem_cons_self) fun k t hk hh => ?_
   refine x1_2 (lit_dict (prog := prog) r fun e he => h e (List.mem_cons_of_mem _ he)) fun kvs hp hm => ?_
   exact i1_2 ((k, e.val) :: kvs) (.cons (by rw [hk]; exact strKind_is prog w k t) rfl hp) (by rw [List.map_cons, List.map_cons, hm, hk])
noncomputable def nsMapOk (w : World) (o : Obj) : Prop := ∃ (es : List DictEntry) (n : Nat), o = ⟨.type "dict", none, .dict es.toArray n, #[]⟩ /\ es.length <= 1000 /\ (∀ e ∈ es, ∃ k t, e.key = .str k t /\ e.hash = PyData.keyHash w.params k) /\ (es.map (fun e => match e.key with | .str k _ => some k | _ => none)).Nodup
theorem nsMap_dict {prog : Program} {w : World} {h : Heap} {d : Addr} {o : Obj} (ho : h.get? d = some o) (ok : nsMapOk w o) : ∃ kvs ep, h.DictAt (PySem.strKind prog w) d kvs ep /\ kvs.length <= 1000 := by
 refine x2_4 (ok) fun es n hcz2 hl hk hn => ?_
 try clear ok
 cases hcz2
 refine x1_2 (lit_dict (prog := prog) es hk) fun kvs hp hm => ?_
 have hn' : (kvs.map (·.1)).Nodup := by
   rw [<- hm] at hn
   rw [show (kvs.map (fun p => some p.1)) = (kvs.map (·.1)).map some by rw [List.map_map]; rfl] at hn
   exact hn.of_map some fun a b h e => h (congrArg some e)
 exact ⟨kvs, n, ⟨_, _, ho, ⟨rfl, rfl, rfl⟩, rfl, fun e he => by
   refine x2_2 (hk e (by simpa using he)) fun k t h1 h2 => ?_
   exact ⟨k, by rw [h1]; exact strKind_is prog w k t, h2⟩, hp, hn'⟩, by rw [<- hp.length]; exact hl⟩
theorem inObj {K : Frag} {g : Heap} {a : Addr} {c : Value} {d : Option Addr} {dt : Data} {sl : Array (Option Value)} (X : K.In g) (ho : K.lookup a = some ⟨c, d, dt, sl⟩) : g.get? a = some ⟨c, d, dt, sl⟩ := X _ _ ho
theorem ns82 {w : World} {g : Heap} (X : (Mine.mk.heap_1 w.params).In g) : ∃ o, g.get? 82 = some o /\ nsMapOk w o := by
 have dd : model Challenge.rw_kl0462_01.prog w = model Challenge.rw_kl0462_01.prog w := rfl
 revert X dd
 k_fill
 intro X dd
 have := inObj (a := 82) (c := .type "dict") (d := none) (sl := #[]) X (by k_is)
 refine ⟨_, this, _, _, rfl, ?_, ?_, ?_⟩
 · exact Nat.le_of_ble_eq_true rfl
 · repeat' (first | exact List.forall_mem_nil _ | (refine List.forall_mem_cons.mpr ⟨⟨_, _, rfl, rfl⟩, ?_⟩))
 · simp only [List.map]
   decide +kernel
theorem ns82_dict {prog : Program} {w : World} {g : Heap} (X : (Mine.mk.heap_1 w.params).In g) : ∃ kvs ep, g.DictAt (PySem.strKind prog w) 82 kvs ep /\ kvs.length <= 1000 :=
 let ⟨_, ho, ok⟩ := ns82 X; nsMap_dict ho ok
noncomputable abbrev viewOf (d : Addr) : Obj := { cls := .type "dict_items", data := .fields #[.ref d] }
section
variable {w : World} {A : Around} {g : Heap} {s : Shared} {L : Addr} {m : Str -> Option Value} {news : List (Addr × Obj)} {Q : Value -> Shared -> Prop} {E : Value -> Shared -> Prop}
theorem items_method {name : Str} {pl : Sem Bool} {Q : Value × List Value -> Shared -> Prop} (X : (Mine.mk.heap_1 w.params).In g) (F : Fr g L s.heap m) (h : Q (.builtin "dict.items", [.ref 82]) s) :
   wpAny (model Challenge.rw_kl0462_01.prog w) A (getMethod (.ref 82) "items" pl) Q E s := by
 obtain ⟨kvs, ep, ⟨o, es, ho, hx, hd, _⟩, _⟩ := ns82_dict (prog := Challenge.rw_kl0462_01.prog) X
 have ho' := F.keep _ _ ho
 exact getMethod_builtin (T := "dict") ⟨o, ho', hx.1⟩ PySem.F.plainAttrs_dict PySem.F.slot_dict_items PySem.F.type_dict_items (fun a e => by cases e; exact ⟨o, ho', hx.2.1⟩) h
theorem items_view (X : (Mine.mk.heap_1 w.params).In g) (F : Fr g L s.heap m) (N : News g L s.heap news)
   (h : ∀ (D : Nat) h', Fr g L h' m -> News g L h' ((D, viewOf 82) :: news) -> (∀ q ∈ news, q.1 < D) -> Q (.ref D) { s with heap := h' }) :
   wpAny (model Challenge.rw_kl0462_01.prog w) A (call (.builtin "dict.items") [.ref 82]) Q E s := by
 obtain ⟨kvs, ep, ⟨o, es, ho, hx, hd, r⟩, _⟩ := ns82_dict (prog := Challenge.rw_kl0462_01.prog) X
 have ho' := F.keep _ _ ho
 exact call_meetsIn PySem.F.slot_dict_items ⟨o, ho', hx.1⟩ PySem.F.entry_dict_items (PySem.F.args_dict_items_1 _) (meets_dict_items (PySem.strKind Challenge.rw_kl0462_01.prog w) 82 (by decide)) ⟨⟨kvs, o, es, ep, ho', hx, hd, r⟩, h _ _ (F.push _) (News.push F N _ rfl) fun q hq => Heap.lt_size (N q hq).1⟩
theorem list_view {v : Addr} (hh : A.handled = none) (X : (Mine.mk.heap_1 w.params).In g) (F : Fr g L s.heap m) (N : News g L s.heap news) (hvw : (v, viewOf 82) ∈ news)
   (h : ∀ (B : Nat) vs c h' tk, Fr g L h' m -> News g L h' ((B, listOf vs c) :: news) -> (∀ q ∈ news, q.1 < B) -> Q (.ref B) { s with heap := h', toks := tk }) :
   wpAny (model Challenge.rw_kl0462_01.prog w) A (call (.type "list") [.ref v]) Q E s := by
 obtain ⟨kvs, ep, ⟨o, es, ho, r⟩, hl⟩ := ns82_dict (prog := Challenge.rw_kl0462_01.prog) X
 have ho' := F.keep _ _ ho
 refine kdx_call (knd := PySem.strKind Challenge.rw_kl0462_01.prog w) (kvs := kvs) (ep := ep) hh ⟨_, (N _ hvw).1, rfl, rfl⟩ ⟨o, es, ho', r⟩ (Nat.le_trans hl (by decide)) fun h' tk acc c as hk hS _ _ _ => ?_
 refine h s.heap.objs.size acc c h' tk (F.keeps hk) (fun q hq => ?_) fun q hq => Heap.lt_size (N q hq).1
 rcases List.mem_cons.mp hq with rfl | hq
 · exact ⟨hS, kdx_fresh F (Nat.le_refl _)⟩
 · exact ⟨hk _ _ (N q hq).1, (N q hq).2⟩
end
end Mine
end
section
namespace Mine
noncomputable abbrev two (pe p1 p2 q2 : Pos) (i1 : PySem.Expr) (scope : Scope) (pos : Pos) : PySem.Expr :=
 .ListComp (.Name "pair" pe) [⟨.Name "pairs" p1, i1, [], 0⟩, ⟨.Name "pair" p2, .Name "pairs" q2, [], 0⟩] scope pos
theorem flat_le {α : Type} {f : Nat -> List α} {a b : Nat} (h : a <= b) : ((List.range a).flatMap f).length <= ((List.range b).flatMap f).length := by
 refine x1_1 (Nat.le.dest h) fun k hcz1 => ?_
 cases hcz1
 rw [List.range_add, List.flatMap_append, List.length_append]
 omega
section
variable {prog : Program} {w : World} {A : Around} {R : Result -> Shared -> Prop} {s : Shared} {pe p1 p2 q2 : Pos} {i1 : PySem.Expr} {scope : Scope} {pos : Pos} {cenv : Env}
theorem turn_in (it acc : Value) : compTurn (two pe p1 p2 q2 i1 scope pos) 1 it acc cenv = (standAt q2 >>= fun _ => pyNext it >>= fun r => match r with
     | none => pure (.done .next)
     | some v => letOwnedTupleGo (.Name "pair" p2) it v >>= fun _ => assign (.Name "pair" p2) cenv v >>= fun _ =>
       (eval (.Name "pair" pe) cenv >>= fun x => call (.builtin "list.append") [acc, x] >>= fun _ => pure ()) >>= fun _ =>
         again (.compLoop (two pe p1 p2 q2 i1 scope pos) 1 it acc cenv)) := by rfl
theorem turn_out (it acc : Value) : compTurn (two pe p1 p2 q2 i1 scope pos) 0 it acc cenv = (standAt i1.pos >>= fun _ => pyNext it >>= fun r => match r with
     | none => pure (.done .next)
     | some v => letOwnedTupleGo (.Name "pairs" p1) it v >>= fun _ => assign (.Name "pairs" p1) cenv v >>= fun _ =>
       (eval (.Name "pairs" q2) cenv >>= fun x => standAt q2 >>= fun _ => foldedSetIterable (.Name "pairs" q2) cenv x >>= fun x => holding [x] (pyIter x) >>= fun i => runOwn (.compStart (two pe p1 p2 q2 i1 scope pos) 1 i acc cenv) cenv >>= fun _ =>
         again (.compLoop (two pe p1 p2 q2 i1 scope pos) 0 it acc cenv))) := by rfl
theorem start_in {it acc : Value}
   (h0 : codeAny (model prog w) A (.compLoop (two pe p1 p2 q2 i1 scope pos) 1 it acc cenv) R s)
   (h : wpAny (model prog w) A (pyIter it) (fun it' s' => codeAny (model prog w) A (.compLoop (two pe p1 p2 q2 i1 scope pos) 1 it' acc cenv) R s') (fun _ _ => False) s) :
   codeAny (model prog w) A (.compStart (two pe p1 p2 q2 i1 scope pos) 1 it acc cenv) R s := by
 refine codeAny_of_tree ?_
 show wpAny _ _ ((compStart (two pe p1 p2 q2 i1 scope pos) 1 it acc cenv).onRaise (fun x => do noteFrame x cenv; standAt theWindowsPlace)) _ _ s
 refine wpAny_notedAt ?_
 unfold compStart
 show wpAny _ _ (ask >>= _) _ _ s
 refine wpAny_bind (wpAny_askSetting (wpAny_ite ?_))
 split
 · first
     | exact wpAny_bind (wpAny_pure (wpAny_pure (And.intro rfl h0)))
     | exact wpAny_pure (And.intro rfl h0)
 · refine wpAny_bind (wpAny_rule ?_)
   show wpAny _ _ (standAt q2 >>= _) _ _ s
   exact wpAny_bind (wpAny_standAt (wpAny_bind (wpAny_mono h (fun it' s' h' => wpAny_pure (And.intro rfl h')) fun _ _ x => x.elim)))
theorem loop_in {I D ax : Addr} {items acc : Array Value} {m : Str -> Option Value} (hh : A.handled = none) (hk : cenv.scope.kind = .function) (hx : cenv.kindOf "pair" = some .local)
   (hp : (cenv.scope.kind == .class || (cenv.scope.kind == .module && cenv.locals != cenv.globals)) = false)
   (hIC : I ≠ cenv.locals) (hID : I ≠ D) (hDC : D ≠ cenv.locals) (haI : ax ≠ I) (haD : ax ≠ D) (haC : ax ≠ cenv.locals)
   (hit : s.heap.IsListIter I ax 0) (hl : s.heap.IsList ax items) (hacc : s.heap.PlainList D acc) (hn : s.heap.Ns cenv.locals m) (hsz : acc.size + items.size <= sizeLine)
   (hR : ∀ h' tk m' ys, h'.Ns cenv.locals m' -> h'.PlainList D ys -> ys.toList = acc.toList ++ items.toList -> (∀ b o, b ≠ cenv.locals -> b ≠ I -> b ≠ D -> s.heap.get? b = some o -> h'.get? b = some o) -> R (.ok .next) { s with heap := h', toks := tk }) :
   codeAny (model prog w) A (.compLoop (two pe p1 p2 q2 i1 scope pos) 1 (.ref I) (.ref D) cenv) R s := by
 refine codeAny_loop rfl (fun k s' => ∀ Z : Prop, (∀ h' tk m' ys i, s' = { s with heap := h', toks := tk } -> h'.IsListIter I ax i -> h'.IsList ax items -> h'.PlainList D ys -> ys.toList = acc.toList ++ items.toList.take i -> h'.Ns cenv.locals m' -> i <= items.size -> k = items.size - i -> (∀ b o, b ≠ cenv.locals -> b ≠ I -> b ≠ D -> s.heap.get? b = some o -> h'.get? b = some o) -> Z) -> Z) ?_ items.size (fun Zq kq => kq s.heap s.toks m acc 0 rfl hit hl hacc (by simp) hn (Nat.zero_le _) rfl (fun _ _ _ _ _ e => e))
 intro k s' HIq
 refine HIq _ fun h' tk m' ys i hcq5 hit' hl' hacc' hys hn' hi hcq12 hk' => ?_
 subst hcq5
 subst hcq12
 show wpAny _ _ ((compTurn (two pe p1 p2 q2 i1 scope pos) 1 (.ref I) (.ref D) cenv).onRaise (fun x => do noteFrame x cenv; theTreesLotGoes x)) _ _ _
 refine wpAny_noted ?_
 rw [turn_in]
 refine wpAny_bind (wpAny_standAt (wpAny_bind ?_))
 cases hv : items[i]? with
 | none =>
   refine wpAny_pyNext_list_end hh hit' hl' hv fun h_1 he_1 => ?_
   refine wpAny_pure (hR h_1 tk m' ys (hn'.extBut he_1 (Ne.symm hIC)) (hacc'.at fun o e => he_1 D o (Ne.symm hID) e) ?_ fun b o hbC hbI hbD e => he_1 b o hbI (hk' b o hbC hbI hbD e))
   have : items.toList.length <= i := by simpa using hv
   rw [hys, List.take_of_length_le this]
 | some v =>
   have hlt : i < items.size := (Array.getElem?_eq_some_iff.mp hv).1
   refine wpAny_pyNext_list_item hit' hl' hv fun h_1 hit_1 hs_1 => ?_
   refine wpAny_bind (wpAny_of_eq (rfl : letOwnedTupleGo (.Name "pair" p2) (.ref I) v = pure ()) ?_)
   refine wpAny_bind (wpAny_assign_Name (wpAny_storeName_local hx (hn'.sameBut hs_1 (Ne.symm hIC)) (fun h_2 hn_2 hs_2 => ?_) hp))
   refine wpAny_bind (wpAny_bind (wpAny_Name (wpAny_loadName_local hk hx hn_2 (if_pos rfl) (wpAny_bind ?_))))
   have li_2 : h_2.PlainList D ys := (hacc'.at fun o e => hs_1.extBut D o (Ne.symm hID) e).at fun o e => hs_2.extBut D o hDC e
   have hzs : ys.size <= sizeLine := by
     have : ys.size = ys.toList.length := by simp
     rw [this, hys]; simp; omega
   refine wpAny_list_append_plain (hsz := hzs) li_2 fun h_3 li_3 hs_3 => ?_
   refine wpAny_pure (wpAny_pure ⟨rfl, items.size - (i + 1), by omega, fun Zq kq => kq h_3 _ _ _ (i + 1) rfl ?_ ?_ li_3 ?_ (hn_2.sameBut hs_3 (Ne.symm hDC)) hlt rfl fun b o hbC hbI hbD e => hs_3.extBut b o hbD (hs_2.extBut b o hbC (hs_1.extBut b o hbI (hk' b o hbC hbI hbD e)))⟩)
   · exact (hit_1.extBut hs_2.extBut hIC).extBut hs_3.extBut hID
   · exact ((hl'.extBut hs_1.extBut haI).extBut hs_2.extBut haC).extBut hs_3.extBut haD
   · rw [Array.toList_push, hys, List.take_add_one, List.append_assoc]
     congr 2
     rw [Array.getElem?_toList, hv]; rfl
theorem loop_out {I D ax : Addr} {items acc : Array Value} {its : Nat -> Array Value} {as : Nat -> Addr} {m : Str -> Option Value} (hh : A.handled = none) (hk : cenv.scope.kind = .function) (hx : cenv.kindOf "pair" = some .local) (hy : cenv.kindOf "pairs" = some .local)
   (hp : (cenv.scope.kind == .class || (cenv.scope.kind == .module && cenv.locals != cenv.globals)) = false)
   (hIC : I ≠ cenv.locals) (hID : I ≠ D) (hDC : D ≠ cenv.locals) (haI : ax ≠ I) (haD : ax ≠ D) (haC : ax ≠ cenv.locals)
   (hit : s.heap.IsListIter I ax 0) (hl : s.heap.IsList ax items) (hacc : s.heap.PlainList D acc) (hn : s.heap.Ns cenv.locals m)
   (hits : ∀ j, j < items.size -> items[j]? = some (.ref (as j)) /\ s.heap.IsList (as j) (its j) /\ as j ≠ I /\ as j ≠ D /\ as j ≠ cenv.locals) (hsz : acc.size + ((List.range items.size).flatMap fun j => (its j).toList).length <= sizeLine)
   (hR : ∀ h' tk m' ys, h'.Ns cenv.locals m' -> h'.PlainList D ys -> ys.toList = acc.toList ++ (List.range items.size).flatMap (fun j => (its j).toList) -> (∀ b o, b ≠ cenv.locals -> b ≠ I -> b ≠ D -> s.heap.get? b = some o -> h'.get? b = some o) -> R (.ok .next) { s with heap := h', toks := tk }) :
   codeAny (model prog w) A (.compLoop (two pe p1 p2 q2 i1 scope pos) 0 (.ref I) (.ref D) cenv) R s := by
 refine codeAny_loop rfl (fun k s' => ∀ Z : Prop, (∀ h' tk m' ys i, s' = { s with heap := h', toks := tk } -> h'.IsListIter I ax i -> h'.PlainList D ys -> ys.toList = acc.toList ++ (List.range i).flatMap (fun j => (its j).toList) -> h'.Ns cenv.locals m' -> i <= items.size -> k = items.size - i -> (∀ b o, b ≠ cenv.locals -> b ≠ I -> b ≠ D -> s.heap.get? b = some o -> h'.get? b = some o) -> Z) -> Z) ?_ items.size (fun Zq kq => kq s.heap s.toks m acc 0 rfl hit hacc (by simp) hn (Nat.zero_le _) rfl (fun _ _ _ _ _ e => e))
 intro k s' HIq
 refine HIq _ fun h' tk m' ys i hcq5 hit' hacc' hys hn' hi hcq11 hk' => ?_
 subst hcq5
 subst hcq11
 have hl' : h'.IsList ax items := hl.at fun o e => hk' ax o haC haI haD e
 show wpAny _ _ ((compTurn (two pe p1 p2 q2 i1 scope pos) 0 (.ref I) (.ref D) cenv).onRaise (fun x => do noteFrame x cenv; theTreesLotGoes x)) _ _ _
 refine wpAny_noted ?_
 rw [turn_out]
 refine wpAny_bind (wpAny_standAt (wpAny_bind ?_))
 rcases Nat.lt_or_eq_of_le hi with hlt | rfl
 · refine x0_5 (hits i hlt) fun hv hlj hjI hjD hjC => ?_
   refine wpAny_pyNext_list_item hit' hl' hv fun h_1 hit_1 hs_1 => ?_
   refine wpAny_bind (wpAny_of_eq (rfl : letOwnedTupleGo (.Name "pairs" p1) (.ref I) (.ref (as i)) = pure ()) ?_)
   refine wpAny_bind (wpAny_assign_Name (wpAny_storeName_local hy (hn'.sameBut hs_1 (Ne.symm hIC)) (fun h_2 hn_2 hs_2 => ?_) hp))
   refine wpAny_bind (wpAny_Name (wpAny_loadName_local hk hy hn_2 (if_pos rfl) (wpAny_bind (wpAny_standAt (wpAny_bind (wpAny_of_eq (rfl : foldedSetIterable (.Name "pairs" q2) cenv _ = pure _) ?_))))))
   have up_2 : ∀ b o, b ≠ cenv.locals -> b ≠ I -> h'.get? b = some o -> h_2.get? b = some o := fun b o hb hbI e => hs_2.extBut b o hb (hs_1.extBut b o hbI e)
   have lj_2 : h_2.IsList (as i) (its i) := (hlj.at fun o e => hk' _ o hjC hjI hjD e).at fun o e => up_2 _ o hjC hjI e
   refine wpAny_bind (wpAny_holding (wpAny_pyIter_list lj_2 ?_))
   have hszl : ∀ b o, s.heap.get? b = some o -> b ≠ cenv.locals -> b ≠ I -> b ≠ D -> b < h_2.objs.size := fun b o e h1 h2 h3 => Heap.lt_size (up_2 b o h1 h2 (hk' b o h1 h2 h3 e))
   have li_2 : h_2.PlainList D ys := (hacc'.at fun o e => hs_1.extBut D o (Ne.symm hID) e).at fun o e => hs_2.extBut D o hDC e
   have hD2 : D < h_2.objs.size := let ⟨_, e⟩ := li_2; Heap.lt_size e
   have hC2 : cenv.locals < h_2.objs.size := hn_2.lt
   have hI2 : I < h_2.objs.size := let ⟨_, e, _⟩ := hit_1.extBut hs_2.extBut hIC; Heap.lt_size e
   have ha2 : as i < h_2.objs.size := let ⟨_, e, _⟩ := lj_2; Heap.lt_size e
   have hsz' : ys.size + (its i).size <= sizeLine := by
     have h1 : ys.size = ys.toList.length := by simp
     have h2 := flat_le (f := fun j => (its j).toList) (show i + 1 <= items.size from hlt)
     rw [List.range_succ, List.flatMap_append, List.length_append] at h2
     rw [h1, hys, List.length_append]
     simp at h2 hsz ⊢
     omega
   refine wpAny_bind ?_
   have inner : ∀ (it2 : Addr) (s_3 : Shared) (h_3 : Heap) (R' : Result -> Shared -> Prop), s_3 = { s with heap := h_3, toks := tk + 1 } -> h_3.IsListIter it2 (as i) 0 -> h_2.objs.size <= it2 -> (∀ b o, h_2.get? b = some o -> h_3.get? b = some o) ->
       (∀ h_4 tk_4 m_4 ys_4, h_4.Ns cenv.locals m_4 -> h_4.PlainList D ys_4 -> ys_4.toList = ys.toList ++ (its i).toList -> (∀ b o, b ≠ cenv.locals -> b ≠ D -> h_2.get? b = some o -> h_4.get? b = some o) -> R' (.ok .next) { s with heap := h_4, toks := tk_4 }) ->
       codeAny (model prog w) (A.under (.compLoop (two pe p1 p2 q2 i1 scope pos) 0 (.ref I) (.ref D) cenv)) (.compLoop (two pe p1 p2 q2 i1 scope pos) 1 (.ref it2) (.ref D) cenv) R' s_3 := by
     rintro it2 s_3 h_3 R' rfl hit2 hge up_3 hR'
     refine loop_in (ax := as i) (items := its i) (acc := ys) hh hk hx hp ?_ ?_ hDC ?_ hjD hjC hit2 (lj_2.at fun o e => up_3 _ o e) (li_2.at fun o e => up_3 _ o e) (hn_2.keeps up_3) hsz' fun h_4 tk_4 m_4 ys_4 hn_4 li_4 hys_4 hk_4 => ?_
     · exact Nat.ne_of_gt (Nat.lt_of_lt_of_le hC2 hge)
     · exact Nat.ne_of_gt (Nat.lt_of_lt_of_le hD2 hge)
     · exact Nat.ne_of_lt (Nat.lt_of_lt_of_le ha2 hge)
     · exact hR' h_4 tk_4 m_4 ys_4 hn_4 li_4 hys_4 fun b o h1 h2 e => hk_4 b o h1 (Nat.ne_of_lt (Nat.lt_of_lt_of_le (Heap.lt_size e) hge)) h2 (up_3 b o e)
   refine wpAny_runOwn ?_
   suffices fin : codeAny (model prog w) _ (.compLoop (two pe p1 p2 q2 i1 scope pos) 1 (.ref h_2.objs.size) (.ref D) cenv) _ _ from start_in fin (wpAny_pyIter_listiter ⟨_, Heap.get?_push_size _ rfl, rfl, rfl⟩ fin)
   refine inner _ _ _ _ rfl ⟨_, Heap.get?_push_size _ rfl, rfl, rfl⟩ (Nat.le_refl _) (fun b o e => Heap.get?_push_of_some _ e) fun h_4 tk_4 m_4 ys_4 hn_4 li_4 hys_4 hk_4 => ?_
   refine wpAny_pure ⟨rfl, items.size - (i + 1), by omega, fun Zq kq => kq h_4 tk_4 m_4 ys_4 (i + 1) rfl ?_ li_4 ?_ hn_4 hlt rfl (fun b o h1 h2 h3 e => hk_4 b o h1 h3 (up_2 b o h1 h2 (hk' b o h1 h2 h3 e)))⟩
   · refine x1_2 (hit_1.extBut hs_2.extBut hIC) fun o e r => ?_
     exact i1_2 o (hk_4 _ o hIC hID e) r
   · rw [hys_4, hys, List.range_succ, List.flatMap_append, List.append_assoc]
     simp
 · refine wpAny_pyNext_list_end hh hit' hl' (by simp) fun h_1 he_1 => ?_
   exact wpAny_pure (hR h_1 tk m' ys (hn'.extBut he_1 (Ne.symm hIC)) (hacc'.at fun o e => he_1 D o (Ne.symm hID) e) hys fun b o hbC hbI hbD e => he_1 b o hbI (hk' b o hbC hbI hbD e))
theorem eval_two {env : Env} {Q : Value -> Shared -> Prop} {E : Value -> Shared -> Prop} (hh : A.handled = none) (hcell : ∀ y ∈ scope.names, y.2 ≠ .cell) (hfree : ∀ x ∈ scope.names, x.2 ≠ .free) (hkind : scope.kind = .function)
   (hnames : ∀ x ∈ scope.names, x.2 = .local -> scope.names.lookup x.1 = some .local) (hx : scope.names.lookup ("pair" : PySem.Str) = some .local) (hy : scope.names.lookup ("pairs" : PySem.Str) = some .local)
   (h : wpAny (model prog w) A (eval i1 env) (fun xv s₁ => Stop (∃ (dl : Addr) (rv : Array Value) (as : Nat -> Addr) (its : Nat -> Array Value), xv = .ref dl /\ s₁.heap.IsList dl rv /\
     (∀ j, j < rv.size -> rv[j]? = some (.ref (as j)) /\ s₁.heap.IsList (as j) (its j)) /\ ((List.range rv.size).flatMap fun j => (its j).toList).length <= sizeLine /\
     ∀ D h' tk n, s₁.heap.objs.size <= D -> h'.get? D = some (PySem.W.listOf ((List.range rv.size).flatMap fun j => (its j).toList).toArray n) -> (∀ b o, s₁.heap.get? b = some o -> h'.get? b = some o) -> Q (.ref D) { s₁ with heap := h', toks := tk })) E s)
   (hs : ∀ x, foldedSetIterable i1 env x = pure x := by intro _; rfl) :
   wpAny (model prog w) A (eval (two pe p1 p2 q2 i1 scope pos) env) Q E s := by
 refine wpAny_ListComp hfree hkind hnames (wpAny_mono h (fun xv s₁ h_1 => ?_) fun _ _ x => x) hs
 refine x4_5 (h_1) fun dl rv as its hcz4 hl hits hsz hQ => ?_
 try clear h_1
 cases hcz4
 refine wpAny_pyIter_list hl ?_
 refine wpAny_newList ?_
 refine wpAny_newFunctionEnv hcell (by intro y hy; simp at hy) (fun h_3 hn_3 hs_3 => ?_) hkind
 dsimp only at hn_3 hs_3 ⊢
 generalize hI : s₁.heap.objs.size = I
 generalize hh1 : s₁.heap.push { cls := .type "list_iterator", data := .fields #[.ref dl, .int 0 0] } = H1 at hn_3 hs_3 ⊢
 have eD : H1.objs.size = I + 1 := by rw [<- hh1, Heap.size_push, hI]
 generalize hh2 : H1.push { cls := .type "list", data := .seq ([] : List Value).toArray } = H2 at hn_3 hs_3 ⊢
 have eC : H2.objs.size = I + 2 := by rw [<- hh2, Heap.size_push, eD]
 have below : ∀ b o, s₁.heap.get? b = some o -> b < I := fun b o e => hI ▸ Heap.lt_size e
 have nC : ∀ b, b <= I + 1 -> b ≠ H2.objs.size := fun b hb z => by rw [eC] at z; subst z; exact absurd hb (by omega)
 have up_2 : ∀ b o, s₁.heap.get? b = some o -> H2.get? b = some o := fun b o e => hh2 ▸ Heap.get?_push_of_some _ (hh1 ▸ Heap.get?_push_of_some _ e)
 have up_3 : ∀ b o, H2.get? b = some o -> b <= I + 1 -> h_3.get? b = some o := fun b o e hb => hs_3.extBut b o (nC b hb) (Heap.get?_push_of_some _ e)
 have keep_3 : ∀ b o, s₁.heap.get? b = some o -> h_3.get? b = some o := fun b o e => up_3 b o (up_2 b o e) (Nat.le_succ_of_le (Nat.le_of_lt (below b o e)))
 have oI : h_3.get? I = some { cls := .type "list_iterator", data := .fields #[.ref dl, .int 0 0] } := up_3 I _ (hh2 ▸ Heap.get?_push_of_some _ (hh1 ▸ hI ▸ Heap.get?_push_size _ rfl)) (Nat.le_succ _)
 have oD : h_3.get? (I + 1) = some { cls := .type "list", data := .seq ([] : List Value).toArray } := up_3 (I + 1) _ (hh2 ▸ eD ▸ Heap.get?_push_size _ rfl) (Nat.le_refl _)
 have ne1 : I ≠ H2.objs.size := nC I (Nat.le_succ _)
 have ne2 : I ≠ I + 1 := Nat.ne_of_lt (Nat.lt_succ_self _)
 have ne3 : I + 1 ≠ H2.objs.size := nC _ (Nat.le_refl _)
 have bl : ∀ b o, s₁.heap.get? b = some o -> b ≠ I /\ b ≠ I + 1 /\ b ≠ H2.objs.size := fun b o e =>
   ⟨Nat.ne_of_lt (below b o e), Nat.ne_of_lt (Nat.lt_succ_of_lt (below b o e)), nC b (Nat.le_succ_of_le (Nat.le_of_lt (below b o e)))⟩
 rw [eD]
 suffices fin : codeAny (model prog w) A (.compLoop (two pe p1 p2 q2 i1 scope pos) 0 (.ref I) (.ref (I + 1)) _) _ _ from codeAny_compStart_list fin (wpAny_pyIter_listiter (i := 0) ⟨_, oI, rfl, rfl⟩ fin)
 obtain ⟨odl, edl, _⟩ := id hl
 refine loop_out (items := rv) (acc := #[]) (its := its) (as := as) (ax := dl) hh hkind hx hy ?_ ne1 ne2 ne3 (bl _ _ edl).1 (bl _ _ edl).2.1 (bl _ _ edl).2.2 ⟨_, oI, rfl, rfl⟩ (hl.at fun o e => keep_3 _ o e) ⟨_, oD⟩ hn_3 (fun j hj => ?_) ?_ ?_
 · show (scope.kind == .class || (scope.kind == .module && _)) = false
   rw [hkind]; rfl
 · refine x0_2 (hits j hj) fun h1 h2 => ?_
   obtain ⟨oj, ej, _⟩ := id h2
   exact i0_3 h1 (h2.at fun o e => keep_3 _ o e) (bl _ _ ej)
 · simpa using hsz
 · intro h' tk m' ys hn' hys hyl hk'
   refine x1_1 (hys) fun n e => ?_
   try clear hys
   refine i1_2 m' hn' (fun h'' hs'' => hQ (I + 1) h'' tk n ?_ ?_ fun b o e => hs''.extBut b o (bl b o e).2.2 (hk' b o (bl b o e).2.2 (bl b o e).1 (bl b o e).2.1 (keep_3 b o e)))
   · rw [hI]; exact Nat.le_succ _
   · rw [hs''.extBut _ _ ne3 e]
     have : ys = ((List.range rv.size).flatMap fun j => (its j).toList).toArray := by
       apply Array.toList_inj.mp
       rw [hyl]; simp
     rw [this]
end
end Mine
end
section
namespace Mine
section
variable {w : World} {s : Shared} {R : Result -> Shared -> Prop}
theorem c_walk {dec : Nat} {its : Array Value} {as : Nat -> Addr} {vals : Nat -> Array Value} (T : TopRead p loose mg mb s.heap) (X : (Mine.mk.heap_1 w.params).In s.heap)
  (hl : s.heap.IsList dec its) (hv : ∀ j, j < its.size -> its[j]? = some (.ref (as j)) /\ s.heap.IsList (as j) (vals j)) (hz : its.size <= 100) (hsz : ((List.range its.size).flatMap fun j => (vals (its.size - 1 - j)).toList).length <= sizeLine)
  (hR : ∀ s' (r : Nat) n, Kp s s' -> s.heap.objs.size <= r -> s'.heap.get? r = some (listOf ((List.range its.size).flatMap fun j => (vals (its.size - 1 - j)).toList).toArray n) -> R (.ok (.ret (.ref r))) s') :
  codeAny (model Challenge.rw_kl0462_01.prog w) (AL 0) (.call (.ref 211) ⟨[.ref dec], []⟩) R s := by
 revert X
 k_fill
 intro X
 refine callF X T.nolimit (by k_is) (by k_is) (by decide) (binds := [("stack", .ref dec)]) (BindsTo.of_eq rfl) (locs rfl) ?_
 intro L h_1 F eL
 have N : News s.heap L h_1 [] := News.nil
 refine wpAny_execs_cons (wpAny_Return_some ?_)
 refine eval_two rfl (by decide) (by decide) rfl (by decide) rfl rfl ?_
 k_steps
 unfold Stop
 rename Fr s.heap L _ _ => F_2
 rename News _ _ _ [_] => N_2
 obtain ⟨hD, _, hDn⟩ := N_2 _ List.mem_cons_self
 dsimp only at hD hDn
 rw [krv_pick] at hD
 have hz2 : its.toList.reverse.toArray.size = its.size := by simp
 refine i4_5 _ _ (fun j => as (its.size - 1 - j)) (fun j => vals (its.size - 1 - j)) rfl ⟨_, hD, rfl, _, rfl⟩ (fun j hj => ?_) ?_ (fun D h' tk n hn hD' hk => ?_)
 · rw [hz2] at hj
   refine x0_2 (hv (its.size - 1 - j) (by omega)) fun h1 h2 => ?_
   refine ⟨?_, h2.at fun o e => F_2.keep _ o e⟩
   rw [List.getElem?_toArray, List.getElem?_reverse (by simpa using hj), Array.length_toList, Array.getElem?_toList]
   exact h1
 · rw [hz2]; exact hsz
 · rw [hz2] at hD'
   refine hR _ D n ⟨fun b o e => hk b o (F_2.keep b o e), rfl, id⟩ ?_ hD'
   exact Nat.le_trans (Nat.le_of_lt (Nat.lt_of_le_of_lt F_2.above F_2.ns.lt)) hn
end
end Mine
end
section
namespace Mine
noncomputable abbrev wEs (P : Params) (t : Nat -> Tok) (bm data decl ns pmap pres : Nat) (root done : Bool) : List DictEntry :=
 [⟨PyData.keyHash P "_write", .str "_write" (t 0), .ref bm⟩, ⟨PyData.keyHash P "_data", .str "_data" (t 1), .ref data⟩,
  ⟨PyData.keyHash P "_with_comments", .str "_with_comments" (t 2), .bool false⟩, ⟨PyData.keyHash P "_strip_text", .str "_strip_text" (t 3), .bool false⟩,
  ⟨PyData.keyHash P "_exclude_attrs", .str "_exclude_attrs" (t 4), .none⟩, ⟨PyData.keyHash P "_exclude_tags", .str "_exclude_tags" (t 5), .none⟩,
  ⟨PyData.keyHash P "_rewrite_prefixes", .str "_rewrite_prefixes" (t 6), .bool false⟩, ⟨PyData.keyHash P "_qname_aware_tags", .str "_qname_aware_tags" (t 7), .none⟩,
  ⟨PyData.keyHash P "_find_qname_aware_attrs", .str "_find_qname_aware_attrs" (t 8), .none⟩, ⟨PyData.keyHash P "_declared_ns_stack", .str "_declared_ns_stack" (t 9), .ref decl⟩,
  ⟨PyData.keyHash P "_ns_stack", .str "_ns_stack" (t 10), .ref ns⟩, ⟨PyData.keyHash P "_prefix_map", .str "_prefix_map" (t 11), .ref pmap⟩,
  ⟨PyData.keyHash P "_preserve_space", .str "_preserve_space" (t 12), .ref pres⟩, ⟨PyData.keyHash P "_pending_start", .str "_pending_start" (t 13), .none⟩,
  ⟨PyData.keyHash P "_root_seen", .str "_root_seen" (t 14), .bool root⟩, ⟨PyData.keyHash P "_root_done", .str "_root_done" (t 15), .bool done⟩,
  ⟨PyData.keyHash P "_ignored_depth", .str "_ignored_depth" (t 16), .int 0 (t 17)⟩, ⟨PyData.keyHash P "_iter_namespaces", .str "_iter_namespaces" (t 18), .ref 211⟩]
section
variable {w : World} {g : Heap} {s : Shared} {x dx bm data decl ns pmap pres : Nat} {t : Nat -> Tok} {root done : Bool} {R : Result -> Shared -> Prop}
theorem c_data {ds : Array Value} {n : Nat} {v : Str} {tv : Tok} (T : TopRead p loose mg mb g) (X : (Mine.mk.heap_1 w.params).In g) (l0 : dx ≠ x) (l1 : data ≠ x) (l2 : data ≠ dx) (hz : ds.size <= 100)
  (W : WH g s [(x, instObj 188 dx), (dx, dictOf (wEs w.params t bm data decl ns pmap pres root done) 18), (data, listOf ds n)])
  (hR : ∀ s' n', WP g s s' [(x, instObj 188 dx), (dx, dictOf (wEs w.params t bm data decl ns pmap pres root done) 18), (data, listOf (ds.push (.str v tv)) n')] -> R (.ok (.ret .none)) s') :
  codeAny (model Challenge.rw_kl0462_01.prog w) (AL 3) (.call (.ref 135) ⟨[.ref x, .str v tv], []⟩) R s := by
 revert X
 k_fill
 intro X
 refine' callW (binds := [("self", .ref x), ("data", .str v tv)]) W X T.nolimit ?ho ?hcd (by decide) ?bi ?lo ?_ ?c1 ?c2 ?c3 ?c4
 case ho => k_is
 case hcd => k_is
 case bi => exact BindsTo.of_eq rfl
 case lo => exact locs rfl
 case c1 => rfl
 case c2 => rfl
 case c3 => rfl
 case c4 => decide
 intro L h_1 F N eL up
 k_steps
 exact hR _ _ (WP.of (by k_asm) (by k_asm))
end
end Mine
end
section
namespace Mine
section
variable {prog : Program} {w : World} {A : Around} {E : Value -> Shared -> Prop} {s : Shared} {K : Frag} {x C : Addr} {ox od : Obj} {name : Str} {pl : Sem Bool} {Q : Value × List Value -> Shared -> Prop}
theorem findObj_shadow {a g v : Value} (hh : hasDictIn K C = true) (ha : findIn K (.ref C) name = some (some a)) (hg : specialIn K a "__get__" = some (some g)) (ht : takesIn K a = some false) (hl : lookIn name od = some (some v)) :
   findObj K C (some od) name = some (.value v) := by
 refine x1_2 (any_some hh) fun cd hc hd => ?_
 have ho : PySem.W.ownOf cd (some od) name = some (some v) := by unfold PySem.W.ownOf; rw [if_pos hd]; exact hl
 unfold findObj
 rw [hc, Option.bind_some, ha, Option.bind_some]
 simp [hg, ht, ho]
theorem method_shadow {a g v : Value} (X : K.In s.heap) (I : InstAt s.heap x ox C (some od)) (hga : findIn K (.ref C) "__getattribute__" = some (some (.builtin "object.__getattribute__"))) (hk : findIn K (.ref C) "__getattr__" = some none)
   (hf : findIn K (.ref C) name = some (some a)) (hty : typeIn K a = some (.type "function")) (hh : hasDictIn K C = true) (hg : specialIn K a "__get__" = some (some g)) (ht : takesIn K a = some false)
   (hl : lookIn name od = some (some v)) (hv : handedIn v = true) (h : Q (v, []) { s with toks := s.toks + 1 }) :
   wpAny (model prog w) A (getMethod (.ref x) name pl) Q E s := by
 have hcan := PySem.F.canon_object_ga
 unfold getMethod specialOf
 refine wpAny_bind (wpAny_bind (I.type.here ((looks_findIn X hga).here ?_)))
 dsimp only
 rw [hcan, if_neg (by decide)]
 refine wpAny_bind (wpAny_bind (I.type.here ((looks_findIn X hk).here ?_)))
 refine wpAny_bind (wpAny_bind (I.type.here ((looks_findIn X hf).here (wpAny_bind ((looks_typeIn X hty).here ?_)))))
 rw [if_neg (by decide +kernel)]
 refine wpAny_bind (wpAny_loadPart I.at_ ?_)
 have hd := I.dict
 cases e : ox.dict with
 | none => rw [e] at hd; exact hd.elim
 | some dx =>
   rw [e] at hd
   refine wpAny_bind (wpAny_bind (wpAny_loadPart hd ?_))
   rw [nsLook_of hl]
   refine wpAny_pure ?_
   exact wpAny_bind (get_value X I hga (findObj_shadow hh hf hg ht hl) hv (wpAny_pure h))
end
end Mine
end
section
namespace Mine
theorem news_keep {g : Heap} {L : Addr} {h h' : Heap} {news : List (Addr × Obj)} (N : News g L h news) (k : ∀ b o, h.get? b = some o -> h'.get? b = some o) : News g L h' news :=
 fun q hq => ⟨k _ _ (N q hq).1, (N q hq).2⟩
theorem news_add {g : Heap} {L : Addr} {m : Str -> Option Value} {h h' : Heap} {r : Addr} {o : Obj} {news : List (Addr × Obj)} (F : Fr g L h m) (N : News g L h news) (k : ∀ b o, h.get? b = some o -> h'.get? b = some o)
   (hge : h.objs.size <= r) (hr : h'.get? r = some o) : News g L h' ((r, o) :: news) := fun q hq => by
 have hn : h.get? r = none := Heap.get?_none_of_le hge
 rcases List.mem_cons.mp hq with rfl | hq
 · refine i0_3 hr (fun e => ?_) ?_
   · obtain ⟨oL, _, _, hL, _⟩ := F.ns
     rw [show r = L from e, hL] at hn; cases hn
   · cases q : g.get? r with
     | none => rfl
     | some o' => rw [F.keep _ _ q] at hn; cases hn
 · exact ⟨k _ _ (N q hq).1, (N q hq).2⟩
theorem news_ne {g : Heap} {L : Addr} {h : Heap} {r : Addr} {news : List (Addr × Obj)} (N : News g L h news) (hge : h.objs.size <= r) : ∀ q ∈ news, q.1 < r := fun q hq => Nat.lt_of_lt_of_le (Heap.lt_size (N q hq).1) hge
theorem news_lt {g : Heap} {L : Addr} {h : Heap} {news : List (Addr × Obj)} (N : News g L h news) : ∀ q ∈ news, q.1 < h.objs.size := fun q hq => Heap.lt_size (N q hq).1
theorem news_turn {g : Heap} {L : Addr} {m : Str -> Option Value} {h h' : Heap} {it : Addr} {o o' : Obj} {news : List (Addr × Obj)} (F : Fr g L h m) (N : News g L h ((it, o) :: news)) (hs : Heap.SameBut it h h') (ho : h'.get? it = some o') (hl : ∀ q ∈ news, q.1 < it) :
   Fr g L h' m /\ News g L h' ((it, o') :: news) := by
 have z := N _ List.mem_cons_self
 refine ⟨⟨F.ns.sameBut hs (Ne.symm z.2.1), fun b o e => hs.extBut b o (fun q => by rw [q, z.2.2] at e; cases e) (F.keep b o e), F.above⟩, fun q hq => ?_⟩
 rcases List.mem_cons.mp hq with rfl | hq
 · exact ⟨ho, z.2⟩
 · have y := N q (List.mem_cons_of_mem _ hq)
   exact ⟨hs.extBut _ _ (Nat.ne_of_lt (hl q hq)) y.1, y.2⟩
theorem news_drop {g : Heap} {L : Addr} {m : Str -> Option Value} {h h' : Heap} {it : Addr} {o : Obj} {news : List (Addr × Obj)} (F : Fr g L h m) (N : News g L h ((it, o) :: news)) (hs : Heap.ExtBut it h h') (hl : ∀ q ∈ news, q.1 ≠ it) :
   Fr g L h' m /\ News g L h' news := by
 have z := N _ List.mem_cons_self
 refine ⟨⟨F.ns.extBut hs (Ne.symm z.2.1), fun b o e => hs b o (fun q => by rw [q, z.2.2] at e; cases e) (F.keep b o e), F.above⟩, fun q hq => ?_⟩
 have y := N q (List.mem_cons_of_mem _ hq)
 exact ⟨hs _ _ (hl q hq) y.1, y.2⟩
theorem forOne {prog : Program} {w : World} {A : Around} {env : Env} {target : Expr} {it : Value} {body : List Stmt} {Q : Flow -> Shared -> Prop} {E' : Value -> Shared -> Prop} {s : Shared}
   (h : wpAny (model prog w) A (pyNext it) (fun r s₁ => ∃ v, r = some v /\ wpAny (model prog w) A (letOwnedTupleGo target it v) (fun _ s_2 => wpAny (model prog w) A (assign target env v) (fun _ s_3 =>
     wpAny (model prog w) A (execs body env) (fun f s_4 => match f with
       | .next | .cont => Stop (wpAny (model prog w) A (pyNext it) (fun r s' => r = none /\ Q .next s') NF s_4)
       | .brk => Q .next s_4 | .ret v => Q (.ret v) s_4) NF s_3) NF s_2) NF s₁) NF s) :
   codeAny (model prog w) A (.forLoop target it body [] env) (fun r s' => match r with | .ok f => Q f s' | .error e => E' e s') s :=
 forI 1 (fun i s => match i with
   | 0 => wpAny (model prog w) A (pyNext it) (fun r s₁ => ∃ v, r = some v /\ wpAny (model prog w) A (letOwnedTupleGo target it v) (fun _ s_2 => wpAny (model prog w) A (assign target env v) (fun _ s_3 =>
     wpAny (model prog w) A (execs body env) (fun f s_4 => match f with
       | .next | .cont => Stop (wpAny (model prog w) A (pyNext it) (fun r s' => r = none /\ Q .next s') NF s_4)
       | .brk => Q .next s_4 | .ret v => Q (.ret v) s_4) NF s_3) NF s_2) NF s₁) NF s
   | _ => wpAny (model prog w) A (pyNext it) (fun r s' => r = none /\ Q .next s') NF s)
   (fun i s hi hI => by
     have e : i = 0 := by omega
     subst e
     exact hI) (fun s hI => hI) 0 (by omega) s h
noncomputable abbrev pairObj (t1 t2 : Tok) : Obj := { cls := .type "tuple", data := .seq #[.str "http://www.w3.org/XML/1998/namespace" t1, .str "xml" t2] }
noncomputable abbrev nameObj (v : Str) (t1 t2 t3 : Tok) : Obj := { cls := .type "tuple", data := .seq #[.str v t1, .str v t2, .str "" t3] }
section
local macro_rules | `(tactic| walk_at "getMethod ref") => mGo "h ; show wpAny _ _ ( getMethod ( Value.ref _ ) ( Str.ofString \"_iter_namespaces ) _ ) _ _ _ ; ref method_shadow a:=#113 v:=#211 ?X ?I ?g1 ?g2 ?g3 ?g4 ?g5 ?g6 ?g7 ?g8 rfl ?_ | X:i I:I g1:s g2:s g3:s g4:s g5:s g6:s g7:s g8:r"
variable {w : World} {g : Heap} {s : Shared} {x dx bm data decl ns pmap pres t0 : Nat} {t : Nat -> Tok} {root done : Bool} {R : Result -> Shared -> Prop}
namespace c_qnameH
noncomputable def Stm (pC : Program) (looseC : List Str) (mgC mbC : Str -> Option Value) (wC : World) (gC : Heap) (sC : Shared) (xC dxC bmC dataC declC nsC pmapC presC t0C : Nat) (tC : Nat -> Tok) (rootC doneC : Bool) (RC : Result -> Shared -> Prop) (its : Array Value) (nd : Nat) (as : Nat -> Addr) (vals : Nat -> Array Value) (t1 t2 tv : Tok) : Prop := ∀  (T : TopRead pC looseC mgC mbC gC) (X : (Mine.mk.heap_1 wC.params).In gC) (W : WH gC sC [(xC, instObj 188 dxC), (dxC, dictOf (wEs wC.params tC bmC dataC declC nsC pmapC presC rootC doneC) 18), (declC, listOf its nd), (t0C, pairObj t1 t2)]) (hv : ∀ j, j < its.size -> its[j]? = some (.ref (as j)) /\ gC.IsList (as j) (vals j)) (hz : its.size <= 100) (hfl : ((List.range its.size).flatMap fun j => (vals (its.size - 1 - j)).toList) = [.ref t0C]) (hR : ∀ s' (r : Nat) u1 u2 u3, WP gC sC s' [(r, nameObj "t" u1 u2 u3), (xC, instObj 188 dxC), (dxC, dictOf (wEs wC.params tC bmC dataC declC nsC pmapC presC rootC doneC) 18), (declC, listOf its nd), (t0C, pairObj t1 t2)] -> xC < r /\ dxC < r /\ declC < r /\ t0C < r -> RC (.ok (.ret (.ref r))) s'), codeAny (model Challenge.rw_kl0462_01.prog wC) (AL 1) (.call (.ref 128) ⟨[.ref xC, .str "t" tv], []⟩) RC sC
noncomputable def cx (v : ((((Program × (List Str)) × ((Str -> Option Value) × (Str -> Option Value))) × ((World × Heap) × Shared)) × (((Nat × Nat) × (Nat × Nat)) × ((Nat × Nat) × Nat))) × ((((Nat × Nat) × ((Nat -> Tok) × Bool)) × ((Bool × (Result -> Shared -> Prop)) × (Array Value))) × (((Nat × (Nat -> Addr)) × (Nat -> Array Value)) × ((Tok × Tok) × Tok)))) : Prop := Stm v.1.1.1.1.1 v.1.1.1.1.2 v.1.1.1.2.1 v.1.1.1.2.2 v.1.1.2.1.1 v.1.1.2.1.2 v.1.1.2.2 v.1.2.1.1.1 v.1.2.1.1.2 v.1.2.1.2.1 v.1.2.1.2.2 v.1.2.2.1.1 v.1.2.2.1.2 v.1.2.2.2 v.2.1.1.1.1 v.2.1.1.1.2 v.2.1.1.2.1 v.2.1.1.2.2 v.2.1.2.1.1 v.2.1.2.1.2 v.2.1.2.2 v.2.2.1.1.1 v.2.2.1.1.2 v.2.2.1.2 v.2.2.2.1.1 v.2.2.2.1.2 v.2.2.2.2
noncomputable section
def tup := Mine.pk (by walk_at "ne") cx
@[irreducible]def pC:=tup.1.1.1.1.1
@[irreducible]def looseC:=tup.1.1.1.1.2
@[irreducible]def mgC:=tup.1.1.1.2.1
@[irreducible]def mbC:=tup.1.1.1.2.2
@[irreducible]def wC:=tup.1.1.2.1.1
@[irreducible]def gC:=tup.1.1.2.1.2
@[irreducible]def sC:=tup.1.1.2.2
@[irreducible]def xC:=tup.1.2.1.1.1
@[irreducible]def dxC:=tup.1.2.1.1.2
@[irreducible]def bmC:=tup.1.2.1.2.1
@[irreducible]def dataC:=tup.1.2.1.2.2
@[irreducible]def declC:=tup.1.2.2.1.1
@[irreducible]def nsC:=tup.1.2.2.1.2
@[irreducible]def pmapC:=tup.1.2.2.2
@[irreducible]def presC:=tup.2.1.1.1.1
@[irreducible]def t0C:=tup.2.1.1.1.2
@[irreducible]def tC:=tup.2.1.1.2.1
@[irreducible]def rootC:=tup.2.1.1.2.2
@[irreducible]def doneC:=tup.2.1.2.1.1
@[irreducible]def RC:=tup.2.1.2.1.2
@[irreducible]def its:=tup.2.1.2.2
@[irreducible]def nd:=tup.2.2.1.1.1
@[irreducible]def as:=tup.2.2.1.1.2
@[irreducible]def vals:=tup.2.2.1.2
@[irreducible]def t1:=tup.2.2.2.1.1
@[irreducible]def t2:=tup.2.2.2.1.2
@[irreducible]def tv:=tup.2.2.2.2
end
noncomputable def P1 : {PQ : Addr -> Heap -> Nat -> Heap -> Tok -> Nat -> Addr -> Heap -> Heap -> Heap -> Heap -> Nat -> Addr -> Heap -> Bool -> Heap -> Prop // Hold (∀ a0 a1 a2 a3 a4 a5 a6 a7 a8 a9 a10 a11 a12 a13 a14 a15, PQ a0 a1 a2 a3 a4 a5 a6 a7 a8 a9 a10 a11 a12 a13 a14 a15) -> Stm pC looseC mgC mbC wC gC sC xC dxC bmC dataC declC nsC pmapC presC t0C tC rootC doneC RC its nd as vals t1 t2 tv} := ⟨_, by
 intro hPk
 intro T X W hv hz hfl hR
 have kS1 : Key "exec For" := trivial
 have kS2 : Key "call ref" := trivial
 revert X
 k_fill
 intro X
 refine' callW (binds := [("self", .ref xC), ("qname", .str "t" tv), ("uri", .none)]) W X T.nolimit ?ho ?hcd (by decide) ?bi ?lo ?_ ?c1 ?c2 ?c3 ?c4
 case ho => k_is
 case hcd => k_is
 case bi => exact binds_K (X.keeps W.keep) rfl (by k_is) rfl rfl rfl
 case lo => exact locs rfl
 case c1 => rfl
 case c2 => rfl
 case c3 => rfl
 case c4 => decide
 intro L h_1 F N eL up
 k_steps
 refine wpAny_For ?_
 k_steps
 rename Fr gC L _ _ => F_1
 rename News gC L _ _ => N_1
 show wpAny _ _ _ _ _ _
 rename_i zi1 zi2 zi3 zi4 zi5 zi6 zi7 zi8 zi9 zi10 zi11 zi12 zi13 zi14 zi15 zi16 zi17 zi18
 repeat (rename (_ : Prop) => hZ; revert hZ)
 intro hPk
 apply hPk.out L h_1 zi1 zi2 zi3 zi4 zi6 zi7 zi9 zi10 zi11 tk zi12 zi13 zi14 zi18
 ⟩
noncomputable def cx1 (v : (((Addr × Heap) × (Nat × Heap)) × ((Tok × Nat) × (Addr × Heap))) × (((Heap × Heap) × (Heap × Nat)) × ((Addr × Heap) × (Bool × Heap)))) : Prop := P1.1 v.1.1.1.1 v.1.1.1.2 v.1.1.2.1 v.1.1.2.2 v.1.2.1.1 v.1.2.1.2 v.1.2.2.1 v.1.2.2.2 v.2.1.1.1 v.2.1.1.2 v.2.1.2.1 v.2.1.2.2 v.2.2.1.1 v.2.2.1.2 v.2.2.2.1 v.2.2.2.2
noncomputable section
def tup1 := Mine.pk (by walk_at "ne") cx1
@[irreducible]def L:=tup1.1.1.1.1
@[irreducible]def h_1:=tup1.1.1.1.2
@[irreducible]def zi1:=tup1.1.1.2.1
@[irreducible]def zi2:=tup1.1.1.2.2
@[irreducible]def zi3:=tup1.1.2.1.1
@[irreducible]def zi4:=tup1.1.2.1.2
@[irreducible]def zi6:=tup1.1.2.2.1
@[irreducible]def zi7:=tup1.1.2.2.2
@[irreducible]def zi9:=tup1.2.1.1.1
@[irreducible]def zi10:=tup1.2.1.1.2
@[irreducible]def zi11:=tup1.2.1.2.1
@[irreducible]def tk:=tup1.2.1.2.2
@[irreducible]def zi12:=tup1.2.2.1.1
@[irreducible]def zi13:=tup1.2.2.1.2
@[irreducible]def zi14:=tup1.2.2.2.1
@[irreducible]def zi18:=tup1.2.2.2.2
end
noncomputable def P2 : {PQ : Shared -> Nat -> Nat -> Heap -> Nat -> Prop // Hold (∀ a0 a1 a2 a3 a4, PQ a0 a1 a2 a3 a4) -> P1.1 L h_1 zi1 zi2 zi3 zi4 zi6 zi7 zi9 zi10 zi11 tk zi12 zi13 zi14 zi18} := ⟨_, by
 intro hPk
 intro T W hv hz hfl hR kS1 kS2 X eL up _ _ _ _ _ F_1 N_1
 refine callC 0 (c_walk (p := pC) (loose := looseC) (mg := mgC) (mb := mbC) (its := its) (as := as) (vals := vals) ?T ?X ?hl ?hv hz ?hf fun s_2 r n K_2 hr hr' => ?_)
 case T => exact T.keeps F_1.keep
 case X => exact Frag.In.keeps X F_1.keep
 case hl => exact News.isList N_1 (by k_mem)
 case hv => exact fun j hj => ⟨(hv j hj).1, (hv j hj).2.at fun o e => F_1.keep _ o e⟩
 case hf => rw [hfl]; show 1 <= sizeLine; decide
 dsimp only
 rw [hfl] at hr'
 have F_2 := fr_keeps F_1 K_2.keep
 have N_2 := news_add F_1 N_1 K_2.keep hr hr'
 have nr := news_ne N_1 hr
 clear F_1 N_1
 k_lt nr
 refine wpAny_pyIter_list ⟨_, hr', rfl, _, rfl⟩ ?_
 have F_3 := F_2.push { cls := .type "list_iterator", data := .fields #[.ref r, .int 0 0] }
 have N_3 := N_2.push F_2 { cls := .type "list_iterator", data := .fields #[.ref r, .int 0 0] }
 have lit := news_lt N_2
 have hit_3 : (s_2.heap.push { cls := .type "list_iterator", data := .fields #[.ref r, .int 0 0] }).IsListIter s_2.heap.objs.size r 0 := ⟨_, Heap.get?_push_size _ rfl, rfl, rfl⟩
 generalize s_2.heap.push { cls := .type "list_iterator", data := .fields #[.ref r, .int 0 0] } = h_3 at F_3 N_3 hit_3 ⊢
 generalize (s_2.heap.objs.size : Nat) = it at N_3 lit hit_3 ⊢
 clear F_2 N_2
 rename_i zi1 zi2 zi3 zi4 zi5
 repeat (rename (_ : Prop) => hZ; revert hZ)
 intro hPk
 apply hPk.out s_2 r n h_3 it
 ⟩
noncomputable def cx2 (v : ((Shared × Nat) × Nat) × (Heap × Nat)) : Prop := P2.1 v.1.1.1 v.1.1.2 v.1.2 v.2.1 v.2.2
noncomputable section
def tup2 := Mine.pk (by walk_at "ne") cx2
@[irreducible]def s_2:=tup2.1.1.1
@[irreducible]def r:=tup2.1.1.2
@[irreducible]def n:=tup2.1.2
@[irreducible]def h_3:=tup2.2.1
@[irreducible]def it:=tup2.2.2
end
theorem main_2 : P2.1 s_2 r n h_3 it := by
 intro T W hv hz hfl hR kS1 kS2 X eL up _ _ _ _ _ K_2 hr hr' nr F_3 N_3 lit hit_3
 refine forOne (wpAny_pyNext_list_item (x := .ref t0C) hit_3 (News.isList N_3 (by k_mem)) rfl fun h_4 hit_4 hs_4 => ⟨_, rfl, ?_⟩)
 refine x1_3 (id hit_4) fun o_4 ho_4 hc_4 hd_4 => ?_
 refine x0_2 (news_turn F_3 N_3 hs_4 ho_4 lit) fun F_4 N_4 => ?_
 clear F_3 N_3 hs_4
 k_lt lit
 refine wpAny_letOwnedTupleGo_listiter hit_4 ?_
 k_steps
 rename Fr gC L _ _ => F_5
 rename News gC L _ _ => N_5
 refine wpAny_pyNext_list_end (i := 1) rfl ⟨o_4, (N_5 _ List.mem_cons_self).1, hc_4, hd_4⟩ (News.isList N_5 (by k_mem)) rfl fun h_6 he_6 => ⟨rfl, ?_⟩
 refine x0_2 (news_drop F_5 N_5 he_6 (by k_all)) fun F_6 N_6 => ?_
 clear F_5 N_5 he_6
 k_steps
 rename Fr gC L _ _ => F_7
 rename News gC L _ _ => N_7
 refine hR _ _ _ _ _ ⟨F_7.keep, List.forall_mem_cons.mpr ⟨⟨(N_7 _ List.mem_cons_self).1, (N_7 _ List.mem_cons_self).2.2⟩, ?_⟩, K_2.os, fun B => K_2.bare B⟩ ?_
 · repeat' (first | exact List.forall_mem_nil _ | (refine List.forall_mem_cons.mpr ⟨let z := N_7 _ (by k_mem); ⟨z.1, z.2.2⟩, ?_⟩))
 · omega
theorem main_1 : P1.1 L h_1 zi1 zi2 zi3 zi4 zi6 zi7 zi9 zi10 zi11 tk zi12 zi13 zi14 zi18 := P2.2 ⟨fun a0 a1 a2 a3 a4 => Mine.pk_all (p := cx2) (by with_unfolding_all exact main_2) (((a0, a1), a2), (a3, a4))⟩
theorem main : Stm pC looseC mgC mbC wC gC sC xC dxC bmC dataC declC nsC pmapC presC t0C tC rootC doneC RC its nd as vals t1 t2 tv := P1.2 ⟨fun a0 a1 a2 a3 a4 a5 a6 a7 a8 a9 a10 a11 a12 a13 a14 a15 => Mine.pk_all (p := cx1) (by with_unfolding_all exact main_1) ((((a0, a1), (a2, a3)), ((a4, a5), (a6, a7))), (((a8, a9), (a10, a11)), ((a12, a13), (a14, a15))))⟩
end c_qnameH
theorem c_qname {its nd as vals t1 t2 tv} : c_qnameH.Stm p loose mg mb w g s x dx bm data decl ns pmap pres t0 t root done R its nd as vals t1 t2 tv := pk_all (p := c_qnameH.cx) (by with_unfolding_all exact c_qnameH.main) (((((p, loose), (mg, mb)), ((w, g), s)), (((x, dx), (bm, data)), ((decl, ns), pmap))), ((((pres, t0), (t, root)), ((done, R), its)), (((nd, as), vals), ((t1, t2), tv))))
end
end Mine
end
section
namespace Mine
noncomputable def repL (c : Nat) (z : List Nat) (l : List Nat) : List Nat := l.flatMap fun k => if k = c then z else [k]
theorem repL_append (c : Nat) (z a b : List Nat) : repL c z (a ++ b) = repL c z a ++ repL c z b := List.flatMap_append
theorem repL_free (c : Nat) (z : List Nat) : ∀ l : List Nat, c ∉ l -> repL c z l = l
 | [], _ => rfl
 | k :: r, h => by
   have h1 : ¬ k = c := fun e => h (e ▸ List.mem_cons_self)
   show (if k = c then z else [k]) ++ repL c z r = _
   rw [if_neg h1, repL_free c z r fun m => h (List.mem_cons_of_mem _ m)]
   rfl
theorem repL_join (c : Nat) (z : List Nat) : ∀ parts : List Str, (∀ p ∈ parts, c ∉ p.cps.toList) -> repL c z (Str.join ⟨#[c]⟩ parts).cps.toList = (Str.join ⟨z.toArray⟩ parts).cps.toList
 | [], _ => rfl
 | [p], h => repL_free c z _ (h p (List.mem_singleton.mpr rfl))
 | p :: q :: r, h => by
   have ih := repL_join c z (q :: r) fun a ha => h a (List.mem_cons_of_mem _ ha)
   show repL c z (p ++ ⟨#[c]⟩ ++ Str.join ⟨#[c]⟩ (q :: r)).cps.toList = (p ++ ⟨z.toArray⟩ ++ Str.join ⟨z.toArray⟩ (q :: r)).cps.toList
   simp only [Str.cps_append, Array.toList_append]
   rw [repL_append, repL_append, ih, repL_free c z _ (h p List.mem_cons_self)]
   congr 2
   simp [repL]
theorem replace_is (x : Str) (c : Nat) (z : List Nat) : (Txt.replace x ⟨#[c]⟩ ⟨z.toArray⟩).cps.toList = repL c z x.cps.toList := by
 rw [StrLaws.replace_one, <- repL_join c z _ (StrLaws.split_free x c), StrLaws.join_split]
noncomputable def sgn : Nat -> List Nat
 | 0 => [] | 1 => [34, 40, 34] | 2 => [34, 41, 34] | _ => [34, 60, 34]
noncomputable def sgw : Nat -> List Nat
 | 0 => [] | 1 => [34, 40, 34] | 2 => [34, 41, 34] | _ => [34, 38, 108, 116, 59, 34]
noncomputable abbrev DS := List (Nat × Nat)
noncomputable def textL (ds : DS) : List Nat := ds.flatMap fun d => d.1 :: sgn d.2
noncomputable def wireL (ds : DS) : List Nat := ds.flatMap fun d => d.1 :: sgw d.2
noncomputable def leafT (d : Nat × Nat) : Str := ⟨(d.1 :: sgn d.2).toArray⟩
noncomputable def textT (ds : DS) : Str := ⟨(textL ds).toArray⟩
noncomputable def textW (ds : DS) : Str := ⟨(wireL ds).toArray⟩
noncomputable def OkDs (ds : DS) : Prop := ∀ d ∈ ds, d.1 ∈ [97, 98, 99, 100]
theorem sgn_mem (i : Nat) : ∀ c ∈ sgn i, c ∈ [34, 40, 41, 60] := by
 unfold sgn; split <;> decide
theorem sgw_mem (i : Nat) : ∀ c ∈ sgw i, c ∈ [34, 40, 41, 38, 108, 116, 59] := by
 unfold sgw; split <;> decide
theorem sgn_len (i : Nat) : (sgn i).length <= 3 := by unfold sgn; split <;> decide
theorem sgw_len (i : Nat) : (sgw i).length <= 6 := by unfold sgw; split <;> decide
theorem sgw_rep (i : Nat) : repL 60 [38, 108, 116, 59] (sgn i) = sgw i := by unfold sgn sgw; split <;> rfl
theorem text_mem {ds : DS} (h : OkDs ds) : ∀ c ∈ textL ds, c ∈ [97, 98, 99, 100] ++ [34, 40, 41, 60] := fun c hc => by
 obtain ⟨d, hd, hc⟩ := List.mem_flatMap.mp hc
 rcases List.mem_cons.mp hc with rfl | hc
 · exact List.mem_append_left _ (h d hd)
 · exact List.mem_append_right _ (sgn_mem _ c hc)
theorem wire_mem {ds : DS} (h : OkDs ds) : ∀ c ∈ wireL ds, c ∈ [97, 98, 99, 100] ++ [34, 40, 41, 38, 108, 116, 59] := fun c hc => by
 obtain ⟨d, hd, hc⟩ := List.mem_flatMap.mp hc
 rcases List.mem_cons.mp hc with rfl | hc
 · exact List.mem_append_left _ (h d hd)
 · exact List.mem_append_right _ (sgw_mem _ c hc)
theorem text_len : ∀ ds : DS, (textL ds).length <= 4 * ds.length
 | [] => Nat.le_refl _
 | d :: r => by
   have h1 := text_len r
   have h2 := sgn_len d.2
   show ((d.1 :: sgn d.2) ++ textL r).length <= 4 * (r.length + 1)
   rw [List.length_append, List.length_cons]; omega
theorem wire_len : ∀ ds : DS, (wireL ds).length <= 7 * ds.length
 | [] => Nat.le_refl _
 | d :: r => by
   have h1 := wire_len r
   have h2 := sgw_len d.2
   show ((d.1 :: sgw d.2) ++ wireL r).length <= 7 * (r.length + 1)
   rw [List.length_append, List.length_cons]; omega
theorem wire_rep : ∀ {ds : DS}, OkDs ds -> repL 60 [38, 108, 116, 59] (textL ds) = wireL ds
 | [], _ => rfl
 | d :: r, h => by
   have hd := h d List.mem_cons_self
   show repL _ _ ((d.1 :: sgn d.2) ++ textL r) = (d.1 :: sgw d.2) ++ wireL r
   rw [repL_append, wire_rep fun e he => h e (List.mem_cons_of_mem _ he)]
   congr 1
   show (if d.1 = 60 then _ else [d.1]) ++ repL 60 _ (sgn d.2) = _
   rw [if_neg (fun e => by rw [e] at hd; revert hd; decide), sgw_rep]
   rfl
theorem textT_replace {ds : DS} (h : OkDs ds) : Txt.replace (textT ds) ⟨#[60]⟩ ⟨#[38, 108, 116, 59]⟩ = textW ds := by
 have := replace_is (textT ds) 60 [38, 108, 116, 59]
 rw [show (textT ds).cps.toList = textL ds from rfl, wire_rep h] at this
 generalize Txt.replace (textT ds) ⟨#[60]⟩ ⟨#[38, 108, 116, 59]⟩ = r at this ⊢
 obtain ⟨⟨l⟩⟩ := r
 have e : l = wireL ds := this
 rw [e]; rfl
theorem textT_free {ds : DS} (h : OkDs ds) (hn : 60 ∉ textL ds) : textW ds = textT ds := by
 have := wire_rep h
 rw [repL_free _ _ _ hn] at this
 rw [textW, textT, this]
theorem text_join (ds : DS) : Txt.join (Str.ofString "") (ds.map leafT) = textT ds := by
 rw [join_empty, List.flatMap_map]
 rfl
end Mine
end
section
namespace Mine
theorem occ_none {x : Str} {c : Nat} {y : Str} (hy : y = ⟨#[c]⟩) (h : c ∉ x.cps.toList) : (Builtin.Str.occurrences x y 0 x.length 1).isEmpty = true := by
 have := StrLaws.found_one x c
 subst hy
 rw [decide_eq_false h] at this
 simpa using this
theorem occ_some {x : Str} {c : Nat} {y : Str} (hy : y = ⟨#[c]⟩) (h : c ∈ x.cps.toList) : (Builtin.Str.occurrences x y 0 x.length 1).isEmpty = false := by
 have := StrLaws.found_one x c
 subst hy
 rw [decide_eq_true h] at this
 simpa using this
section
variable {w : World} {s : Shared} {R : Result -> Shared -> Prop}
theorem c_esc {ds : DS} {tx : Tok} (T : TopRead p loose mg mb s.heap) (X : (Mine.mk.heap_1 w.params).In s.heap)
  (hd : OkDs ds) (hn : ds.length <= 100)
  (hR : ∀ s' ty, Kp s s' -> R (.ok (.ret (.str (textW ds) ty))) s') :
  codeAny (model Challenge.rw_kl0462_01.prog w) (AL 0) (.call (.ref 199) ⟨[.str (textT ds) tx], []⟩) R s := by
 have kS1 : Key "call builtin:str.replace" := trivial
 revert X
 k_fill
 intro X
 refine callF X T.nolimit (by k_is) (by k_is) (by decide) (binds := [("text", .str (textT ds) tx)]) (BindsTo.of_eq rfl) (locs rfl) ?_
 intro L h_1 F eL
 have N : News s.heap L h_1 [] := News.nil
 have a38 : Str.ofString "&" = ⟨#[38]⟩ := by decide +kernel
 have a60 : Str.ofString "<" = ⟨#[60]⟩ := by decide +kernel
 have alt : Str.ofString "&lt;" = ⟨#[38, 108, 116, 59]⟩ := by decide +kernel
 have a62 : Str.ofString ">" = ⟨#[62]⟩ := by decide +kernel
 have a13 : Str.ofString "\r" = ⟨#[13]⟩ := by decide +kernel
 have hlt : (textT ds).length <= 1000 := by
   show (textL ds).toArray.size <= 1000
   have := text_len ds; simp; omega
 have hlw : (textW ds).length <= 1000 := by
   show (wireL ds).toArray.size <= 1000
   have := wire_len ds; simp; omega
 have e38 := occ_none (x := textT ds) a38 (fun h => absurd (text_mem hd _ h) (by decide))
 have e62 := occ_none (x := textW ds) a62 (fun h => absurd (wire_mem hd _ h) (by decide))
 have e13 := occ_none (x := textW ds) a13 (fun h => absurd (wire_mem hd _ h) (by decide))
 by_cases h3 : 60 ∈ textL ds
 · have e60 := occ_some (x := textT ds) a60 h3
   refine wpAny_execs_cons (wpAny_Try_except ?_)
   refine wpAny_execs_cons (wpAny_If (wpAny_isTrue_Compare1 (wpAny_Constant_str (wpAny_Name (wpAny_loadName_local rfl rfl F.ns rfl (P.in_str (wpAny_truthy_bool ?_)))))))
   rw [e38, if_neg (by decide)]
   refine wpAny_execs_nil ?_
   refine wpAny_execs_cons (wpAny_If (wpAny_isTrue_Compare1 (wpAny_Constant_str (wpAny_Name (wpAny_loadName_local rfl rfl F.ns rfl (P.in_str (wpAny_truthy_bool ?_)))))))
   rw [e60, if_pos (by decide)]
   refine wpAny_execs_cons (wpAny_Assign_Name ?_)
   k_steps
   unfold Stop
   refine SC.replace (x := textT ds) (y := Str.ofString "<") (z := Str.ofString "&lt;") (Nat.succ_ne_zero _) (Nat.succ_ne_zero _) (Nat.ne_of_lt (Nat.lt_succ_self _)) (by decide +kernel) (by rw [alt]; show (textT ds).length + ((textT ds).length + 1) * 4 <= 16777216; omega) fun t' k => ?_
   rw [a60, alt, textT_replace hd]
   k_steps
   rename Fr s.heap L _ _ => F_3
   exact hR _ _ (Kp.of F_3.keep)
 · have e60 := occ_none (x := textT ds) a60 h3
   have hw := textT_free hd h3
   rw [hw] at hR e62 e13
   k_steps
   exact hR _ _ (Kp.of F.keep)
end
end Mine
end
section
namespace Mine
theorem in136 {w : World} {g : Heap} (X : (Mine.mk.heap_1 w.params).In g) : BoundAt "str.join" (.str "" 689) 136 g := by
 have dd : model Challenge.rw_kl0462_01.prog w = model Challenge.rw_kl0462_01.prog w := rfl
 revert X dd
 k_fill
 intro X dd
 exact i3_3 _ _ _ (inObj (a := 136) (c := .type "builtin_function_or_method") (d := none) (sl := #[]) X (by k_is)) rfl rfl
section
local macro_rules | `(tactic| walk_at "bj") => mGo "ref BoundAt.keeps ( in136 ?p ) ( Fr.keep ?q ) | p:a q:k"
local macro_rules | `(tactic| walk_at "callWith ref") => mGo "h ; ref Mine.callWith_B id:=list.append ?X ?_ | X:bk"
local macro_rules | `(tactic| walk_at "callWith ref") => mGo "h ; show wpAny _ _ ( callWith _ ( Value.ref 136 ) _ _ _ ) _ _ _ ; ref Mine.callWith_B id:=str.join ?X ?_ | X:bj"
local macro_rules | `(tactic| walk_at "And") => mGo "show And ( BoundAt \"list.append _ _ _ ) _ ; ref And.intro ?X ?_ | X:bk ; nil"
local macro_rules | `(tactic| walk_at "And") => mGo "show And ( BoundAt \"str.join _ _ _ ) _ ; ref And.intro ?X ?_ | X:bj ; nil"
variable {w : World} {g : Heap} {s : Shared} {x dx bm P data decl ns pmap pres t0 : Nat} {t : Nat -> Tok} {root done : Bool} {R : Result -> Shared -> Prop}
theorem c_flush {ds : DS} {l : List (Str × Tok)} {nd np : Nat} {ps : Array Value} (T : TopRead p loose mg mb g) (X : (Mine.mk.heap_1 w.params).In g) (hb : BoundAt "list.append" (.ref P) bm g)
  (hl : l.map (·.1) = ds.map leafT) (hd : OkDs ds) (hdn : 0 < ds.length) (hdz : ds.length <= 100) (hz : ps.size <= 9000) (ne : dx ≠ x /\ data ≠ x /\ data ≠ dx /\ P ≠ x /\ P ≠ dx /\ P ≠ data)
  (W : WH g s [(x, instObj 188 dx), (dx, dictOf (wEs w.params t bm data decl ns pmap pres true done) 18), (data, listOf (strValues l).toArray nd), (P, listOf ps np)])
  (hR : ∀ s' tw nd' np', WP g s s' [(x, instObj 188 dx), (dx, dictOf (wEs w.params t bm data decl ns pmap pres true done) 18), (data, listOf #[] nd'), (P, listOf (ps.push (.str (textW ds) tw)) np')] -> R (.ok (.ret .none)) s') :
  codeAny (model Challenge.rw_kl0462_01.prog w) (AL 1) (.call (.ref 144) ⟨[.ref x], []⟩) R s := by
 have kS1 : Key "call ref" := trivial
 have hsz : (strValues l).toArray.size <= 1000 := by
   have := congrArg List.length hl
   simp [strValues] at this ⊢
   omega
 revert X
 k_fill
 intro X
 refine' callW (binds := [("self", .ref x), ("_join_text", .ref 136)]) W X T.nolimit ?ho ?hcd (by decide) ?bi ?lo ?_ ?c1 ?c2 ?c3 ?c4
 case ho => k_is
 case hcd => k_is
 case bi => exact binds_K (X.keeps W.keep) rfl (by k_is) rfl rfl rfl
 case lo => exact locs rfl
 case c1 => rfl
 case c2 => rfl
 case c3 => rfl
 case c4 => decide
 intro L h_1 F N eL up
 k_steps
 rename Fr g L _ _ => F_1
 rename News g L _ _ => N_1
 have ht1 := text_len ds
 refine join_K (l := l) ((in136 X).keeps F_1.keep) (News.isList N_1 (by k_mem)) (joinOk_empty ?_) fun t' k => ?_
 · rw [hl, List.flatMap_map]
   show (textL ds).length <= _
   omega
 rw [hl, text_join]
 have hlp : 0 < (textT ds).length := by
   show 0 < (textL ds).toArray.size
   cases ds with
   | nil => exact absurd hdn (Nat.lt_irrefl _)
   | cons d r => exact Nat.succ_pos _
 have hlx : (textT ds).length <= 1000 := by
   show (textL ds).toArray.size <= 1000
   simp; omega
 k_steps
 rename Fr g L _ _ => F_2
 rename News g L _ _ => N_2
 refine del_all (vs := (strValues l).toArray) (n := nd) (Heap.get?_push_of_some _ (N_2 (data, _) (by k_mem)).1) hsz (Heap.IsSliceOf.new ..) fun h_3 n_3 ho_3 hs_3 => ?_
 refine x0_2 (news_put (o := listOf (strValues l).toArray nd) (F_2.push _) (news_keep N_2 fun b o e => Heap.get?_push_of_some _ e) (by k_upd) hs_3 ho_3) fun F_3 N_3 => ?_
 clear F_2 N_2 hs_3 ho_3
 k_steps
 refine callC 0 (c_esc (p := p) (loose := loose) (mg := mg) (mb := mb) ?T ?X hd hdz fun s_4 ty K_4 => ?_)
 case T => exact T.keeps (Fr.keep (by k_asm))
 case X => exact Frag.In.keeps X (Fr.keep (by k_asm))
 dsimp only
 rename Fr g L _ _ => F_4
 rename News g L _ _ => N_4
 have F_5 := fr_keeps F_4 K_4.keep
 have N_5 := news_keep N_4 K_4.keep
 clear F_4 N_4
 k_steps
 refine write_K F_5 N_5 hb (by k_upd) (Nat.le_trans hz (by decide)) fun h_6 F_6 N_6 => ?_
 clear F_5 N_5
 k_steps
 exact hR _ _ _ _ ⟨F_6.keep, fun q hq => let z := N_6 q hq; ⟨z.1, z.2.2⟩, K_4.os, K_4.bare⟩
 all_goals (exfalso; omega)
end
end Mine
end
section
namespace Mine
noncomputable abbrev setObj (es : Array (Int × Value)) (ep : Nat) (t : SetTable) : Obj := { cls := .type "set", dict := none, data := .set es ep t }
noncomputable abbrev tab1 (slot : Nat) (led : Bool) : SetTable := ⟨7, #[slot], #[], 0, led, 0, false⟩
theorem lay1 (led : Bool) (h : Int) (x : Value) : ∃ slot, layNew (.fresh 0 0 led) #[] h x = (#[(h, x)], { tab1 slot led with plain := true }, false, false) := ⟨_, rfl⟩
section
variable {prog : Program} {w : World} {A : Around} {E : Value -> Shared -> Prop} {s : Shared}
noncomputable abbrev ledW (w : World) : Bool := !(w.params.followText "set-order")
theorem newSet1 {Q : Value -> Shared -> Prop} (h : Q (.ref s.heap.objs.size) { s with heap := s.heap.push (setObj #[] 0 (.fresh 0 0 (ledW w))) }) : wpAny (model prog w) A (newSet (.type "set")) Q E s := by
 unfold newSet setsByText
 refine wpAny_bind (wpAny_bind (wpAny_askSetting (wpAny_pure ?_)))
 dsimp only
 simp only [newObj]
 exact wpAny_bind (wpAny_alloc (wpAny_pure h))
theorem add_fresh {D : Addr} {x : Str} {tx : Tok} {led : Bool} {Q : Bool -> Shared -> Prop} (ho : s.heap.get? D = some (setObj #[] 0 (.fresh 0 0 led)))
   (h : ∀ h' slot, h'.get? D = some (setObj #[(hashStr w x, .str x tx)] 1 (tab1 slot led)) -> Heap.SameBut D s.heap h' -> Q true { s with heap := h', toks := s.toks + 1 }) :
   wpAny (model prog w) A (setAdd D (.str x tx)) Q E s := by
 unfold setAdd
 refine wpAny_holding (wpAny_bind (wpAny_pyHash_str ?_))
 unfold setAddHashed setAddHashedIn
 refine wpAny_holding (wpAny_bind (wpAny_setState_of (s := { s with toks := s.toks + 1 }) ho rfl (by rfl) ?_))
 dsimp only
 rw [show byScan (.str x tx) #[] = true by simp [byScan, Value.scannable, scanBound]]
 simp only [↓reduceIte]
 unfold setAddByScan
 refine wpAny_bind ?_
 refine wpAny_bind (wpAny_rule ?_)
 refine wpAny_bind (wpAny_setScan_of (knd := PySem.strKind prog w) (k := x) (strKind_is prog w x tx) (s := { s with toks := s.toks + 1 }) ho rfl (by rfl) (fun e he => by simp at he) ?_)
 dsimp only
 refine x1_1 (lay1 led (hashStr w x) (.str x tx)) fun slot hl => ?_
 rw [hl]
 simp only [List.findIdx?_nil]
 refine wpAny_bind ?_
 show wpAny _ A (pure ()) _ _ _
 refine wpAny_pure ?_
 rw [if_pos trivial]
 refine wpAny_bind ?_
 rw [hashByValue_scannable 8 rfl]
 refine wpAny_pure ?_
 refine wpAny_bind (wpAny_storeSet_of (s := { s with toks := s.toks + 1 }) ho rfl ?_ (by show 1 <= sizeLine; decide))
 split
 · rename_i hh
   exact absurd (show false = true from hh) Bool.false_ne_true
 · refine wpAny_pure (wpAny_pure ?_)
   refine h _ slot ?_ (Heap.SameBut.update ..)
   exact Heap.get?_update_self _ ho rfl
end
end Mine
end
section
namespace Mine
section
variable {prog : Program} {w : World} {A : Around} {E : Value -> Shared -> Prop} {s : Shared}
theorem entry_sul : entryFor table "set.update.loop" = some Builtin.«set.update.loop» := entryFor_of_tree (by kernel_rfl)
namespace star_emptyH
noncomputable def Stm (progC : Program) (wC : World) (AC : Around) (EC : Value -> Shared -> Prop) (sC : Shared) (D d : Addr) (es : Array (Int × Value)) (ep n slot : Nat) (led : Bool) (Q : Unit -> Shared -> Prop) : Prop := ∀  (hh : AC.handled = none) (hD : sC.heap.get? D = some (setObj es ep (tab1 slot led))) (he : es.size = 1) (hd : sC.heap.get? d = some (dictOf [] n)) (hs : (d == sysModules) = false) (h : ∀ s', Keeps sC s' -> Q () s'), wpAny (model progC wC) AC (setDisplayStar D (.ref d)) Q EC sC
noncomputable def cx (v : (((Program × World) × (Around × (Value -> Shared -> Prop))) × ((Shared × Addr) × Addr)) × ((((Array (Int × Value)) × Nat) × Nat) × ((Nat × Bool) × (Unit -> Shared -> Prop)))) : Prop := Stm v.1.1.1.1 v.1.1.1.2 v.1.1.2.1 v.1.1.2.2 v.1.2.1.1 v.1.2.1.2 v.1.2.2 v.2.1.1.1 v.2.1.1.2 v.2.1.2 v.2.2.1.1 v.2.2.1.2 v.2.2.2
noncomputable section
def tup := pk (by walk_at "ne") cx
@[irreducible]def progC:=tup.1.1.1.1
@[irreducible]def wC:=tup.1.1.1.2
@[irreducible]def AC:=tup.1.1.2.1
@[irreducible]def EC:=tup.1.1.2.2
@[irreducible]def sC:=tup.1.2.1.1
@[irreducible]def D:=tup.1.2.1.2
@[irreducible]def d:=tup.1.2.2
@[irreducible]def es:=tup.2.1.1.1
@[irreducible]def ep:=tup.2.1.1.2
@[irreducible]def n:=tup.2.1.2
@[irreducible]def slot:=tup.2.2.1.1
@[irreducible]def led:=tup.2.2.1.2
@[irreducible]def Q:=tup.2.2.2
end
theorem main : Stm progC wC AC EC sC D d es ep n slot led Q := by
 intro hh hD he hd hs h
 have hT : sC.TypeIs (.ref d) "dict" := ⟨_, hd, rfl⟩
 unfold setDisplayStar
 refine wpAny_bind (wpAny_isInstance (U := "set") (b := false) hT (by rw [isSubtype_type]; kernel_rfl) ?_)
 try dsimp only
 rw [if_neg Bool.false_ne_true]
 refine wpAny_bind (wpAny_isInstance (U := "frozenset") (b := false) hT (by rw [isSubtype_type]; kernel_rfl) ?_)
 try dsimp only
 refine wpAny_bind (wpAny_askSetting ?_)
 generalize Params.followText _ "set-display-star-reads-storage" = b
 cases b with
 | true =>
   rw [if_pos rfl]
   try dsimp only
   have hm : sC.heap.DictAt (PySem.strKind progC wC) d [] n := ⟨_, #[], hd, ⟨rfl, rfl, rfl⟩, rfl, fun e he => by simp at he, .nil, List.nodup_nil⟩
   refine wpAny_bind (wpAny_pyIter_dict hs hm ?_)
   refine wpAny_bind ?_
   refine wpAny_runValue (codeAny_builtin (by exact entry_sul) ?_)
   show wpAny _ _ (pyNext (.ref sC.heap.objs.size) >>= _) _ _ _
   have hne : d ≠ sC.heap.objs.size := Nat.ne_of_lt (Heap.lt_size hd)
   refine wpAny_bind ((Walks.dictKeys (prog := progC) (w := wC) (knd := PySem.strKind progC wC) (A := AC.in1) hh sC.heap.objs.size d hne [] n).done _ _ _ ⟨⟨_, Heap.get?_push_size _ rfl, rfl, rfl⟩, hm.push _⟩ fun h' tk hk => ?_)
   refine wpAny_pure ?_
   refine wpAny_pure (h _ ⟨h', tk, rfl, fun b o e => hk b o ?_ (Heap.get?_push_of_some _ e)⟩)
   rw [List.mem_singleton]
   exact Nat.ne_of_lt (Heap.lt_size e)
 | false =>
   rw [if_neg Bool.false_ne_true]
   try dsimp only
   rw [if_neg Bool.false_ne_true]
   refine wpAny_bind (wpAny_typeOf hT ?_)
   rw [if_pos (by decide)]
   refine wpAny_bind (wpAny_rule ?_)
   rw [hs, if_neg Bool.false_ne_true]
   refine wpAny_bind (wpAny_dictEpoch hd rfl ?_)
   refine wpAny_bind (wpAny_dictEntries hd rfl ?_)
   refine wpAny_bind (m := setRoomFor D _) ?_
   unfold setRoomFor
   refine wpAny_bind (wpAny_setState_of hD rfl (by rw [he]; rfl) ?_)
   show wpAny _ AC (pure ()) _ _ _
   refine wpAny_pure ?_
   refine wpAny_bind ?_
   have h0 : ∀ (f : Nat -> PUnit -> Sem (ForInStep PUnit)), (forIn [:(#[] : Array DictEntry).size] PUnit.unit f) = pure PUnit.unit := fun f => by simp
   rw [h0]
   exact wpAny_pure (wpAny_pure (h _ ⟨sC.heap, sC.toks, rfl, fun b o e => e⟩))
end star_emptyH
theorem star_empty {D d es ep n slot led Q} : star_emptyH.Stm prog w A E s D d es ep n slot led Q := pk_all (p := star_emptyH.cx) (by with_unfolding_all exact star_emptyH.main) ((((prog, w), (A, E)), ((s, D), d)), (((es, ep), n), ((slot, led), Q)))
end
end Mine
end
section
namespace Mine
section
variable {prog : Program} {w : World} {A : Around} {E : Value -> Shared -> Prop} {s : Shared} {env : Env} {p1 p2 p3 pos : Pos}
namespace eval_setStarH
noncomputable def Stm (progC : Program) (wC : World) (AC : Around) (EC : Value -> Shared -> Prop) (sC : Shared) (envC : Env) (p1C p2C p3C posC : Pos) (d : Addr) (n : Nat) (x : Str) (tx : Tok) (m : Str -> Option Value) (Q : Value -> Shared -> Prop) : Prop := ∀  (hh : AC.handled = none) (hk : envC.scope.kind = .function) (k1 : envC.kindOf "tag" = some .local) (k2 : envC.kindOf "attrs" = some .local) (hmain : ∀ (Q : Bool -> Shared -> Prop), (∀ b, Q b sC) -> wpAny (model progC wC) AC (inMainModule envC) Q EC sC) (hn : sC.heap.Ns envC.locals m) (e1 : m "tag" = some (.str x tx)) (e2 : m "attrs" = some (.ref d)) (hd : sC.heap.get? d = some (dictOf [] n)) (hs : (d == sysModules) = false) (hQ : ∀ D h' tk slot, sC.heap.objs.size <= D -> h'.get? D = some (setObj #[(hashStr wC x, .str x tx)] 1 (tab1 slot (ledW wC))) -> (∀ b o, sC.heap.get? b = some o -> h'.get? b = some o) -> Q (.ref D) { sC with heap := h', toks := tk }), wpAny (model progC wC) AC (eval (.Set [.Name "tag" p1C, .Starred (.Name "attrs" p2C) p3C] 0 posC) envC) Q EC sC
noncomputable def cx (v : (((Program × World) × (Around × (Value -> Shared -> Prop))) × ((Shared × Env) × (Pos × Pos))) × (((Pos × Pos) × (Addr × Nat)) × ((Str × Tok) × ((Str -> Option Value) × (Value -> Shared -> Prop))))) : Prop := Stm v.1.1.1.1 v.1.1.1.2 v.1.1.2.1 v.1.1.2.2 v.1.2.1.1 v.1.2.1.2 v.1.2.2.1 v.1.2.2.2 v.2.1.1.1 v.2.1.1.2 v.2.1.2.1 v.2.1.2.2 v.2.2.1.1 v.2.2.1.2 v.2.2.2.1 v.2.2.2.2
noncomputable section
def tup := pk (by walk_at "ne") cx
@[irreducible]def progC:=tup.1.1.1.1
@[irreducible]def wC:=tup.1.1.1.2
@[irreducible]def AC:=tup.1.1.2.1
@[irreducible]def EC:=tup.1.1.2.2
@[irreducible]def sC:=tup.1.2.1.1
@[irreducible]def envC:=tup.1.2.1.2
@[irreducible]def p1C:=tup.1.2.2.1
@[irreducible]def p2C:=tup.1.2.2.2
@[irreducible]def p3C:=tup.2.1.1.1
@[irreducible]def posC:=tup.2.1.1.2
@[irreducible]def d:=tup.2.1.2.1
@[irreducible]def n:=tup.2.1.2.2
@[irreducible]def x:=tup.2.2.1.1
@[irreducible]def tx:=tup.2.2.1.2
@[irreducible]def m:=tup.2.2.2.1
@[irreducible]def Q:=tup.2.2.2.2
end
theorem main : Stm progC wC AC EC sC envC p1C p2C p3C posC d n x tx m Q := by
 intro hh hk k1 k2 hmain hn e1 e2 hd hs hQ
 rw [arm_eval_Set]
 refine wpAny_bind (wpAny_standAt (wpAny_bind (hmain _ fun b => ?_)))
 show wpAny _ AC (setDisplay .oneByOne b [(false, do let v <- eval (.Name "tag" p1C) envC; standAt posC; pure v), (true, do let v <- eval (.Name "attrs" p2C) envC; standAt posC; pure v)]) _ _ _
 unfold setDisplay
 rw [if_neg (by decide)]
 refine wpAny_bind (newSet1 ?_)
 dsimp only
 have oD : (sC.heap.push (setObj #[] 0 (.fresh 0 0 (ledW wC)))).get? sC.heap.objs.size = some (setObj #[] 0 (.fresh 0 0 (ledW wC))) := Heap.get?_push_size _ rfl
 have up0 : ∀ b o, sC.heap.get? b = some o -> (sC.heap.push (setObj #[] 0 (.fresh 0 0 (ledW wC)))).get? b = some o := fun b o e => Heap.get?_push_of_some _ e
 have below : ∀ b o, sC.heap.get? b = some o -> b ≠ sC.heap.objs.size := fun b o e => Nat.ne_of_lt (Heap.lt_size e)
 have hge : sC.heap.objs.size <= sC.heap.objs.size := Nat.le_refl _
 generalize sC.heap.push (setObj #[] 0 (.fresh 0 0 (ledW wC))) = h0 at oD up0 ⊢
 generalize hD : sC.heap.objs.size = D at oD below ⊢
 refine wpAny_bind (wpAny_holding ?_)
 show wpAny _ AC (evalAll [do let v <- eval (.Name "tag" p1C) envC; standAt posC; pure v] >>= _) _ _ _
 refine wpAny_bind ?_
 show wpAny _ AC ((do let v <- eval (.Name "tag" p1C) envC; standAt posC; pure v) >>= fun v => holding [v] (pure []) >>= fun r => pure (v :: r)) _ _ _
 refine wpAny_bind (wpAny_bind (wpAny_Name (wpAny_loadName_local hk k1 (hn.keeps up0) e1 (wpAny_bind (wpAny_standAt (wpAny_pure ?_))))))
 refine wpAny_bind (wpAny_holding (wpAny_pure (wpAny_pure ?_)))
 refine wpAny_bind (wpAny_holding ?_)
 refine wpAny_bind ?_
 rw [List.forIn_cons]
 refine wpAny_bind (wpAny_bind (add_fresh (s := { sC with heap := h0 }) oD fun h1 slot o1 hs1 => wpAny_pure ?_))
 show wpAny _ AC (pure PUnit.unit) _ _ _
 refine wpAny_pure ?_
 rw [if_neg (by decide)]
 refine wpAny_pure ?_
 refine wpAny_bind ?_
 show wpAny _ AC (forIn [(true, do let v <- eval (.Name "attrs" p2C) envC; standAt posC; pure v)] PUnit.unit _) _ _ _
 rw [List.forIn_cons]
 have up1 : ∀ b o, sC.heap.get? b = some o -> h1.get? b = some o := fun b o e => hs1.extBut b o (below b o e) (up0 b o e)
 refine wpAny_bind (wpAny_bind (wpAny_bind (wpAny_Name (wpAny_loadName_local hk k2 (hn.keeps up1) e2 (wpAny_bind (wpAny_standAt (wpAny_pure ?_)))))))
 rw [if_pos rfl]
 refine wpAny_bind (wpAny_holding (star_empty (es := #[(hashStr wC x, .str x tx)]) hh o1 rfl (up1 _ _ hd) hs fun s' K => ?_))
 refine x2_2 (K) fun h2 tk hcz2 k2' => ?_
 try clear K
 cases hcz2
 refine wpAny_pure ?_
 show wpAny _ AC (pure PUnit.unit) _ _ _
 refine wpAny_pure (wpAny_pure (wpAny_pure ?_))
 exact hQ D h2 _ slot (Nat.le_of_eq hD) (k2' _ _ o1) fun b o e => k2' _ _ (up1 b o e)
end eval_setStarH
theorem eval_setStar {d n x tx m Q} : eval_setStarH.Stm prog w A E s env p1 p2 p3 pos d n x tx m Q := pk_all (p := eval_setStarH.cx) (by with_unfolding_all exact eval_setStarH.main) ((((prog, w), (A, E)), ((s, env), (p1, p2))), (((p3, pos), (d, n)), ((x, tx), (m, Q))))
end
end Mine
end
section
namespace Mine
theorem slot_si_next : Slot "set_iterator" "__next__" "set_iterator.__next__" :=
 .of (owner := "set_iterator") (n := "__next__") (by rw [typeLookup_type, builtinLookup_eq_fast]; kernel_rfl) (by decide +kernel) (by decide +kernel) (by decide +kernel)
   (by first | exact .inl (by decide +kernel) | exact .inr (by decide +kernel)) (by rw [isSubtype_type]; kernel_rfl)
theorem slot_si_iter : Slot "set_iterator" "__iter__" "set_iterator.__iter__" :=
 .of (owner := "set_iterator") (n := "__iter__") (by rw [typeLookup_type, builtinLookup_eq_fast]; kernel_rfl) (by decide +kernel) (by decide +kernel) (by decide +kernel)
   (by first | exact .inl (by decide +kernel) | exact .inr (by decide +kernel)) (by rw [isSubtype_type]; kernel_rfl)
theorem entry_si_next : entryFor table "set_iterator.__next__" = some Builtin.«set_iterator.__next__» := entryFor_of_fast (by kernel_rfl)
theorem entry_si_iter : entryFor table "set_iterator.__iter__" = some Builtin.«dict_keyiterator.__iter__» :=
 entryFor_alias (id' := "dict_keyiterator.__iter__") (by kernel_rfl) rfl (by decide +kernel) (by kernel_rfl)
theorem entry_set_iter : entryFor table "set.__iter__" = some Builtin.«frozenset.__iter__» :=
 entryFor_alias (id' := "frozenset.__iter__") (by kernel_rfl) rfl (by decide +kernel) (by kernel_rfl)
theorem args_si_next (a : Value) : argsOk "set_iterator.__next__" ⟨[a], []⟩ := by unfold argsOk; kernel_rfl
theorem args_si_iter (a : Value) : argsOk "set_iterator.__iter__" ⟨[a], []⟩ := by unfold argsOk; kernel_rfl
noncomputable abbrev siObj (d : Addr) (f i : Nat) : Obj := { cls := .type "set_iterator", data := .fields #[.int f 0, .int i 0, .ref d, .int 1 0, .int 1 0] }
section
variable {prog : Program} {w : World} {A : Around} {E : Value -> Shared -> Prop} {s : Shared} {d : Addr} {H : Int} {v : Value} {slot : Nat}
theorem set1_iter {led : Bool} {Q : Value -> Shared -> Prop} (hd : s.heap.get? d = some (setObj #[(H, v)] 1 (tab1 slot led)))
   (hQ : Q (.ref s.heap.objs.size) { s with heap := s.heap.push (siObj d 0 0) }) : wpAny (model prog w) A (pyIter (.ref d)) Q E s := by
 have hT : s.TypeIs (.ref d) "set" := ⟨_, hd, rfl⟩
 refine wpAny_pyIter_slot hT PySem.F.slot_set_iter (wpAny_call_entry PySem.F.slot_set_iter hT entry_set_iter ?_ (PySem.F.args_set_iter_1 _))
 unfold Builtin.«frozenset.__iter__» Builtin.Frozenset.slot0 slotArgs
 simp only [List.isEmpty_nil, Bool.not_true, Bool.false_eq_true, ↓reduceIte, bind_assoc, List.length_nil, bne_self_eq_false]
 unfold Builtin.Frozenset.addrOf Builtin.Frozenset.sizeOf
 refine wpAny_bind (wpAny_pure ?_)
 try dsimp only
 refine wpAny_bind (wpAny_pure ?_)
 refine wpAny_bind (wpAny_bind (wpAny_setEntries_of hd rfl (by rfl) (wpAny_pure ?_)))
 refine wpAny_bind (m := setDrawn d) ?_
 unfold setDrawn setsByText
 refine wpAny_bind (wpAny_setState_of hd rfl (by rfl) ?_)
 dsimp only
 refine wpAny_bind (wpAny_bind (wpAny_askSetting (wpAny_pure ?_)))
 refine wpAny_pure ?_
 rw [if_neg (by intro h; have : (!(Params.followText w.params "set-order") && false) = true := h; rw [Bool.and_false] at this; cases this)]
 refine wpAny_bind (wpAny_pure ?_)
 refine wpAny_bind (m := setEpoch d) ?_
 unfold setEpoch
 refine wpAny_bind (wpAny_setState_of hd rfl (by rfl) (wpAny_pure ?_))
 unfold newFields
 refine wpAny_bind (wpAny_newObj_type (wpAny_pure ⟨_, rfl, "set_iterator", _, ⟨_, Heap.get?_push_size _ rfl, rfl⟩, slot_si_next.lookup, ?_⟩))
 exact hQ
theorem set1_hint {led : Bool} {Q : Bool -> Shared -> Prop} (hd : s.heap.get? d = some (setObj #[(H, v)] 1 (tab1 slot led))) (h : Q false s) : wpAny (model prog w) A (Builtin.List.listLengthHint (.ref d)) Q E s := by
 have hT : s.TypeIs (.ref d) "set" := ⟨_, hd, rfl⟩
 unfold Builtin.List.listLengthHint
 refine wpAny_bind (wpAny_specialOf hT PySem.F.slot_set_len.lookup ?_)
 generalize hid : ("set.__len__" : String) = id0
 wp_delta
 rw [show splitId id0 = some ("set", "__len__") from by subst hid; decide +kernel]
 subst hid
 refine wpAny_bind (wpAny_isInstance (T := "set") (b := true) hT (by rw [isSubtype_type]; kernel_rfl) ?_)
 refine wpAny_ite_split (fun hab => absurd hab (by decide)) (fun _ => ?_)
 refine wpAny_ite_split (fun _ => ?_) (fun hab => absurd (by decide +kernel) hab)
 refine wpAny_bind (wpAny_typeOf hT ?_)
 exact wpAny_pure h
noncomputable def S1 (w : World) (I d : Addr) (H : Int) (v : Value) (slot i : Nat) (h : Heap) : Prop :=
 ∃ f : Nat, h.get? I = some (siObj d f i) /\ h.get? d = some (setObj #[(H, v)] 1 (tab1 slot (ledW w))) /\ (i = 0 -> f = 0) /\ (i = 1 -> ledW w = true -> f = slot + 1)
theorem S1.frame {I : Addr} {i : Nat} {h h' : Heap} (st : S1 w I d H v slot i h) (hk : ∀ b ∈ [I, d], ∀ o, h.get? b = some o -> h'.get? b = some o) : S1 w I d H v slot i h' :=
 let ⟨f, a, b, c⟩ := st; ⟨f, hk I (by simp) _ a, hk d (by simp) _ b, c⟩
theorem pick1 {α : Type} (f : Nat -> Nat) (x : α) : pickOrder f #[x] = #[x] := by
 unfold pickOrder
 simp [pickOrder.go, Nat.mod_one]
theorem set1_item {I : Addr} {Q : Option Value -> Shared -> Prop} (hne : d ≠ I) (st : S1 w I d H v slot 0 s.heap)
   (hQ : ∀ h', S1 w I d H v slot 1 h' -> Heap.SameBut I s.heap h' -> Q (some v) { s with heap := h' }) : wpAny (model prog w) A (pyNext (.ref I)) Q E s := by
 obtain ⟨f, hI, hd, h0, _⟩ := st
 have : f = 0 := h0 rfl
 subst this
 have hT : s.TypeIs (.ref I) "set_iterator" := ⟨_, hI, rfl⟩
 unfold pyNext
 refine wpAny_bind (wpAny_attempt (wpAny_callSpecial?_slot (name := Str.ofString "__next__") hT slot_si_next (wpAny_call_entry slot_si_next hT entry_si_next ?_ (args_si_next _))))
 unfold Builtin.«set_iterator.__next__»
 refine wpAny_bind (m := slotArgs "__next__" 0 _) (wpAny_pure ?_)
 dsimp only
 refine wpAny_bind (wpAny_fieldsOf hI rfl ?_)
 show wpAny _ _ (setEntries d >>= _) _ _ _
 refine wpAny_bind (wpAny_setEntries_of hd rfl (by rfl) ?_)
 rw [if_neg (show ¬ ((((#[(H, v)].size : Nat) : Int) != 1) = true) from fun q => Bool.false_ne_true q)]
 show wpAny _ _ (setNext d 0 0 1 >>= _) _ _ _
 refine wpAny_bind ?_
 unfold setNext setsByText
 refine wpAny_bind (wpAny_setState_of hd rfl (by rfl) ?_)
 dsimp only
 refine wpAny_bind (wpAny_bind (wpAny_askSetting (wpAny_pure ?_)))
 have fin : ∀ n : Nat, (ledW w = true -> n = slot + 1) -> wpAny (model prog w) A.in1 (setField (.ref I) 0 (rawInt n) >>= fun _ => setField (.ref I) 1 (rawInt 1) >>= fun _ => ret v)
     (fun fin s' => ∃ x, fin = PySem.Fin.done (.ret x) /\ wpAny (model prog w) A (pure (some x)) Q E s') (fun e s' => False) s := by
   intro n hn
   refine wpAny_bind (wpAny_setField_rec hI (by simp) fun h1 e1 k1 => ?_)
   refine wpAny_bind (wpAny_setField_rec e1 (by simp) fun h2 e2 k2 => ?_)
   refine wpAny_pure ⟨_, rfl, wpAny_pure (hQ h2 ⟨n, e2, (k2.2 d hne).trans ((k1.2 d hne).trans hd), nofun, fun _ => hn⟩ ?_)⟩
   exact k1.trans k2
 split
 · rename_i hb
   have hb : w.params.followText "set-order" = true := hb
   have hb' : ledW w = false := by simp [ledW, hb]
   rw [if_neg (by decide)]
   refine wpAny_bind (m := setWalk d) ?_
   unfold setWalk setsByText
   refine wpAny_bind (wpAny_setState_of hd rfl (by rfl) ?_)
   dsimp only
   refine wpAny_bind (wpAny_bind (wpAny_askSetting (wpAny_pure ?_)))
   split
   · refine wpAny_bind (wpAny_askSetting (wpAny_pure (wpAny_pure ?_)))
     rw [pick1]
     exact wpAny_mono (fin 0 fun q => by rw [hb'] at q; cases q) (fun _ _ x => x) fun _ _ q => q.elim
   · rename_i q
     exact absurd hb q
 · rename_i hb
   have hb : w.params.followText "set-order" = false := Bool.eq_false_iff.mpr hb
   have hb' : ledW w = true := by simp [ledW, hb]
   rw [if_neg (by intro q; exact Bool.false_ne_true q)]
   rw [hb']
   refine wpAny_bind (wpAny_of_eq (a := ()) (by rfl) ?_)
   rw [hb'] at fin
   refine wpAny_pure ?_
   exact wpAny_mono (fin (slot + 1) fun _ => rfl) (fun _ _ x => x) fun _ _ q => q.elim
theorem set1_done {I : Addr} {Q : Option Value -> Shared -> Prop} (hh : A.handled = none) (hne : d ≠ I) (st : S1 w I d H v slot 1 s.heap)
   (hQ : ∀ h', Heap.ExtBut I s.heap h' -> Q none { s with heap := h' }) : wpAny (model prog w) A (pyNext (.ref I)) Q E s := by
 obtain ⟨f, hI, hd, _, h1⟩ := st
 have hT : s.TypeIs (.ref I) "set_iterator" := ⟨_, hI, rfl⟩
 unfold pyNext
 refine wpAny_bind (wpAny_attempt (wpAny_callSpecial?_slot (name := Str.ofString "__next__") hT slot_si_next (wpAny_call_entry slot_si_next hT entry_si_next ?_ (args_si_next _))))
 unfold Builtin.«set_iterator.__next__»
 refine wpAny_bind (m := slotArgs "__next__" 0 _) (wpAny_pure ?_)
 dsimp only
 refine wpAny_bind (wpAny_fieldsOf hI rfl ?_)
 show wpAny _ _ (setEntries d >>= _) _ _ _
 refine wpAny_bind (wpAny_setEntries_of hd rfl (by rfl) ?_)
 rw [if_neg (show ¬ ((((#[(H, v)].size : Nat) : Int) != 1) = true) from fun q => Bool.false_ne_true q)]
 show wpAny _ _ (setNext d f 1 1 >>= _) _ _ _
 refine wpAny_bind ?_
 unfold setNext setsByText
 refine wpAny_bind (wpAny_setState_of hd rfl (by rfl) ?_)
 dsimp only
 refine wpAny_bind (wpAny_bind (wpAny_askSetting (wpAny_pure ?_)))
 have fin : wpAny (model prog w) A.in1 (setField (.ref I) 2 .none >>= fun _ => newExc (.type "StopIteration") [] >>= fun e => raiseNew e)
     (fun (fin : PySem.Fin) s' => ∃ x, fin = PySem.Fin.done (.ret x) /\ wpAny (model prog w) A (pure (some x)) Q E s') (fun e s' => wpAny (model prog w) A (do let b <- isInstance e (.type "StopIteration"); if b = true then pure none else throw e) Q E s') s := by
   refine wpAny_bind (wpAny_setField_rec hI (by simp) fun h1 e1 k1 => ?_)
   refine wpAny_bind ?_
   simp only [newExc, newTuple]
   refine wpAny_bind (wpAny_newObj_type ?_ (by size_fits))
   refine wpAny_bind (m := firstArgMember _ _) (wpAny_of_eq (a := Value.none) (by first | rfl | (simp only [firstArgMember]; rfl)) ?_)
   refine wpAny_newObj_type ?_ (by size_fits)
   simp only [raiseNew]
   refine wpAny_bind (wpAny_handled ?_)
   rw [show A.in1.handled = none from hh]
   refine wpAny_throw ?_
   refine wpAny_bind (wpAny_isInstance (T := "StopIteration") (b := true) ⟨_, Heap.get?_push_size _ rfl, rfl⟩ isSubtype_stop ?_)
   exact wpAny_pure (hQ _ ((k1.extBut.push _).push _))
 split
 · rename_i hb
   have hb : w.params.followText "set-order" = true := hb
   rw [if_neg (by decide)]
   refine wpAny_bind (m := setWalk d) ?_
   unfold setWalk setsByText
   refine wpAny_bind (wpAny_setState_of hd rfl (by rfl) ?_)
   dsimp only
   refine wpAny_bind (wpAny_bind (wpAny_askSetting (wpAny_pure ?_)))
   split
   · refine wpAny_bind (wpAny_askSetting (wpAny_pure (wpAny_pure ?_)))
     rw [pick1]
     exact fin
   · rename_i q
     exact absurd hb q
 · rename_i hb
   have hb : w.params.followText "set-order" = false := Bool.eq_false_iff.mpr hb
   have hb' : ledW w = true := by simp [ledW, hb]
   have hf := h1 rfl hb'
   subst hf
   rw [if_neg (by intro q; exact Bool.false_ne_true q)]
   rw [hb']
   refine wpAny_bind (wpAny_of_eq (a := ()) (by rfl) ?_)
   refine wpAny_pure ?_
   rw [show SetTable.below #[slot] (slot + 1) = 1 by simp [SetTable.below, SetTable.below.go]]
   exact fin
theorem Walks.set1 (hh : A.handled = none) (I d : Addr) (hne : d ≠ I) (H : Int) (v : Value) (slot : Nat) :
   Walks prog w A I [I, d] [I] 1 (fun _ u => u = v) (fun i h => S1 w I d H v slot i h) where
 sub := fun b hb => by simp at hb; simp [hb]
 frame := fun _ _ _ st hk => st.frame hk
 item := fun i s Q E hi st hQ => by
   have : i = 0 := by omega
   subst this
   exact set1_item hne st fun h' st' k => hQ v h' s.toks rfl st' fun b o hb e => (k.2 b (fun h => hb (by simp [h]))).trans e
 done := fun s Q E st hQ => set1_done hh hne st fun h' k => hQ h' s.toks fun b o hb e => k b o (fun h => hb (by simp [h])) e
 self := fun i s Q E st hQ => by
   obtain ⟨f, hI, _⟩ := st
   have hT : s.TypeIs (.ref I) "set_iterator" := ⟨_, hI, rfl⟩
   refine wpAny_pyIter_slot hT slot_si_iter (wpAny_call_entry slot_si_iter hT entry_si_iter ?_ (args_si_iter _))
   show wpAny _ _ (ret (.ref I)) _ _ s
   exact wpAny_pure ⟨_, rfl, "set_iterator", _, hT, slot_si_next.lookup, hQ⟩
theorem kdl_set1 : KdlSrc prog w "set" d d 1 (fun _ u => u = v) (fun h => h.get? d = some (setObj #[(H, v)] 1 (tab1 slot (ledW w)))) where
 type := fun _ hm => ⟨_, hm, rfl⟩
 there := fun _ hm => ⟨Heap.lt_size hm, Heap.lt_size hm⟩
 keep := fun _ _ hm hk => hk d (.inl rfl) _ hm
 notList := by decide
 notTuple := by decide
 hint := fun _ _ _ _ hm hq => set1_hint hm hq
 iter := fun _ _ hh hm => ⟨_, _, (fun _ _ hq => set1_iter hm hq), Walks.set1 hh _ d (Nat.ne_of_lt (Heap.lt_size hm)) H v slot, ⟨0, Heap.get?_push_size _ rfl, Heap.get?_push_of_some _ hm, fun _ => rfl, nofun⟩⟩
end
end Mine
end
section
namespace Mine
section
variable {prog : Program} {w : World} {A : Around} {E : Value -> Shared -> Prop} {s : Shared} {d q : Addr} {H : Int} {v : Value} {slot : Nat}
namespace sort_oneH
noncomputable def Stm (progC : Program) (wC : World) (AC : Around) (EC : Value -> Shared -> Prop) (sC : Shared) (qC : Addr) (vC : Value) (a : Addr) (P : PySem.Fin -> Shared -> Prop) : Prop := ∀  (ho : sC.heap.get? a = some (seqObj "list" #[vC] 0)) (turn : ∀ h tk, (∀ b o, b ≠ a -> sC.heap.get? b = some o -> h.get? b = some o) -> wpAny (model progC wC) AC (call (.ref qC) [vC]) (fun k s' => Keeps { sC with heap := h, toks := tk } s') (fun _ _ => False) { sC with heap := h, toks := tk }) (hP : ∀ h' tk c, (∀ b o, b ≠ a -> sC.heap.get? b = some o -> h'.get? b = some o) -> h'.get? a = some (seqObj "list" #[vC] c) -> P (.done (.ret .none)) { sC with heap := h', toks := tk }), wpAny (model progC wC) AC (ksk_tree a (.ref qC) false) P EC sC
noncomputable def cx (v : (((Program × World) × Around) × ((Value -> Shared -> Prop) × Shared)) × ((Addr × Value) × (Addr × (PySem.Fin -> Shared -> Prop)))) : Prop := Stm v.1.1.1.1 v.1.1.1.2 v.1.1.2 v.1.2.1 v.1.2.2 v.2.1.1 v.2.1.2 v.2.2.1 v.2.2.2
noncomputable section
def tup := pk (by walk_at "ne") cx
@[irreducible]def progC:=tup.1.1.1.1
@[irreducible]def wC:=tup.1.1.1.2
@[irreducible]def AC:=tup.1.1.2
@[irreducible]def EC:=tup.1.2.1
@[irreducible]def sC:=tup.1.2.2
@[irreducible]def qC:=tup.2.1.1
@[irreducible]def vC:=tup.2.1.2
@[irreducible]def a:=tup.2.2.1
@[irreducible]def P:=tup.2.2.2
end
theorem main : Stm progC wC AC EC sC qC vC a P := by
 intro ho turn hP
 have ha : a < sC.heap.objs.size := Heap.lt_size ho
 have s1 := Heap.SameBut.update sC.heap a (Obj.mapSeq fun _ => (#[] : Array Value))
 refine x1_1 (⟨_, get?_update_seq ho fun _ => #[]⟩ : ∃ e1, (sC.heap.update a (Obj.mapSeq fun _ => (#[] : Array Value))).get? a = some (seqObj "list" #[] e1)) fun e1 ho1 => ?_
 unfold ksk_tree
 refine wpAny_bind (listItems_at ho rfl ?_)
 refine wpAny_bind (listUpdate_at ho rfl ?_ (by show 1 <= _; decide) (Nat.zero_le _))
 refine wpAny_bind (seqEpoch_at ho1 rfl ?_)
 refine wpAny_bind (wpAny_newTuple ?_ (by show 1 <= _; decide))
 refine wpAny_bind (wpAny_newList ?_ (Nat.zero_le _))
 refine wpAny_holding ?_
 have k1 : ∀ b o, b ≠ a -> sC.heap.get? b = some o -> (sC.heap.update a (Obj.mapSeq fun _ => (#[] : Array Value))).get? b = some o := fun b o n e => (s1.2 b n).trans e
 generalize sC.heap.update a (Obj.mapSeq fun _ => (#[] : Array Value)) = h1 at ho1 k1 ⊢
 try dsimp only
 have k2 : ∀ b o, b ≠ a -> sC.heap.get? b = some o -> (h1.push { cls := .type "tuple", data := .seq #[vC] }).get? b = some o := fun b o n e => Heap.get?_push_of_some _ (k1 b o n e)
 have ho2 : (h1.push { cls := .type "tuple", data := .seq #[vC] }).get? a = some (seqObj "list" #[] e1) := Heap.get?_push_of_some _ ho1
 generalize (h1.push { cls := .type "tuple", data := .seq #[vC] }) = h2 at k2 ho2 ⊢
 have hkS : (h2.push (seqObj "list" #[] 0)).get? h2.objs.size = some (seqObj "list" #[] 0) := Heap.get?_push_size _ rfl
 have k3 : ∀ b o, b ≠ a -> sC.heap.get? b = some o -> (h2.push (seqObj "list" #[] 0)).get? b = some o := fun b o n e => Heap.get?_push_of_some _ (k2 b o n e)
 have ho3 : (h2.push (seqObj "list" #[] 0)).get? a = some (seqObj "list" #[] e1) := Heap.get?_push_of_some _ ho2
 have hka : h2.objs.size ≠ a := Nat.ne_of_gt (Heap.lt_size ho2)
 have hkn : ∀ b o, b ≠ a -> sC.heap.get? b = some o -> b ≠ h2.objs.size := fun b o n e => Nat.ne_of_lt (Heap.lt_size (k2 b o n e))
 show wpAny _ _ (ksk_rest a (.ref qC) false #[vC] e1 (.ref h2.objs.size)) _ _ { sC with heap := h2.push (seqObj "list" #[] 0) }
 generalize h2.push (seqObj "list" #[] 0) = h3 at hkS k3 ho3 ⊢
 generalize h2.objs.size = kS at hkS hka hkn ⊢
 unfold ksk_rest
 refine wpAny_bind (wpAny_rule ?_)
 first
   | rw [List.forIn_toArray]
   | (rw [<- Array.forIn_toList]; simp only [List.toList_toArray])
   | rw [<- Array.forIn_toList]
 refine wpAny_bind ?_
 rw [List.forIn_cons]
 refine wpAny_bind (wpAny_bind (wpAny_attempt (wpAny_mono (turn h3 sC.toks k3) (fun k s' K => ?_) fun _ _ hF => hF.elim)))
 refine x2_2 (K) fun h4 tk hcz2 k4 => ?_
 try clear K
 cases hcz2
 dsimp only
 have hk4 := k4 _ _ hkS
 have ho4 := k4 _ _ ho3
 have k4' : ∀ b o, b ≠ a -> sC.heap.get? b = some o -> h4.get? b = some o := fun b o n e => k4 _ _ (k3 b o n e)
 clear k4
 have s5 := Heap.SameBut.update h4 kS (Obj.mapSeq (·.push k))
 refine x1_1 (⟨_, get?_update_seq hk4 (·.push k)⟩ : ∃ c2, (h4.update kS (Obj.mapSeq (·.push k))).get? kS = some (seqObj "list" #[k] c2)) fun c5 hc5 => ?_
 refine wpAny_bind (listUpdate_at hk4 rfl ?_ (Nat.zero_le _) (by show 1 <= _; decide))
 have ho5 := (s5.2 a hka.symm).trans ho4
 have k5 : ∀ b o, b ≠ a -> sC.heap.get? b = some o -> (h4.update kS (Obj.mapSeq (·.push k))).get? b = some o := fun b o n e => (s5.2 b (hkn b o n e)).trans (k4' b o n e)
 generalize h4.update kS (Obj.mapSeq (·.push k)) = h5 at hc5 ho5 k5 ⊢
 clear s5
 refine wpAny_pure ?_
 show wpAny _ _ (forIn ([] : List Value) PUnit.unit _) _ _ _
 rw [List.forIn_nil]
 refine wpAny_pure ?_
 refine wpAny_bind (listItems_at hc5 rfl ?_)
 unfold ksk_end
 dsimp only
 rw [if_neg Bool.false_ne_true]
 rw [if_pos (by show 1 < 2; decide), if_pos (by show 1 < 2; decide)]
 refine wpAny_bind (wpAny_pure ?_)
 rw [StateT.run_pure]
 refine wpAny_bind (wpAny_pure ?_)
 rw [if_neg Bool.false_ne_true]
 have hz : #[k].zip #[vC] = #[(k, vC)] := by simp
 rw [hz]
 unfold ksk_tail
 have hz2 : Array.map (fun x : Keyed => x.2) (arrOf (SortSt.mk' general' #[(k, vC)] #[] 7 none)) = #[vC] := by
   rw [show arrOf (SortSt.mk' general' #[(k, vC)] #[] 7 none) = #[(k, vC)] from rfl]; simp
 dsimp only
 rw [hz2]
 rw [show (if false = true then (#[vC] : Array Value).reverse else #[vC]) = #[vC] from rfl]
 have s6 := Heap.SameBut.update h5 kS (Obj.mapSeq fun _ => (#[] : Array Value))
 refine wpAny_bind (listUpdate_at hc5 rfl ?_ (by show 1 <= _; decide) (Nat.zero_le _))
 refine wpAny_bind (wpAny_letGo ?_)
 have ho6 := (s6.2 a hka.symm).trans ho5
 have k6 : ∀ b o, b ≠ a -> sC.heap.get? b = some o -> (h5.update kS (Obj.mapSeq fun _ => (#[] : Array Value))).get? b = some o := fun b o n e => (s6.2 b (hkn b o n e)).trans (k5 b o n e)
 refine wpAny_bind (seqEpoch_at ho6 rfl ?_)
 refine wpAny_bind (listUpdate_at ho6 rfl ?_ (Nat.zero_le _) (by show 1 <= _; decide))
 show wpAny _ _ (if (e1 != e1) = true then _ else _) _ _ _
 rw [if_neg (by simp)]
 refine wpAny_pure (hP _ _ _ (fun b o n e => ?_) (get?_update_seq ho6 _))
 rw [Heap.get?_update_ne _ _ _ _ n]
 exact k6 b o n e
end sort_oneH
theorem sort_one {a P} : sort_oneH.Stm prog w A E s q v a P := pk_all (p := sort_oneH.cx) (by with_unfolding_all exact sort_oneH.main) ((((prog, w), A), (E, s)), ((q, v), (a, P)))
theorem sorted_one (hh : A.handled = none) (hd : s.heap.get? d = some (setObj #[(H, v)] 1 (tab1 slot (ledW w)))) {Q : Value -> Shared -> Prop}
   (turn : ∀ h tk, (∀ b o, s.heap.get? b = some o -> h.get? b = some o) -> wpAny (model prog w) A.in1.in1 (call (.ref q) [v]) (fun k s' => Keeps { s with heap := h, toks := tk } s') (fun _ _ => False) { s with heap := h, toks := tk })
   (hQ : ∀ D h' tk c, (∀ b o, s.heap.get? b = some o -> h'.get? b = some o) -> (∀ b o, s.heap.get? b = some o -> b < D) -> h'.get? D = some (listOf #[v] c) -> Q (.ref D) { s with heap := h', toks := tk }) :
   wpAny (model prog w) A (call (.builtin "sorted") [.ref d] [(Str.ofString "key", .ref q)]) Q E s := by
 refine call_function_entry_kw kind_sorted plain_sorted entry_sorted (ksk_s1 _ _) ?_
 unfold Builtin.«sorted»
 refine wpAny_bind (m := checkCount "sorted" 1 1 _) (wpAny_pure ?_)
 refine wpAny_bind (kdu_collect (A := A.in1) kdl_set1 hh hd (by decide) fun h' tk acc hk hacc => ?_)
 have hl : acc.toList.length = 1 := by rw [Array.length_toList]; exact hacc.1
 refine wpAny_bind (wpAny_newList ?_ (by rw [hl]; decide))
 have e : acc.toList = [v] := by
   refine x0_2 (hacc) fun n hx => ?_
   try clear hacc
   match q : acc.toList with
   | [] => rw [q] at hl; cases hl
   | [u] =>
     have := hx 0 u (by rw [<- Array.getElem?_toList, q]; rfl)
     rw [this]
   | _ :: _ :: _ => rw [q] at hl; cases hl
 rw [e]
 have hoL : (h'.push (seqObj "list" #[v] 0)).get? h'.objs.size = some (seqObj "list" #[v] 0) := Heap.get?_push_size _ rfl
 refine wpAny_bind (wpAny_holding (wpAny_call_entry_kw slot_list_sort ⟨_, hoL, rfl⟩ entry_list_sort ?body (ksk_l1 _ _)))
 show wpAny (model prog w) A.in1.in1 (Builtin.«list.sort» ⟨[.ref h'.objs.size], [(Str.ofString "key", .ref q)]⟩) _ _ _
 rw [ksk_t1]
 have hkp : ∀ b o, s.heap.get? b = some o -> (h'.push (seqObj "list" #[v] 0)).get? b = some o /\ b ≠ h'.objs.size := fun b o e => ⟨Heap.get?_push_of_some _ (hk b o e), Nat.ne_of_lt (Heap.lt_size (hk b o e))⟩
 refine sort_one (s := { s with heap := h'.push (seqObj "list" #[v] 0), toks := tk }) hoL (fun h_2 tk_2 k_2 => ?_) fun h_2 tk_2 c k_2 o_2 => ⟨_, rfl, ?_⟩
 · exact turn h_2 tk_2 fun b o e => k_2 b o (hkp b o e).2 (hkp b o e).1
 · exact wpAny_pure ⟨_, rfl, hQ _ _ _ c (fun b o e => k_2 b o (hkp b o e).2 (hkp b o e).1) (fun b o e => Heap.lt_size (hk b o e)) o_2⟩
end
end Mine
end
section
open PySem.Spec
namespace Mine
structure TopB (p : Program) (loose : List Str) (mg mb : Str -> Option Value) (h : Heap) : Prop where
 read : TopRead p loose mg mb h
 bm : ∃ bm ob, mg "__builtins__" = some (.ref bm) /\ bm ≠ builtinsNs /\ h.get? bm = some ob /\ ob.cls = .type "module" /\ ob.dict = some builtinsNs /\ ob.data = .plain
theorem TopB.keeps {p : Program} {loose : List Str} {mg mb : Str -> Option Value} {h h' : Heap} (T : TopB p loose mg mb h) (hk : ∀ b o, h.get? b = some o -> h'.get? b = some o) : TopB p loose mg mb h' :=
 ⟨T.read.keeps hk, let ⟨bm, ob, a, b, c, d⟩ := T.bm; ⟨bm, ob, a, b, hk _ _ c, d⟩⟩
noncomputable def LS (pos : Pos) (qual : Str) (ps : Array Value) (cd : Nat) (oc : Obj) : Prop :=
 ps = #[] \/ (ps = #[rawInt pos.line, rawInt pos.col, .ref cd] /\ ∃ vs t, oc.data = .fields vs /\ vs[1]? = some (.str qual t))
noncomputable def lamTab (pos : Pos) (cd : Nat) : Array Value := #[rawInt pos.line, rawInt pos.col, .ref cd]
section
variable {M : Model} {A : Around} {E : Value -> Shared -> Prop} {s : Shared} {h₀ : Heap} {L a c P : Addr} {m mg mb : Str -> Option Value} {cn : Str} {cs : Scope} {ccd : Value} {cl : List (Str × Addr)} {news : List (Addr × Obj)} {g : Obj -> List (Addr × Obj)}
 {p : Program} {loose : List Str} {name qual : Str} {params : Arguments} {body : Expr} {scope : Scope} {ps : Array Value} {pos : Pos} {firstLine : Nat}
theorem lam_make {cd : Nat} {oc : Obj} {env : Env} {Q : Value -> Shared -> Prop} (F : Fr h₀ L s.heap m) (N : News h₀ L s.heap news) (T : TopB p loose mg mb h₀) (C : CodeHd h₀ c P) (hcd : env.code = .ref c) (hge : env.globals = mainGlobals) (U : UpdF P (tabObj ps) news g) (hm2 : (cd, oc) ∈ news) (S : LS pos qual ps cd oc)
   (hcl : closureFor scope env = pure [])
   (h : ∀ (f c' : Nat) oc' ctv h' tk, Fr h₀ L h' m ->
     News h₀ L h' ((f, kla_obj name qual params body scope [] ((mg "__name__").getD .none) c' ctv) :: (c', oc') :: g (tabObj (lamTab pos c'))) ->
     LS pos qual (lamTab pos c') c' oc' -> h'.CodeRec (.ref c') qual -> (∀ q ∈ news, q.1 < f) -> c' < f -> (∀ q ∈ news, q.1 ≠ cd -> q.1 ≠ c') -> Q (.ref f) { s with heap := h', toks := tk }) :
   wpAny M A (makeFunction name qual params (.expr body) scope env [] [] [] pos firstLine) Q E s := by
 refine x2_4 (U.split) fun own rest hcz2 hgr h1 h2 => ?_
 cases hcz2
 have hm := N (P, tabObj ps) (List.mem_append_right _ (.head _))
 have hgs := T.read.g.keeps F.keep
 refine x2_6 (T.bm) fun bm ob b1 b2 b3 b4 b5 b6 => ?_
 have hgP : mainGlobals ≠ P := fun q => by
   obtain ⟨o, es, ep, e, hd, _⟩ := hgs
   rw [q, hm.1] at e; cases e; cases hd
 have hbP : bm ≠ P := fun q => by
   have e := F.keep _ _ b3
   rw [q, hm.1] at e; cases e; cases b4
 have hbG : bm ≠ mainGlobals := fun q => by
   obtain ⟨o, es, ep, e, hd, _⟩ := T.read.g
   rw [q, e] at b3; cases b3; rw [hd] at b6; cases b6
 have fresh : ∀ b, L < b -> h₀.get? b = none := fun b hb => Heap.get?_none_of_le (Nat.le_trans F.above (Nat.le_of_lt hb))
 have hLs : L < s.heap.objs.size := F.ns.lt
 rcases S with rfl | ⟨rfl, vs, t, hd, hv⟩
 · refine kla_makeFunction (mg := mg) hcl hge hgs hcd (C.keeps F.keep) hm.1 (by exact True.intro) (by rfl) hgP ⟨bm, ob, b1, b2, hbG, hbP, F.keep _ _ b3, b4, b5, b6⟩ fun c' ctv h' tk hx hge hlt hrec htb => ?_
   have hrec' := hrec
   refine x4_4 (hrec) fun c_2 oc vs t e2 hoc hd hv => ?_
   try clear hrec
   cases e2
   have hLc : L < c' := Nat.lt_of_lt_of_le hLs hge
   have old : ∀ b o, h₀.get? b = some o -> h'.get? b = some o := fun b o e => hx b o (fun q => by rw [q, hm.2.2] at e; cases e) (F.keep b o e)
   refine h h'.objs.size c' oc ctv _ tk ⟨(F.ns.extBut hx hm.2.1.symm).push _, fun b o e => Heap.get?_push_of_some _ (old b o e), F.above⟩ (fun q hq => ?_) (.inr ⟨rfl, vs, t, hd, hv⟩)
     ⟨c', oc, vs, t, rfl, Heap.get?_push_of_some _ hoc, hd, hv⟩ (fun q hq => ?_) hlt fun q hq _ => Nat.ne_of_lt (Nat.lt_of_lt_of_le (Heap.lt_size (N q hq).1) hge)
   · rcases List.mem_cons.mp hq with rfl | hq
     · exact i0_3 (Heap.get?_push_size _ rfl) (Nat.ne_of_gt (Nat.lt_trans hLc hlt)) (fresh _ (Nat.lt_trans hLc hlt))
     · rcases List.mem_cons.mp hq with rfl | hq
       · exact i0_3 (Heap.get?_push_of_some _ hoc) (Nat.ne_of_gt hLc) (fresh _ hLc)
       · rw [hgr] at hq
         rcases List.mem_append.mp hq with hq | hq
         · have n := N q (List.mem_append_left _ hq)
           exact ⟨Heap.get?_push_of_some _ (hx _ _ (h1 q hq) n.1), n.2⟩
         · rcases List.mem_cons.mp hq with rfl | hq
           · exact ⟨Heap.get?_push_of_some _ htb, hm.2⟩
           · have n := N q (List.mem_append_right _ (.tail _ hq))
             exact ⟨Heap.get?_push_of_some _ (hx _ _ (h2 q hq) n.1), n.2⟩
   · exact Nat.lt_trans (Nat.lt_of_lt_of_le (Heap.lt_size (N q hq).1) hge) hlt
 · refine kla_makeFunctionHit (mg := mg) (cv := .ref cd) hcl hge hgs hcd (C.keeps F.keep) hm.1 (by simp [TriplesOk, rawInt]) (by simp [codeAmong, rawInt]) ⟨bm, ob, b1, b2, hbG, hbP, F.keep _ _ b3, b4, b5, b6⟩ fun ctv h' tk hk hsz => ?_
   have hLs : L < h'.objs.size := Nat.lt_of_lt_of_le F.ns.lt hsz
   have z := N _ hm2
   have zl : cd < h'.objs.size := Heap.lt_size (hk _ _ z.1)
   refine h h'.objs.size cd oc ctv _ tk ⟨(F.ns.keeps hk).push _, fun b o e => Heap.get?_push_of_some _ (hk b o (F.keep b o e)), F.above⟩ (fun q hq => ?_) (.inr ⟨rfl, vs, t, hd, hv⟩)
     ⟨cd, oc, vs, t, rfl, Heap.get?_push_of_some _ (hk _ _ z.1), hd, hv⟩ (fun q hq => Nat.lt_of_lt_of_le (Heap.lt_size (N q hq).1) hsz) zl fun q _ n => n
   rcases List.mem_cons.mp hq with rfl | hq
   · exact i0_3 (Heap.get?_push_size _ rfl) (Nat.ne_of_gt hLs) (fresh _ hLs)
   · rcases List.mem_cons.mp hq with rfl | hq
     · exact ⟨Heap.get?_push_of_some _ (hk _ _ z.1), z.2⟩
     · rw [hgr] at hq
       exact ⟨Heap.get?_push_of_some _ (hk _ _ (N q hq).1), (N q hq).2⟩
end
end Mine
end
section
open PySem.Spec
namespace Mine
theorem news_below {g : Heap} {L : Addr} {h : Heap} {D : Nat} {news : List (Addr × Obj)} (N : News g L h news) (hf : ∀ b o, h.get? b = some o -> b < D) : ∀ q ∈ news, q.1 < D := fun q hq => hf _ _ (N q hq).1
theorem WH.of2 {h : Heap} {l : List Addr} {s : Shared} {cl : List (Addr × Obj)} (w : ∀ p ∈ cl, h.get? p.1 = some p.2) (e : s.heap = h := by rfl) (el : cl.map (·.1) = l := by rfl) : WH (hideAll h l) s cl := by
 subst e; subst el; exact WH.of w
theorem hid_keep2 {h₀ h : Heap} {l : List Addr} (hk : ∀ b o, h₀.get? b = some o -> h.get? b = some o) (hn : ∀ a ∈ l, h₀.get? a = none) : ∀ b o, h₀.get? b = some o -> (hideAll h l).get? b = some o := fun b o e =>
 hideAll_get _ (hk b o e) fun q => by rw [hn b q] at e; cases e
section
variable {prog : Program} {w : World} {A : Around} {E : Value -> Shared -> Prop} {s : Shared} {env : Env} {p1 p2 p3 pos : Pos} {h₀ : Heap} {L : Addr} {m : Str -> Option Value} {news : List (Addr × Obj)}
theorem setStar_F {K : Frag} {d : Addr} {n : Nat} {x : Str} {tx : Tok} {Q : Value -> Shared -> Prop} (F : Fr h₀ L s.heap m) (N : News h₀ L s.heap news) (X : K.In h₀) (hmem : (d, dictOf [] n) ∈ news) (hs : (d == sysModules) = false)
   (hh : A.handled = none) (hl : env.locals = L) (hk : env.scope.kind = .function) (k1 : env.kindOf "tag" = some .local) (k2 : env.kindOf "attrs" = some .local) (hc : kdsCode K env.code = true) (e1 : m "tag" = some (.str x tx)) (e2 : m "attrs" = some (.ref d))
   (hQ : ∀ (D : Nat) h' tk slot, Fr h₀ L h' m -> News h₀ L h' ((D, setObj #[(hashStr w x, .str x tx)] 1 (tab1 slot (ledW w))) :: news) -> (∀ q ∈ news, q.1 < D) -> Q (.ref D) { s with heap := h', toks := tk }) :
   wpAny (model prog w) A (eval (.Set [.Name "tag" p1, .Starred (.Name "attrs" p2) p3] 0 pos) env) Q E s :=
 eval_setStar hh hk k1 k2 (fun _ h => kds_main (X.keeps F.keep) hc h) (hl ▸ F.ns) e1 e2 (N _ hmem).1 hs fun D h' tk slot hge hD hk =>
   hQ D h' tk slot (fr_keeps F hk) (news_add F N hk hge hD) (news_ne N hge)
end
end Mine
end
section
open PySem.Spec
namespace Mine
section
variable {prog : Program} {w : World} {A : Around} {E : Value -> Shared -> Prop} {env : Env}
namespace dictComp_oneH
noncomputable def Stm (progC : Program) (wC : World) (AC : Around) (EC : Value -> Shared -> Prop) (envC : Env) (s : Shared) (vx iter : Expr) (x yn : Str) (px pk py spos : Pos) (cl : List (Str × Addr)) (pos : Pos) (Q : Flow -> Shared -> Prop) (v : Str) (tv : Tok) : Prop := ∀ {scope : Scope} (hsw : swapsWith (.DictComp (.Name x pk) vx [⟨.Name x px, iter, [], 0⟩] scope pos) (some (.Name yn py)) spos.line envC = pure true) (hyk : envC.kindOf yn = some .local) (hp : (envC.scope.kind == .class || (envC.scope.kind == .module && envC.locals != envC.globals)) = false) (hh : AC.handled = none) (hclos : closureFor scope envC = pure cl) (hcell : ∀ y ∈ scope.names, y.2 ≠ .cell) (hkind : scope.kind = .function) (hnames : ∀ y ∈ scope.names, y.2 = .local -> scope.names.lookup y.1 = some .local) (hx : scope.names.lookup x = some .local) (hd : (x == ("__debug__" : Str)) = false) (h : wpAny (model progC wC) AC (eval iter envC) (fun xv s₁ => ∃ D0 c m, xv = .ref D0 /\ s₁.heap.get? D0 = some (listOf #[.str v tv] c) /\ s₁.heap.Ns envC.locals m /\
     ∀ C h_3 tk m_3 E', (∀ b o, s₁.heap.get? b = some o -> h_3.get? b = some o) -> h_3.Ns C m_3 -> m_3 x = some (.str v tv) ->
       wpAny (model progC wC) AC (eval vx (compEnvC scope cl C envC)) (fun y s_4 => (∀ b o, h_3.get? b = some o -> s_4.heap.get? b = some o) /\
         ∀ (D : Nat) h' tk' o', (∀ b o, s₁.heap.get? b = some o -> b < D) -> h_3.get? D ≠ none -> h'.get? D = some o' -> o'.IsDictOf (PySem.strKind progC wC) [(v, y)] ->
           h'.Ns envC.locals (fun z => if z = yn then some (.ref D) else m z) -> (∀ b o, b ≠ envC.locals -> h_3.get? b = none \/ s₁.heap.get? b = some o -> s_4.heap.get? b = some o -> h'.get? b = some o) -> Q .next { s_4 with heap := h', toks := tk' }) E' { s₁ with heap := h_3, toks := tk }) EC s) (hs : ∀ x, foldedSetIterable iter envC x = pure x), wpAny (model progC wC) AC (exec (.Assign [.Name yn py] (.DictComp (.Name x pk) vx [⟨.Name x px, iter, [], 0⟩] scope pos) spos) envC) Q EC s
noncomputable def cx (v : ((((Program × World) × Around) × ((Value -> Shared -> Prop) × Env)) × (((Shared × Expr) × Expr) × (Str × Str))) × ((((Pos × Pos) × Pos) × (Pos × (List (Str × Addr)))) × ((Pos × (Flow -> Shared -> Prop)) × (Str × Tok)))) : Prop := Stm v.1.1.1.1.1 v.1.1.1.1.2 v.1.1.1.2 v.1.1.2.1 v.1.1.2.2 v.1.2.1.1.1 v.1.2.1.1.2 v.1.2.1.2 v.1.2.2.1 v.1.2.2.2 v.2.1.1.1.1 v.2.1.1.1.2 v.2.1.1.2 v.2.1.2.1 v.2.1.2.2 v.2.2.1.1 v.2.2.1.2 v.2.2.2.1 v.2.2.2.2
noncomputable section
def tup := Mine.pk (by walk_at "ne") cx
@[irreducible]def progC:=tup.1.1.1.1.1
@[irreducible]def wC:=tup.1.1.1.1.2
@[irreducible]def AC:=tup.1.1.1.2
@[irreducible]def EC:=tup.1.1.2.1
@[irreducible]def envC:=tup.1.1.2.2
@[irreducible]def s:=tup.1.2.1.1.1
@[irreducible]def vx:=tup.1.2.1.1.2
@[irreducible]def iter:=tup.1.2.1.2
@[irreducible]def x:=tup.1.2.2.1
@[irreducible]def yn:=tup.1.2.2.2
@[irreducible]def px:=tup.2.1.1.1.1
@[irreducible]def pk:=tup.2.1.1.1.2
@[irreducible]def py:=tup.2.1.1.2
@[irreducible]def spos:=tup.2.1.2.1
@[irreducible]def cl:=tup.2.1.2.2
@[irreducible]def pos:=tup.2.2.1.1
@[irreducible]def Q:=tup.2.2.1.2
@[irreducible]def v:=tup.2.2.2.1
@[irreducible]def tv:=tup.2.2.2.2
end
noncomputable def P1 : {PQ : Scope -> Shared -> Addr -> Nat -> (Str -> Option Value) -> Prop // Hold (∀ a0 a1 a2 a3 a4, PQ a0 a1 a2 a3 a4) -> Stm progC wC AC EC envC s vx iter x yn px pk py spos cl pos Q v tv} := ⟨_, by
 intro hPk
 intro scope hsw hyk hp hh hclos hcell hkind hnames hx hd h hs
 rw [exec_Assign_Name_used _ _ _ _ hsw]
 refine wpAny_bind (wpAny_standAt (wpAny_bind ?_))
 show wpAny _ AC (do let _ <- comprehension (.DictComp (.Name x pk) vx [⟨.Name x px, iter, [], 0⟩] scope pos) scope envC _ newDict false (eval iter envC) (some (assign (.Name yn py) envC))) _ _ s
 refine wpAny_bind (wpAny_mono (wpAny_comprehension_free (use := some (assign (.Name yn py) envC)) (Q := fun _ s' => Q .next s') rfl hs hclos hkind hnames
   (wpAny_mono h (fun xv s₁ h_1 => ?_) fun _ _ e => e)) (fun _ s' hq => wpAny_pure (wpAny_pure hq)) fun _ _ e => e)
 refine x3_4 (h_1) fun D0 c m hcz3 hD0 hN0 turn => ?_
 try clear h_1
 cases hcz3
 repeat (rename (_ : Prop) => hZ; revert hZ)
 intro hPk
 apply hPk.out scope s₁ D0 c m
 ⟩
noncomputable def cx1 (v : ((Scope × Shared) × Addr) × (Nat × (Str -> Option Value))) : Prop := P1.1 v.1.1.1 v.1.1.2 v.1.2 v.2.1 v.2.2
noncomputable section
def tup1 := Mine.pk (by walk_at "ne") cx1
@[irreducible]def scope:=tup1.1.1.1
@[irreducible]def s₁:=tup1.1.1.2
@[irreducible]def D0:=tup1.1.2
@[irreducible]def c:=tup1.2.1
@[irreducible]def m:=tup1.2.2
end
theorem main_1 : P1.1 scope s₁ D0 c m := by
 intro hsw hyk hp hh hclos hcell hkind hnames hx hd h hs hD0 hN0 turn
 have hl : s₁.heap.IsList D0 #[.str v tv] := ⟨_, hD0, rfl, _, rfl⟩
 refine wpAny_pyIter_list hl ?_
 have oI : (s₁.heap.push { cls := .type "list_iterator", data := .fields #[.ref D0, .int 0 0] }).get? s₁.heap.objs.size = some { cls := .type "list_iterator", data := .fields #[.ref D0, .int 0 0] } := Heap.get?_push_size _ rfl
 have upI : ∀ b o, s₁.heap.get? b = some o -> (s₁.heap.push { cls := .type "list_iterator", data := .fields #[.ref D0, .int 0 0] }).get? b = some o := fun b o e => Heap.get?_push_of_some _ e
 have hIlt : ∀ b o, s₁.heap.get? b = some o -> b < s₁.heap.objs.size := fun b o e => Heap.lt_size e
 generalize s₁.heap.push { cls := .type "list_iterator", data := .fields #[.ref D0, .int 0 0] } = H1 at oI upI ⊢
 generalize hIe : s₁.heap.objs.size = I at oI hIlt ⊢
 refine wpAny_newObj_type ?_
 have oD : (H1.push { cls := .type "dict", dict := none, data := .dict #[] }).DictOf (PySem.strKind progC wC) H1.objs.size [] := Heap.DictOf.new H1
 have upD : ∀ b o, H1.get? b = some o -> (H1.push { cls := .type "dict", dict := none, data := .dict #[] }).get? b = some o := fun b o e => Heap.get?_push_of_some _ e
 have hDlt : ∀ b o, H1.get? b = some o -> b < H1.objs.size := fun b o e => Heap.lt_size e
 generalize H1.push { cls := .type "dict", dict := none, data := .dict #[] } = H2 at oD upD ⊢
 generalize hDe : H1.objs.size = D at oD hDlt ⊢
 refine wpAny_newFunctionEnv hcell (by intro y hy; simp at hy) (fun H3 hns hsb => ?_) hkind
 dsimp only at hns hsb ⊢
 have hClt : ∀ b o, H2.get? b = some o -> b < H2.objs.size := fun b o e => Heap.lt_size e
 have upC : ∀ b o, H2.get? b = some o -> H3.get? b = some o := fun b o e => hsb.extBut b o (Nat.ne_of_lt (hClt b o e)) (Heap.get?_push_of_some _ e)
 show codeAny (model progC wC) AC (.compStart (.DictComp (.Name x pk) vx [⟨.Name x px, iter, [], 0⟩] scope pos) 0 (.ref I) (.ref D) (compEnvC scope cl H2.objs.size envC)) (compPost (model progC wC) AC EC (some (assign (.Name yn py) envC)) (fun _ s' => Q .next s') (.ref D) H2.objs.size) _
 clear hsb
 generalize H2.objs.size = C at hns hClt ⊢
 obtain ⟨oDd, hDd, _⟩ := Heap.dictOf_iff.mp oD
 have hIC : I ≠ C := Nat.ne_of_lt (hClt _ _ (upD _ _ oI))
 have hID : I ≠ D := Nat.ne_of_lt (hDlt _ _ oI)
 have hDC : D ≠ C := Nat.ne_of_lt (hClt _ _ hDd)
 have all3 : ∀ b o, s₁.heap.get? b = some o -> H3.get? b = some o /\ b ≠ I /\ b ≠ D /\ b ≠ C := fun b o e => ⟨upC _ _ (upD _ _ (upI _ _ e)), Nat.ne_of_lt (hIlt _ _ e), Nat.ne_of_lt (hDlt _ _ (upI _ _ e)), Nat.ne_of_lt (hClt _ _ (upD _ _ (upI _ _ e)))⟩
 have frD : ∀ b o, s₁.heap.get? b = some o -> b < D := fun b o e => hDlt _ _ (upI _ _ e)
 have oI3 : H3.IsListIter I D0 0 := ⟨_, upC _ _ (upD _ _ oI), rfl, rfl⟩
 have oD3 : H3.DictOf (PySem.strKind progC wC) D [] := oD.at fun o e => upC _ o e
 have hl3 : H3.IsList D0 #[.str v tv] := ⟨_, (all3 _ _ hD0).1, rfl, _, rfl⟩
 have ne0 := (all3 _ _ hD0).2
 have neL : envC.locals ≠ I /\ envC.locals ≠ D /\ envC.locals ≠ C := let ⟨o, _, _, a, _⟩ := hN0; (all3 _ _ a).2
 clear oD upD upI upC hDd oI hIlt hDlt hClt
 have hk0 : (compEnvC scope cl C envC).kindOf x = some .local := lookup_relabel_local hx
 have loop : ∀ s_3 : Shared, s_3 = { s₁ with heap := H3, toks := s₁.toks + ([] : List (Str × Value)).length } ->
     codeAny (model progC wC) AC (.compLoop (.DictComp (.Name x pk) vx [⟨.Name x px, iter, [], 0⟩] scope pos) 0 (.ref I) (.ref D) (compEnvC scope cl C envC)) (compPost (model progC wC) AC EC (some (assign (.Name yn py) envC)) (fun _ s' => Q .next s') (.ref D) C) s_3 := by
   rintro s_3 rfl
   refine codeAny_compLoop_testsD (fun n s => (n = 2 /\ s = { s₁ with heap := H3, toks := s₁.toks + ([] : List (Str × Value)).length }) \/
     (n = 1 /\ s.heap.IsListIter I D0 1 /\ s.heap.IsList D0 #[.str v tv] /\ ∀ h', Heap.ExtBut I s.heap h' -> compPost (model progC wC) AC EC (some (assign (.Name yn py) envC)) (fun _ s' => Q .next s') (.ref D) C (.ok .next) { s with heap := h' })) ?_ 2 (.inl ⟨rfl, rfl⟩)
   rintro n s (⟨rfl, rfl⟩ | ⟨rfl, hi, hl', hd'⟩)
   · refine wpAny_pyNext_list_item oI3 hl3 (x := .str v tv) rfl fun h4 hi4 s4 => ?_
     have hns4 : h4.Ns C _ := hns.sameBut s4 (Ne.symm hIC)
     refine wpAny_assign_Name (wpAny_storeName_local hk0 hns4 (fun h5 hns5 s5 => ?_) (by simp [compEnvC, relabel, hkind]))
     have s5 : Heap.SameBut C h4 h5 := s5
     rw [List.forIn_nil]
     refine wpAny_pure ?_
     rw [if_pos rfl]
     refine wpAny_Name (wpAny_loadName_local (env := compEnvC scope cl C envC) (by simp [compEnvC, relabel, hkind]) hk0 hns5 (by rw [if_pos rfl]) ?_) hd
     have k5 : ∀ b o, s₁.heap.get? b = some o -> h5.get? b = some o := fun b o e => (s5.2 b (all3 b o e).2.2.2).trans ((s4.2 b (all3 b o e).2.1).trans (all3 b o e).1)
     have hi5 : h5.IsListIter I D0 1 := let ⟨o, a, r⟩ := hi4; ⟨o, (s5.2 I hIC).trans a, r⟩
     have hD5 : h5.DictOf (PySem.strKind progC wC) D [] := oD3.at fun o e => (s5.2 D hDC).trans ((s4.2 D (Ne.symm hID)).trans e)
     have hl5 : h5.IsList D0 #[.str v tv] := ⟨_, k5 _ _ hD0, rfl, _, rfl⟩
     refine wpAny_mono (turn C h5 _ _ _ k5 hns5 (by rw [if_pos rfl])) (fun y s_6 hy => ?_) fun _ _ z => z
     revert hy; intro hoq
     refine x0_2 (hoq) fun k6 hy => ?_
     try clear hoq
     refine wpAny_dictSet_pairs (hsz := Nat.zero_le _) (k := v) (strKind_is progC wC v tv) (hD5.at fun o e => k6 _ o e) fun h7 hD7 s7 => ?_
     refine i1_2 1 (by decide) (.inr ⟨rfl, ?_, ?_, ?_⟩)
     · refine x1_2 (hi5) fun o a r => ?_
       try clear hi5
       exact i1_2 o ((s7.2 I hID).trans (k6 _ _ a)) r
     · refine x1_2 (hl5) fun o a r => ?_
       try clear hl5
       exact i1_2 o ((s7.2 D0 ne0.2.1).trans (k6 _ _ a)) r
     · intro h8 s8
       have hns8 : h8.Ns C _ := ((hns5.keeps k6).sameBut s7 (Ne.symm hDC)).extBut s8 (Ne.symm hIC)
       have hN8 : h8.Ns envC.locals m := ((((hN0.keeps k5).keeps k6).sameBut s7 neL.2.1).extBut s8 neL.1)
       refine wpAny_assign_Name (wpAny_storeName_local hyk hN8 (fun h10 hn10 s10 => ?_) hp)
       have hns10 : h10.Ns C _ := hns8.extBut s10.extBut (Ne.symm neL.2.2)
       refine i1_2 _ hns10 (fun h9 s9 => ?_)
       have hD9 : h9.DictOf (PySem.strKind progC wC) D [(v, y)] := (Heap.DictOf.extBut (Heap.DictOf.extBut (Heap.DictOf.extBut hD7 s8 (Ne.symm hID)) s10.extBut (Ne.symm neL.2.1)) s9.extBut hDC)
       refine x1_2 (Heap.dictOf_iff.mp hD9) fun o9 ho9 hd9 => ?_
       obtain ⟨oD5, hoD5, _⟩ := Heap.dictOf_iff.mp hD5
       refine hy D h9 _ o9 frD (by rw [hoD5]; exact nofun) ho9 hd9 (hn10.sameBut s9 neL.2.2) fun b o hbL hb e => ?_
       have hbn : b ≠ I /\ b ≠ D /\ b ≠ C := by
         rcases hb with hb | hb
         · refine i0_3 ?_ ?_ ?_
           · rintro rfl; obtain ⟨o, a, r⟩ := hi5; rw [a] at hb; cases hb
           · rintro rfl; rw [hoD5] at hb; cases hb
           · rintro rfl; obtain ⟨o, _, _, a, _⟩ := hns5; have a : h5.get? b = some o := a; rw [a] at hb; cases hb
         · exact (all3 b o hb).2
       exact (s9.2 b hbn.2.2).trans ((s10.2 b hbL).trans (s8 b o hbn.1 ((s7.2 b hbn.2.1).trans e)))
   · exact wpAny_pyNext_list_end hh hi hl' rfl hd'
 exact codeAny_compStart_dict (loop _ rfl) (wpAny_pyIter_listiter oI3 (loop _ rfl))
theorem main : Stm progC wC AC EC envC s vx iter x yn px pk py spos cl pos Q v tv := P1.2 ⟨fun a0 a1 a2 a3 a4 => Mine.pk_all (p := cx1) (by with_unfolding_all exact main_1) (((a0, a1), a2), (a3, a4))⟩
end dictComp_oneH
theorem dictComp_oneX {s vx iter x yn px pk py spos cl pos Q v tv} : dictComp_oneH.Stm prog w A E env s vx iter x yn px pk py spos cl pos Q v tv := pk_all (p := dictComp_oneH.cx) (by with_unfolding_all exact dictComp_oneH.main) (((((prog, w), A), (E, env)), (((s, vx), iter), (x, yn))), ((((px, pk), py), (spos, cl)), ((pos, Q), (v, tv))))
theorem dictComp_one {s : Shared} {vx iter : Expr} {x yn : Str} {px pk py spos : Pos} {scope : Scope} {cl : List (Str × Addr)} {pos : Pos} {Q : Flow -> Shared -> Prop} {v : Str} {tv : Tok}
   (hsw : swapsWith (.DictComp (.Name x pk) vx [⟨.Name x px, iter, [], 0⟩] scope pos) (some (.Name yn py)) spos.line env = pure true) (hyk : env.kindOf yn = some .local) (hp : (env.scope.kind == .class || (env.scope.kind == .module && env.locals != env.globals)) = false)
   (hh : A.handled = none) (hclos : closureFor scope env = pure cl) (hcell : ∀ y ∈ scope.names, y.2 ≠ .cell) (hkind : scope.kind = .function)
   (hnames : ∀ y ∈ scope.names, y.2 = .local -> scope.names.lookup y.1 = some .local) (hx : scope.names.lookup x = some .local) (hd : (x == ("__debug__" : Str)) = false)
   (h : wpAny (model prog w) A (eval iter env) (fun xv s₁ => ∃ D0 c m, xv = .ref D0 /\ s₁.heap.get? D0 = some (listOf #[.str v tv] c) /\ s₁.heap.Ns env.locals m /\
     ∀ C h_3 tk m_3 E', (∀ b o, s₁.heap.get? b = some o -> h_3.get? b = some o) -> h_3.Ns C m_3 -> m_3 x = some (.str v tv) ->
       wpAny (model prog w) A (eval vx (compEnvC scope cl C env)) (fun y s_4 => (∀ b o, h_3.get? b = some o -> s_4.heap.get? b = some o) /\
         ∀ (D : Nat) h' tk' o', (∀ b o, s₁.heap.get? b = some o -> b < D) -> h_3.get? D ≠ none -> h'.get? D = some o' -> o'.IsDictOf (PySem.strKind prog w) [(v, y)] ->
           h'.Ns env.locals (fun z => if z = yn then some (.ref D) else m z) -> (∀ b o, b ≠ env.locals -> h_3.get? b = none \/ s₁.heap.get? b = some o -> s_4.heap.get? b = some o -> h'.get? b = some o) -> Q .next { s_4 with heap := h', toks := tk' }) E' { s₁ with heap := h_3, toks := tk }) E s)
   (hs : ∀ x, foldedSetIterable iter env x = pure x := by intro _; rfl) :
   wpAny (model prog w) A (exec (.Assign [.Name yn py] (.DictComp (.Name x pk) vx [⟨.Name x px, iter, [], 0⟩] scope pos) spos) env) Q E s := dictComp_oneX hsw hyk hp hh hclos hcell hkind hnames hx hd h hs
end
end Mine
end
section
open PySem.Spec
namespace Mine
noncomputable abbrev lamParams : Arguments := { posonlyargs := [], args := [{ arg := "n", annotation := none, pos := { line := 240, col := 78, endLine := 240, endCol := 79 } }], vararg := none, kwonlyargs := [], kw_defaults := [], kwarg := none, defaults := [] }
noncomputable abbrev lamBody : PySem.Expr := .Call (.Attribute (.Name "n" { line := 240, col := 81, endLine := 240, endCol := 82 }) "split" { line := 240, col := 81, endLine := 240, endCol := 88 })
 [.Constant (.str "}") 0 { line := 240, col := 89, endLine := 240, endCol := 92 }, .Constant (.int 1) 0 { line := 240, col := 94, endLine := 240, endCol := 95 }] [] { line := 240, col := 81, endLine := 240, endCol := 96 }
noncomputable abbrev lamScope : Scope := { kind := .function, names := [("n", .local)], isGenerator := false, isCoroutine := false }
noncomputable abbrev lamPos : Pos := { line := 240, col := 71, endLine := 240, endCol := 96 }
noncomputable abbrev lamQual : Str := "C14NWriterTarget._start.<locals>.<lambda>"
section
variable {w : World} {s : Shared} {R : Result -> Shared -> Prop} {f c' : Addr} {ctv pm : Value} {tv : Tok}
theorem c_lam (T : TopRead p loose mg mb s.heap) (X : (Mine.mk.heap_1 w.params).In s.heap) (ho : s.heap.get? f = some (kla_obj "<lambda>" lamQual lamParams lamBody lamScope [] pm c' ctv)) (hc : s.heap.CodeRec (.ref c') lamQual)
   (hR : ∀ s' v, Keeps s s' -> R (.ok (.ret v)) s') : codeAny (model Challenge.rw_kl0462_01.prog w) (AL 0) (.call (.ref f) ⟨[.str "t" tv], []⟩) R s := by
 revert X
 k_fill
 intro X
 refine kla_callFunE (by decide) ho rfl rfl rfl rfl hc ?_
 refine wpAny_of_eq (a := [(("n" : Str), Value.str "t" tv)]) rfl ?_
 refine wpAny_newFunctionEnv (by show ∀ x ∈ lamScope.names, x.2 ≠ .cell; decide) (by intro y hy; cases hy with | head => rfl | tail _ hy => cases hy) (fun h_1 hns hsb => ⟨T.nolimit.fresh _ hsb, ?_⟩) rfl
 show codeAny _ _ (.expr lamBody (envX lamQual lamScope s.heap.objs.size f (.ref c') [])) _ _
 have F : Fr s.heap s.heap.objs.size h_1 _ := ⟨hns, fun b o e => hsb.extBut b o (Nat.ne_of_lt (Heap.lt_size e)) (Heap.get?_push_of_some _ e), Nat.le_refl _⟩
 have N : News s.heap s.heap.objs.size h_1 [] := News.nil
 refine kla_codeExpr ?_
 generalize s.heap.objs.size = L at F N ⊢
 clear hns hsb
 k_steps
 rename Fr s.heap L _ _ => FF
 exact hR _ _ ⟨_, _, rfl, FF.keep⟩
end
end Mine
end
section
open PySem.Spec
namespace Mine
theorem fn128 (Pm : Params) : fnIn (Mine.mk.heap_1 Pm) 128 = true := by kernel_rfl
section
variable {prog : Program} {w : World} {A : Around} {E : Value -> Shared -> Prop} {s : Shared} {cenv : Env} {p1 p2 pos : Pos} {m : Str -> Option Value} {K : Frag}
theorem parse_val {pc q : Addr} {self : Value} {v : Str} {tv : Tok} {Q : Value -> Shared -> Prop} (hk : cenv.scope.kind = .function) (hkp : cenv.kindOf "parse_qname" = some .cell) (hc : cenv.cells.lookup ("parse_qname" : Str) = some pc)
   (hpc : s.heap.IsCell pc (some (.ref q))) (hq : s.heap.get? q = some (methodObj (.ref 128) self)) (X : K.In s.heap) (hf : fnIn K 128 = true) (hkn : cenv.kindOf "n" = some .local) (hn : s.heap.Ns cenv.locals m) (e : m "n" = some (.str v tv))
   (h : codeAny (model prog w) A (.call (.ref 128) ⟨[self, .str v tv], []⟩) (fun r s' => match r with | .ok (.ret v) => Q v s' | .ok _ => False | .error e => E e s') s) :
   wpAny (model prog w) A (eval (.Call (.Name "parse_qname" p1) [.Name "n" p2] [] pos) cenv) Q E s := by
 rw [arm_eval_Call_Name']
 refine wpAny_bind (wpAny_Name (wpAny_loadName_cell hk hkp hc hpc ?_))
 show wpAny _ _ (callWith pos (.ref q) [] (backTo pos (starEach [.Name "n" p2] cenv)) []) _ _ _
 refine callWith_of rfl (keeps_M (K := K) (q := q) (f := 128) (self := self) hf) (evalArgs_plain ?_)
 refine Calls.spliced_cons (wpAny_Name (wpAny_loadName_local hk hkn hn e ?_))
 refine Calls.spliced_nil ⟨⟨hq, X⟩, ?_⟩
 exact wpAny_call (method_call hq h)
end
end Mine
end
section
open PySem.Spec
namespace Mine
theorem WP.all {h : Heap} {l : List Addr} {s s' : Shared} {cl cl' : List (Addr × Obj)} (P : WP (hideAll h l) s s' cl') (w : ∀ p ∈ cl, h.get? p.1 = some p.2) (el : cl.map (·.1) = l) (hs : ∀ p ∈ cl, p ∈ cl') :
   ∀ b o, h.get? b = some o -> s'.heap.get? b = some o := fun b o e => by
 by_cases hb : b ∈ l
 · rw [<- el] at hb
   refine x1_2 (List.mem_map.mp hb) fun p hp hcz2 => ?_
   cases hcz2
   rw [w p hp] at e
   rw [(P.news p (hs p hp)).1, e]
 · exact P.keep _ _ (hideAll_get _ e hb)
theorem dc_back {g h_1 h_3 hd : Heap} {L : Addr} {m m' : Str -> Option Value} {news cl : List (Addr × Obj)} {l : List Addr} {s s' : Shared} {r Dd : Nat} {ro od : Obj} (F : Fr g L h_1 m) (N : News g L h_1 news) (k3 : ∀ b o, h_1.get? b = some o -> h_3.get? b = some o)
   (P : WP (hideAll h_3 l) s s' ((r, ro) :: cl)) (w : ∀ p ∈ cl, p ∈ news) (hr : ∀ a ∈ l, a ≠ r) (frd : ∀ b o, h_1.get? b = some o -> b < Dd) (h3D : h_3.get? Dd ≠ none) (hdd : hd.get? Dd = some od) (nsd : hd.Ns L m')
   (kd : ∀ b o, b ≠ L -> h_3.get? b = none \/ h_1.get? b = some o -> s'.heap.get? b = some o -> hd.get? b = some o) (el : cl.map (·.1) = l := by rfl) :
   Fr g L hd m' /\ News g L hd ((Dd, od) :: (r, ro) :: news) /\ (∀ q ∈ news, q.1 < Dd) /\ (∀ q ∈ news, q.1 ≠ r) /\ Dd ≠ r := by
 have all := P.all (cl := cl) (fun p hp => k3 _ _ (N p (w p hp)).1) el fun p hp => List.mem_cons_of_mem _ hp
 have zr := P.news (r, ro) List.mem_cons_self
 have r3 : h_3.get? r = none := by
   cases q : h_3.get? r with
   | none => rfl
   | some o =>
     have := hideAll_get l q fun a => hr _ a rfl
     rw [zr.2] at this; cases this
 have gL : ∀ b o, g.get? b = some o -> b ≠ L := fun b o e q => by
   have := Heap.lt_size e
   rw [q] at this
   exact absurd this (Nat.not_lt.mpr F.above)
 have nn : ∀ q ∈ news, hd.get? q.1 = some q.2 := fun q hq => kd _ _ (N q hq).2.1 (.inr (N q hq).1) (all _ _ (k3 _ _ (N q hq).1))
 have nr : ∀ q ∈ news, q.1 ≠ r := fun q hq e => by
   have := k3 _ _ (N q hq).1
   rw [e, r3] at this; cases this
 obtain ⟨oL, _, _, hL, _⟩ := F.ns
 have gn : ∀ b, h_3.get? b = none -> g.get? b = none := fun b e => by
   cases q : g.get? b with
   | none => rfl
   | some o => have := k3 _ _ (F.keep _ _ q); rw [e] at this; cases this
 refine i0_5 ⟨nsd, fun b o e => kd b o (gL b o e) (.inr (F.keep _ _ e)) (all _ _ (k3 _ _ (F.keep _ _ e))), F.above⟩ (fun q hq => ?_) (fun q hq => frd _ _ (N q hq).1) nr (fun e => h3D (e ▸ r3))
 rcases List.mem_cons.mp hq with rfl | hq
 · refine i0_3 hdd (Nat.ne_of_gt (frd _ _ hL)) ?_
   cases q : g.get? Dd with
   | none => rfl
   | some o => exact absurd (frd _ _ (F.keep _ _ q)) (Nat.lt_irrefl _)
 · rcases List.mem_cons.mp hq with rfl | hq
   · have rL : r ≠ L := fun e => by have := k3 _ _ hL; rw [<- e, r3] at this; cases this
     exact i0_3 (kd _ _ rL (.inl r3) zr.1) rL (gn _ r3)
   · exact ⟨nn q hq, (N q hq).2⟩
theorem last_false {prog : Program} {w : World} {A : Around} {E : Value -> Shared -> Prop} {s : Shared} {value slice : PySem.Expr} {l : Addr} {k n : Nat} {u : Tok} {Q : Value -> Shared -> Prop} (hl : s.heap.get? l = some (listOf (List.replicate (k + 1) (Value.bool false)).toArray n)) (h : Q (.bool false) s)
   (hs : subscripted slice false (.ref l) (.int (-1) u) = operate [.ref l, .int (-1) u] (getItem (.ref l) (.int (-1) u)) := by with_unfolding_all rfl) (hg : ∀ r, letTemporaryGo value (.ref l) r = pure () := by intro _; with_unfolding_all rfl) :
   wpAny (model prog w) A (subscriptTail value slice (.ref l) (.int (-1) u)) Q E s := by
 have hl' : s.heap.IsList l (List.replicate (k + 1) (Value.bool false)).toArray := ⟨_, hl, rfl, _, rfl⟩
 have hz : (List.replicate (k + 1) (Value.bool false)).toArray.size = k + 1 := by simp
 refine subscriptTail_builtin hl'.typeIs slot_list_getitem.lookup (wpAny_getItem_list_neg hl' (by decide) (by rw [hz]; omega) (by decide) (x := .bool false) ?_ h) hs hg
 rw [hz, show ((-1 : Int) + ((k + 1 : Nat) : Int)).toNat = k by omega]
 simp
theorem last_falseN {prog : Program} {w : World} {A : Around} {E : Value -> Shared -> Prop} {s : Shared} {h₀ : Heap} {L : Addr} {news : List (Addr × Obj)} {value slice : PySem.Expr} {l : Addr} {k n : Nat} {u : Tok} {Q : Value -> Shared -> Prop} (N : News h₀ L s.heap news) (hm : (l, listOf (List.replicate (k + 1) (Value.bool false)).toArray n) ∈ news) (h : Q (.bool false) s)
   (hs : subscripted slice false (.ref l) (.int (-1) u) = operate [.ref l, .int (-1) u] (getItem (.ref l) (.int (-1) u)) := by with_unfolding_all rfl) (hg : ∀ r, letTemporaryGo value (.ref l) r = pure () := by intro _; with_unfolding_all rfl) :
   wpAny (model prog w) A (subscriptTail value slice (.ref l) (.int (-1) u)) Q E s := last_false (N _ hm).1 h hs hg
theorem append_K {prog : Program} {w : World} {A : Around} {E : Value -> Shared -> Prop} {s : Shared} {g : Heap} {L : Addr} {m : Str -> Option Value} {news news' : List (Addr × Obj)} {l : Addr} {its : Array Value} {n : Nat} {v : Value} {Q : Value -> Shared -> Prop}
   (F : Fr g L s.heap m) (N : News g L s.heap news) (U : Upd l (PySem.W.listOf its n) (PySem.W.listOf (its.push v) (n + 1)) news news') (hz : its.size <= sizeLine)
   (h : ∀ h', Fr g L h' m -> News g L h' news' -> Q .none { s with heap := h' }) : wpAny (model prog w) A (call (.builtin "list.append") [.ref l, v]) Q E s := by
 refine x2_4 (U.split) fun pre post hcz2 hcz3 a b => ?_
 cases hcz2
 cases hcz3
 have z := N (l, PySem.W.listOf its n) (List.mem_append.mpr (.inr (.head _)))
 refine wpAny_call_entry PySem.F.slot_list_append ⟨_, z.1, rfl⟩ PySem.F.entry_list_append ?_ (PySem.F.args_list_append_2 _ _)
 show wpAny _ _ (updateSeq l (·.push v) >>= fun _ => ret .none) _ _ s
 refine wpAny_bind (wpAny_updateSeq z.1 rfl (wpAny_pure ⟨_, rfl, ?_⟩) hz)
 have hs := Heap.SameBut.update s.heap l (Obj.mapSeq (·.push v))
 refine h _ (F.change hs z.2.1 z.2.2) (news_set N a b hs ?_)
 rw [Heap.get?_update_self _ z.1 (by rw [Obj.mapSeq_push_plain]; rfl), Obj.mapSeq_push_plain]
theorem isDict_nil {prog : Program} {w : World} {o : Obj} (h : o.IsDictOf (PySem.strKind prog w) []) : ∃ n, o = dictOf [] n := by
 obtain ⟨es, ep, ⟨a, b, c⟩, d, e, f, g⟩ := h
 obtain ⟨cls, dict, data, slots⟩ := (o)
 try clear o
 simp only at a b c d
 subst a b c d
 refine ⟨ep, ?_⟩
 have hl := f.length
 have : es = #[] := by
   apply Array.eq_empty_of_size_eq_zero
   simpa using hl
 subst this
 rfl
end Mine
end
section
namespace Mine
theorem rep_push (k : Nat) (v : Value) : (List.replicate (k + 1) v).toArray.push v = (List.replicate (k + 1 + 1) v).toArray := by
 rw [List.push_toArray, <- List.replicate_succ']
theorem pres_K {prog : Program} {w : World} {A : Around} {E : Value -> Shared -> Prop} {s : Shared} {g : Heap} {L : Addr} {m : Str -> Option Value} {news news' : List (Addr × Obj)} {l : Addr} {k n : Nat} {Q : Value -> Shared -> Prop}
   (F : Fr g L s.heap m) (N : News g L s.heap news) (U : Upd l (PySem.W.listOf (List.replicate (k + 1) (.bool false)).toArray n) (PySem.W.listOf (List.replicate (k + 1 + 1) (.bool false)).toArray (n + 1)) news news') (hz : k <= 1000)
   (h : ∀ h', Fr g L h' m -> News g L h' news' -> Q .none { s with heap := h' }) : wpAny (model prog w) A (call (.builtin "list.append") [.ref l, .bool false]) Q E s :=
 append_K F N (rep_push k _ ▸ U) (by
   have : (List.replicate (k + 1) (Value.bool false)).toArray.size = k + 1 := by simp
   rw [this]; exact Nat.le_trans (Nat.succ_le_succ hz) (by decide)) h
theorem one_item {prog : Program} {w : World} {A : Around} {E : Value -> Shared -> Prop} {s : Shared} {g : Heap} {L : Addr} {news : List (Addr × Obj)} {value slice : Expr} {d : Addr} {o : Obj} {k : Str} {tk : Tok} {v : Value} {Q : Value -> Shared -> Prop}
   (N : News g L s.heap news) (hm : (d, o) ∈ news) (hd : o.IsDictOf (PySem.strKind prog w) [(k, v)]) (h : Q v { s with toks := s.toks + 1 })
   (hs : subscripted slice false (.ref d) (.str k tk) = operate [.ref d, .str k tk] (getItem (.ref d) (.str k tk)) := by with_unfolding_all rfl) (hg : ∀ r, letTemporaryGo value (.ref d) r = pure () := by intro _; with_unfolding_all rfl) :
   wpAny (model prog w) A (subscriptTail value slice (.ref d) (.str k tk)) Q E s := by
 have hdo : s.heap.DictOf (PySem.strKind prog w) d [(k, v)] := Heap.dictOf_iff.mpr ⟨o, N.get hm, hd⟩
 have hv : valueAt [(k, v)] k = some v := by simp [valueAt]
 exact subscriptTail_builtin hdo.typeIs slot_dict_getitem.lookup (wpAny_getItem_of (strKind_is prog w k tk) hdo.mapOf hv h) hs hg
theorem name0 {prog : Program} {w : World} {A : Around} {E : Value -> Shared -> Prop} {s : Shared} {g : Heap} {L : Addr} {news : List (Addr × Obj)} {value slice : Expr} {r : Addr} {v : Str} {u1 u2 u3 u : Tok} {Q : Value -> Shared -> Prop}
   (N : News g L s.heap news) (hm : (r, nameObj v u1 u2 u3) ∈ news) (h : Q (.str v u1) s)
   (hs : subscripted slice false (.ref r) (.int 0 u) = operate [.ref r, .int 0 u] (getItem (.ref r) (.int 0 u)) := by with_unfolding_all rfl) :
   wpAny (model prog w) A (subscriptTail value slice (.ref r) (.int 0 u)) Q E s :=
 tail_any (s := s) ⟨_, (N _ hm).1, rfl⟩ slot_tuple_getitem.lookup (PyProof.Rows.getItem_tuple (items := #[.str v u1, .str v u2, .str "" u3]) ⟨_, (N _ hm).1, rfl, _, rfl⟩ (by decide) (by decide) (j := 0) rfl rfl h) hs
section
local macro_rules | `(tactic| walk_at "callWith ref") => mGo "h ; ref Mine.callWith_B id:=list.append ?X ?_ | X:bk"
local macro_rules | `(tactic| walk_at "And") => mGo "show And ( BoundAt \"list.append _ _ _ ) _ ; ref And.intro ?X ?_ | X:bk ; nil"
local macro_rules | `(tactic| walk_at "subscriptTail") => mGo "h ; show wpAny _ _ ( subscriptTail _ _ ( Value.ref _ ) ( Value.int -1 _ ) ) _ _ _ ; dflt Mine.last_falseN ?N ?m ?_ | N:k m:m"
local macro_rules | `(tactic| walk_at "subscriptTail Name Name ref str") => mGo "h ; dflt Mine.one_item ?N ?m ?d ?_ | N:k m:m d:a"
local macro_rules | `(tactic| walk_at "subscriptTail Subscript Constant ref int") => mGo "h ; dflt Mine.name0 ?N ?m ?_ | N:k m:m"
namespace st_tailH
noncomputable def Stm (pC : Program) (looseC : List Str) (mgC mbC : Str -> Option Value) (w : World) (g : Heap) (s₁ : Shared) (L Dd r c' x dx bm P data decl ns pmap pres t0 at' e0 nd nn npr np na ne k : Nat) (t : Nat -> Tok) (root done : Bool) (its nss ps : Array Value) (t1 t2 tv u1 u2 u3 : Tok) (m5 : Str -> Option Value) (o2 od oc' : Obj) (Q : Flow -> Shared -> Prop) : Prop := ∀ {name : Str} {qual : Str} {params : Arguments} {body : List Stmt} {scope : Scope} {dV : Value} {kV : Value} {doc : Value} {pm : Value} {cdv : Value} {ct : Value} {oc : Value} {an : Option Addr} {odd : Option Addr} {osl : Array (Option Value)} (T : TopRead pC looseC mgC mbC g) (X : (Mine.mk.heap_1 w.params).In g) (hb : BoundAt "list.append" (.ref P) bm g) (ho : (Mine.mk.heap_1 w.params).lookup 164 = some ⟨oc, odd, .func (fnOf name qual params body scope dV kV doc pm an cdv ct), osl⟩) (B : 161 < P /\ P < dx /\ dx < x /\ x < t0 /\ t0 < decl /\ decl < ns /\ ns < pres /\ pres < at' /\ at' < e0 /\ e0 < L + 1 /\ L + 1 < Dd) (br : P ≠ r /\ dx ≠ r /\ x ≠ r /\ ns ≠ r /\ pres ≠ r) (bc : P ≠ c' /\ dx ≠ c' /\ x ≠ c' /\ ns ≠ c' /\ pres ≠ c') (hk : k <= 1000) (hnz : nss.size <= 1000) (hpz : ps.size <= 9000) (hat : ((at' : Addr) == sysModules) = false) (hcl : o2.data = .cell (some (.ref x))) (isd : od.IsDictOf (PySem.strKind Challenge.rw_kl0462_01.prog w) [("t", .ref r)]) (F : Fr g L s₁.heap (fun y => if y = "tag" then some (.str "t" tv) else if y = "attrs" then some (.ref at') else if y = "new_namespaces" then some (.ref e0) else if y = "qname_text" then some .none else if y = "parsed_qnames" then some (.ref Dd) else m5 y)) (N : News g L s₁.heap [(Dd, od), (r, nameObj "t" u1 u2 u3), (c', oc'), (L + 1, o2), (x, instObj 188 dx), (dx, dictOf (wEs w.params t bm data decl ns pmap pres root done) 18), (decl, listOf its nd), (ns, listOf nss nn),
     (pres, listOf (List.replicate (k + 1) (.bool false)).toArray npr), (P, listOf ps np), (t0, pairObj t1 t2), (at', dictOf [] na), (e0, listOf #[] ne), (161, tabObj (lamTab lamPos c'))]) (hQ : ∀ s' (a : Nat) tw tx nn' npr' np', WP g s₁ s' [(x, instObj 188 dx), (dx, dictOf (wEs w.params t bm data decl ns pmap pres true done) 18), (decl, listOf its nd), (ns, listOf (nss.push (.ref a)) nn'), (pres, listOf (List.replicate (k + 1 + 1) (.bool false)).toArray npr'), (P, listOf ((ps.push (.str "<t" tw)).push (.str ">" tx)) np'), (t0, pairObj t1 t2), (at', dictOf [] na), (e0, listOf #[] ne), (161, tabObj (lamTab lamPos c')), (c', oc')] -> Q .next s'), wpAny (model Challenge.rw_kl0462_01.prog w) ((AL 2).deeper (envOfC qual scope L 164 cdv)) (execs (body.drop 7) (envOfC qual scope L 164 cdv)) Q NF s₁
noncomputable def cx (v : (((((Program × (List Str)) × (Str -> Option Value)) × (((Str -> Option Value) × World) × Heap)) × (((Shared × Nat) × Nat) × ((Nat × Nat) × Nat))) × ((((Nat × Nat) × Nat) × ((Nat × Nat) × Nat)) × (((Nat × Nat) × Nat) × ((Nat × Nat) × Nat)))) × (((((Nat × Nat) × Nat) × ((Nat × Nat) × Nat)) × ((((Nat -> Tok) × Bool) × Bool) × (((Array Value) × (Array Value)) × (Array Value)))) × ((((Tok × Tok) × Tok) × ((Tok × Tok) × Tok)) × ((((Str -> Option Value) × Obj) × Obj) × (Obj × (Flow -> Shared -> Prop)))))) : Prop := Stm v.1.1.1.1.1.1 v.1.1.1.1.1.2 v.1.1.1.1.2 v.1.1.1.2.1.1 v.1.1.1.2.1.2 v.1.1.1.2.2 v.1.1.2.1.1.1 v.1.1.2.1.1.2 v.1.1.2.1.2 v.1.1.2.2.1.1 v.1.1.2.2.1.2 v.1.1.2.2.2 v.1.2.1.1.1.1 v.1.2.1.1.1.2 v.1.2.1.1.2 v.1.2.1.2.1.1 v.1.2.1.2.1.2 v.1.2.1.2.2 v.1.2.2.1.1.1 v.1.2.2.1.1.2 v.1.2.2.1.2 v.1.2.2.2.1.1 v.1.2.2.2.1.2 v.1.2.2.2.2 v.2.1.1.1.1.1 v.2.1.1.1.1.2 v.2.1.1.1.2 v.2.1.1.2.1.1 v.2.1.1.2.1.2 v.2.1.1.2.2 v.2.1.2.1.1.1 v.2.1.2.1.1.2 v.2.1.2.1.2 v.2.1.2.2.1.1 v.2.1.2.2.1.2 v.2.1.2.2.2 v.2.2.1.1.1.1 v.2.2.1.1.1.2 v.2.2.1.1.2 v.2.2.1.2.1.1 v.2.2.1.2.1.2 v.2.2.1.2.2 v.2.2.2.1.1.1 v.2.2.2.1.1.2 v.2.2.2.1.2 v.2.2.2.2.1 v.2.2.2.2.2
noncomputable section
def tup := pk (by walk_at "ne") cx
@[irreducible]def pC:=tup.1.1.1.1.1.1
@[irreducible]def looseC:=tup.1.1.1.1.1.2
@[irreducible]def mgC:=tup.1.1.1.1.2
@[irreducible]def mbC:=tup.1.1.1.2.1.1
@[irreducible]def w:=tup.1.1.1.2.1.2
@[irreducible]def g:=tup.1.1.1.2.2
@[irreducible]def s₁:=tup.1.1.2.1.1.1
@[irreducible]def L:=tup.1.1.2.1.1.2
@[irreducible]def Dd:=tup.1.1.2.1.2
@[irreducible]def r:=tup.1.1.2.2.1.1
@[irreducible]def c':=tup.1.1.2.2.1.2
@[irreducible]def x:=tup.1.1.2.2.2
@[irreducible]def dx:=tup.1.2.1.1.1.1
@[irreducible]def bm:=tup.1.2.1.1.1.2
@[irreducible]def P:=tup.1.2.1.1.2
@[irreducible]def data:=tup.1.2.1.2.1.1
@[irreducible]def decl:=tup.1.2.1.2.1.2
@[irreducible]def ns:=tup.1.2.1.2.2
@[irreducible]def pmap:=tup.1.2.2.1.1.1
@[irreducible]def pres:=tup.1.2.2.1.1.2
@[irreducible]def t0:=tup.1.2.2.1.2
@[irreducible]def at':=tup.1.2.2.2.1.1
@[irreducible]def e0:=tup.1.2.2.2.1.2
@[irreducible]def nd:=tup.1.2.2.2.2
@[irreducible]def nn:=tup.2.1.1.1.1.1
@[irreducible]def npr:=tup.2.1.1.1.1.2
@[irreducible]def np:=tup.2.1.1.1.2
@[irreducible]def na:=tup.2.1.1.2.1.1
@[irreducible]def ne:=tup.2.1.1.2.1.2
@[irreducible]def k:=tup.2.1.1.2.2
@[irreducible]def t:=tup.2.1.2.1.1.1
@[irreducible]def root:=tup.2.1.2.1.1.2
@[irreducible]def done:=tup.2.1.2.1.2
@[irreducible]def its:=tup.2.1.2.2.1.1
@[irreducible]def nss:=tup.2.1.2.2.1.2
@[irreducible]def ps:=tup.2.1.2.2.2
@[irreducible]def t1:=tup.2.2.1.1.1.1
@[irreducible]def t2:=tup.2.2.1.1.1.2
@[irreducible]def tv:=tup.2.2.1.1.2
@[irreducible]def u1:=tup.2.2.1.2.1.1
@[irreducible]def u2:=tup.2.2.1.2.1.2
@[irreducible]def u3:=tup.2.2.1.2.2
@[irreducible]def m5:=tup.2.2.2.1.1.1
@[irreducible]def o2:=tup.2.2.2.1.1.2
@[irreducible]def od:=tup.2.2.2.1.2
@[irreducible]def oc':=tup.2.2.2.2.1
@[irreducible]def Q:=tup.2.2.2.2.2
end
theorem main : Stm pC looseC mgC mbC w g s₁ L Dd r c' x dx bm P data decl ns pmap pres t0 at' e0 nd nn npr np na ne k t root done its nss ps t1 t2 tv u1 u2 u3 m5 o2 od oc' Q := by
 intro name qual params body scope dV kV doc pm cdv ct oc an odd osl T X hb ho B br bc hk hnz hpz hat hcl isd F N hQ
 have oS : SrtF 161 [P, dx, x, t0, decl, ns, pres, at', e0, L + 1, Dd] := B
 have kS1 : Key "call ref" := trivial
 have kS2 : Key "call builtin:list.append" := trivial
 revert X ho
 k_fill
 intro X ho
 have e := ho.symm.trans (by k_is)
 refine x0_3 (fnE e) fun hcz0 hcz1 hcz2 => ?_
 cases hcz0
 cases hcz1
 cases hcz2
 clear e
 clear ho
 dsimp only [List.drop]
 have fA : PyProof.V.FlatPairs PyData.str [] [] := .nil
 have hA : (dictOf [] na).IsDictOf (PySem.strKind Challenge.rw_kl0462_01.prog w) [] := ⟨#[], na, ⟨rfl, rfl, rfl⟩, rfl, fun e he => by simp at he, .nil, List.nodup_nil⟩
 k_steps
 unfold Stop
 refine pres_K (by k_asm) (by k_asm) (by k_upd) hk fun h_2 F_2 N_2 => ?_
 replace F_2 := Hold.mk F_2
 replace N_2 := Hold.mk N_2
 repeat (rename Fr _ _ _ _ => hz; clear hz)
 repeat (rename News _ _ _ _ => hz; clear hz)
 replace F_2 := F_2.out
 replace N_2 := N_2.out
 k_steps
 unfold Stop
 refine write_K (by k_asm) (by k_asm) hb (by k_upd) ?_ fun h_2 F_2 N_2 => ?_
 · first | exact Nat.le_trans hpz (by decide) | (rw [Array.size_push]; exact Nat.le_trans (Nat.succ_le_succ hpz) (by decide))
 replace F_2 := Hold.mk F_2
 replace N_2 := Hold.mk N_2
 repeat (rename Fr _ _ _ _ => hz; clear hz)
 repeat (rename News _ _ _ _ => hz; clear hz)
 replace F_2 := F_2.out
 replace N_2 := N_2.out
 k_steps
 unfold Stop
 refine write_K (by k_asm) (by k_asm) hb (by k_upd) ?_ fun h_2 F_2 N_2 => ?_
 · first | exact Nat.le_trans hpz (by decide) | (rw [Array.size_push]; exact Nat.le_trans (Nat.succ_le_succ hpz) (by decide))
 replace F_2 := Hold.mk F_2
 replace N_2 := Hold.mk N_2
 repeat (rename Fr _ _ _ _ => hz; clear hz)
 repeat (rename News _ _ _ _ => hz; clear hz)
 replace F_2 := F_2.out
 replace N_2 := N_2.out
 k_steps
 unfold Stop
 refine append_K (by k_asm) (by k_asm) (by k_upd) (Nat.le_trans hnz (by decide)) fun h_2 F_2 N_2 => ?_
 replace F_2 := Hold.mk F_2
 replace N_2 := Hold.mk N_2
 repeat (rename Fr _ _ _ _ => hz; clear hz)
 repeat (rename News _ _ _ _ => hz; clear hz)
 replace F_2 := F_2.out
 replace N_2 := N_2.out
 k_steps
 have e : (Str.ofString "<" ++ Str.ofString "t" : Str) = Str.ofString "<t" := by decide +kernel
 rw [e] at N_2
 refine' hQ _ ?a ?tw ?tx ?nn ?npr ?np ⟨F_2.keep, ?N, rfl, id⟩
 case N => repeat' (first | exact List.forall_mem_nil _ | (refine List.forall_mem_cons.mpr ⟨let z := N_2 _ (by k_mem); ⟨z.1, z.2.2⟩, ?_⟩))
end st_tailH
theorem st_tail {w g s₁ L Dd r c' x dx bm P data decl ns pmap pres t0 at' e0 nd nn npr np na ne k t root done its nss ps t1 t2 tv u1 u2 u3 m5 o2 od oc' Q} : st_tailH.Stm p loose mg mb w g s₁ L Dd r c' x dx bm P data decl ns pmap pres t0 at' e0 nd nn npr np na ne k t root done its nss ps t1 t2 tv u1 u2 u3 m5 o2 od oc' Q := pk_all (p := st_tailH.cx) (by with_unfolding_all exact st_tailH.main) ((((((p, loose), mg), ((mb, w), g)), (((s₁, L), Dd), ((r, c'), x))), ((((dx, bm), P), ((data, decl), ns)), (((pmap, pres), t0), ((at', e0), nd)))), (((((nn, npr), np), ((na, ne), k)), (((t, root), done), ((its, nss), ps))), ((((t1, t2), tv), ((u1, u2), u3)), (((m5, o2), od), (oc', Q)))))
end
end Mine
end
section
namespace Mine
theorem code161 (Pm : Params) : codeHdIn (Mine.mk.heap_1 Pm) 163 161 = true := by kernel_rfl
section
local macro_rules | `(tactic| walk_at "callWith ref") => mGo "h ; ref Mine.callWith_B id:=list.append ?X ?_ | X:bk"
local macro_rules | `(tactic| walk_at "And") => mGo "show And ( BoundAt \"list.append _ _ _ ) _ ; ref And.intro ?X ?_ | X:bk ; nil"
local macro_rules | `(tactic| walk_at "subscriptTail") => mGo "h ; dflt Mine.last_falseN ?N ?m ?_ | N:k m:m"
variable {w : World} {g : Heap} {s : Shared} {x dx bm P data decl ns pmap pres t0 at' e0 : Nat} {t : Nat -> Tok} {root done : Bool} {R : Result -> Shared -> Prop}
namespace c__startH
noncomputable def Stm (pC : Program) (looseC : List Str) (mgC mbC : Str -> Option Value) (wC : World) (gC : Heap) (sC : Shared) (xC dxC bmC PC dataC declC nsC pmapC presC t0C at'C e0C : Nat) (tC : Nat -> Tok) (rootC doneC : Bool) (RC : Result -> Shared -> Prop) (its : Array Value) (nd nn npr np na ne k : Nat) (as : Nat -> Addr) (vals : Nat -> Array Value) (nss ps : Array Value) (t1 t2 tv : Tok) (cd : Nat) (pst : Array Value) : Prop := ∀ {oc : Obj} (TB : TopB pC looseC mgC mbC gC) (T : TopRead pC looseC mgC mbC gC) (X : (Mine.mk.heap_1 wC.params).In gC) (hb : BoundAt "list.append" (.ref PC) bmC gC) (o1 : 243 < PC /\ PC < dxC /\ dxC < xC /\ xC < t0C /\ t0C < declC /\ declC < nsC /\ nsC < presC /\ presC < at'C /\ at'C < e0C) (hk0 : k <= 1000) (hnz : nss.size <= 1000) (hpz : ps.size <= 9000) (o2 : PC ≠ cd /\ dxC ≠ cd /\ xC ≠ cd /\ t0C ≠ cd /\ declC ≠ cd /\ nsC ≠ cd /\ presC ≠ cd /\ at'C ≠ cd /\ e0C ≠ cd /\ 161 ≠ cd) (W : WH gC sC [(xC, instObj 188 dxC), (dxC, dictOf (wEs wC.params tC bmC dataC declC nsC pmapC presC rootC doneC) 18), (declC, listOf its nd), (nsC, listOf nss nn), (presC, listOf (List.replicate (k + 1) (.bool false)).toArray npr), (PC, listOf ps np), (t0C, pairObj t1 t2), (at'C, dictOf [] na), (e0C, listOf #[] ne), (161, tabObj pst), (cd, oc)]) (hat : ((at'C : Addr) == sysModules) = false) (LS0 : LS lamPos lamQual pst cd oc) (hv : ∀ j, j < its.size -> its[j]? = some (.ref (as j)) /\ (gC.IsList (as j) (vals j) \/ (as j = e0C /\ vals j = #[]))) (hz : its.size <= 100) (hfl : ((List.range its.size).flatMap fun j => (vals (its.size - 1 - j)).toList) = [.ref t0C]) (hR : ∀ s' (a c' : Nat) oc' tw tx nn' npr' np', WP gC sC s' [(xC, instObj 188 dxC), (dxC, dictOf (wEs wC.params tC bmC dataC declC nsC pmapC presC true doneC) 18), (declC, listOf its nd), (nsC, listOf (nss.push (.ref a)) nn'), (presC, listOf (List.replicate (k + 1 + 1) (.bool false)).toArray npr'), (PC, listOf ((ps.push (.str "<t" tw)).push (.str ">" tx)) np'), (t0C, pairObj t1 t2), (at'C, dictOf [] na), (e0C, listOf #[] ne), (161, tabObj (lamTab lamPos c')), (c', oc')] ->
    LS lamPos lamQual (lamTab lamPos c') c' oc' -> (PC ≠ c' /\ dxC ≠ c' /\ xC ≠ c' /\ t0C ≠ c' /\ declC ≠ c' /\ nsC ≠ c' /\ presC ≠ c' /\ at'C ≠ c' /\ e0C ≠ c' /\ 161 ≠ c') -> RC (.ok (.ret .none)) s'), codeAny (model Challenge.rw_kl0462_01.prog wC) (AL 2) (.call (.ref 164) ⟨[.ref xC, .str "t" tv, .ref at'C, .ref e0C], []⟩) RC sC
noncomputable def cx (v : (((((Program × (List Str)) × (Str -> Option Value)) × ((Str -> Option Value) × World)) × (((Heap × Shared) × Nat) × (Nat × Nat))) × ((((Nat × Nat) × Nat) × (Nat × Nat)) × (((Nat × Nat) × Nat) × (Nat × (Nat -> Tok))))) × (((((Bool × Bool) × (Result -> Shared -> Prop)) × ((Array Value) × Nat)) × (((Nat × Nat) × Nat) × (Nat × Nat))) × ((((Nat × (Nat -> Addr)) × (Nat -> Array Value)) × ((Array Value) × (Array Value))) × (((Tok × Tok) × Tok) × (Nat × (Array Value)))))) : Prop := Stm v.1.1.1.1.1.1 v.1.1.1.1.1.2 v.1.1.1.1.2 v.1.1.1.2.1 v.1.1.1.2.2 v.1.1.2.1.1.1 v.1.1.2.1.1.2 v.1.1.2.1.2 v.1.1.2.2.1 v.1.1.2.2.2 v.1.2.1.1.1.1 v.1.2.1.1.1.2 v.1.2.1.1.2 v.1.2.1.2.1 v.1.2.1.2.2 v.1.2.2.1.1.1 v.1.2.2.1.1.2 v.1.2.2.1.2 v.1.2.2.2.1 v.1.2.2.2.2 v.2.1.1.1.1.1 v.2.1.1.1.1.2 v.2.1.1.1.2 v.2.1.1.2.1 v.2.1.1.2.2 v.2.1.2.1.1.1 v.2.1.2.1.1.2 v.2.1.2.1.2 v.2.1.2.2.1 v.2.1.2.2.2 v.2.2.1.1.1.1 v.2.2.1.1.1.2 v.2.2.1.1.2 v.2.2.1.2.1 v.2.2.1.2.2 v.2.2.2.1.1.1 v.2.2.2.1.1.2 v.2.2.2.1.2 v.2.2.2.2.1 v.2.2.2.2.2
noncomputable section
def tup := pk (by walk_at "ne") cx
@[irreducible]def pC:=tup.1.1.1.1.1.1
@[irreducible]def looseC:=tup.1.1.1.1.1.2
@[irreducible]def mgC:=tup.1.1.1.1.2
@[irreducible]def mbC:=tup.1.1.1.2.1
@[irreducible]def wC:=tup.1.1.1.2.2
@[irreducible]def gC:=tup.1.1.2.1.1.1
@[irreducible]def sC:=tup.1.1.2.1.1.2
@[irreducible]def xC:=tup.1.1.2.1.2
@[irreducible]def dxC:=tup.1.1.2.2.1
@[irreducible]def bmC:=tup.1.1.2.2.2
@[irreducible]def PC:=tup.1.2.1.1.1.1
@[irreducible]def dataC:=tup.1.2.1.1.1.2
@[irreducible]def declC:=tup.1.2.1.1.2
@[irreducible]def nsC:=tup.1.2.1.2.1
@[irreducible]def pmapC:=tup.1.2.1.2.2
@[irreducible]def presC:=tup.1.2.2.1.1.1
@[irreducible]def t0C:=tup.1.2.2.1.1.2
@[irreducible]def at'C:=tup.1.2.2.1.2
@[irreducible]def e0C:=tup.1.2.2.2.1
@[irreducible]def tC:=tup.1.2.2.2.2
@[irreducible]def rootC:=tup.2.1.1.1.1.1
@[irreducible]def doneC:=tup.2.1.1.1.1.2
@[irreducible]def RC:=tup.2.1.1.1.2
@[irreducible]def its:=tup.2.1.1.2.1
@[irreducible]def nd:=tup.2.1.1.2.2
@[irreducible]def nn:=tup.2.1.2.1.1.1
@[irreducible]def npr:=tup.2.1.2.1.1.2
@[irreducible]def np:=tup.2.1.2.1.2
@[irreducible]def na:=tup.2.1.2.2.1
@[irreducible]def ne:=tup.2.1.2.2.2
@[irreducible]def k:=tup.2.2.1.1.1.1
@[irreducible]def as:=tup.2.2.1.1.1.2
@[irreducible]def vals:=tup.2.2.1.1.2
@[irreducible]def nss:=tup.2.2.1.2.1
@[irreducible]def ps:=tup.2.2.1.2.2
@[irreducible]def t1:=tup.2.2.2.1.1.1
@[irreducible]def t2:=tup.2.2.2.1.1.2
@[irreducible]def tv:=tup.2.2.2.1.2
@[irreducible]def cd:=tup.2.2.2.2.1
@[irreducible]def pst:=tup.2.2.2.2.2
end
noncomputable def P1 : {PQ : Obj -> Nat -> Heap -> Nat -> Obj -> Obj -> Nat -> Nat -> Heap -> Nat -> Nat -> Prop // Hold (∀ a0 a1 a2 a3 a4 a5 a6 a7 a8 a9 a10, PQ a0 a1 a2 a3 a4 a5 a6 a7 a8 a9 a10) -> Stm pC looseC mgC mbC wC gC sC xC dxC bmC PC dataC declC nsC pmapC presC t0C at'C e0C tC rootC doneC RC its nd nn npr np na ne k as vals nss ps t1 t2 tv cd pst} := ⟨_, by
 intro hPk
 intro oc TB T X hb o1 hk0 hnz hpz o2 W hat LS0 hv hz hfl hR
 have oS : SrtF 161 [243, PC, dxC, xC, t0C, declC, nsC, presC, at'C, e0C] := ⟨by decide, o1⟩
 have kS1 : Key "call ref" := trivial
 have kS2 : Key "call builtin:list.append" := trivial
 have kS3 : Key "eval Set" := trivial
 have kS4 : Key "eval Lambda" := trivial
 have kS5 : Key "call builtin:sorted" := trivial
 have kS6 : Key "exec Assign cons DictComp" := trivial
 revert X
 k_fill
 intro X
 have ho := Eq.trans (rfl : (Mine.mk.heap_1 wC.params).lookup 164 = (Mine.mk.heap_1 wC.params).lookup 164) (by k_is)
 refine' callCW (binds := [("self", .ref xC), ("tag", .str "t" tv), ("attrs", .ref at'C), ("new_namespaces", .ref e0C), ("qname_text", .none)]) W X T.nolimit ?ho ?hcd (by decide) ?bi ?lo ?nd ?_ ?c1 ?c2 ?c3
 case ho => k_is
 case hcd => k_is
 case bi => exact binds_K (X.keeps W.keep) rfl (by k_is) rfl rfl rfl
 case lo => rfl
 case nd => decide +kernel
 case c1 => rfl
 case c2 => rfl
 case c3 => rfl
 intro L h_1 tk cells F N Y eL lL
 k_lt lL
 k_cells Y
 simp only [List.cons_append, List.nil_append] at N
 k_steps
 show wpAny _ _ _ _ _ _
 refine setStar_F (d := at'C) (n := na) (by assumption) (by assumption) X (by k_mem) hat rfl rfl rfl rfl rfl rfl rfl rfl fun D h' tk' slot F' N' l1 => ?_
 k_lt l1
 rename_i zi1 zi2 zi3 zi4 zi5
 repeat (rename (_ : Prop) => hZ; revert hZ)
 intro hPk
 exact hPk.out oc L h_1 zi1 zi2 zi3 tk D h' tk' slot
 ⟩
noncomputable def cx1 (v : (((Obj × Nat) × Heap) × ((Nat × Obj) × Obj)) × (((Nat × Nat) × Heap) × (Nat × Nat))) : Prop := P1.1 v.1.1.1.1 v.1.1.1.2 v.1.1.2 v.1.2.1.1 v.1.2.1.2 v.1.2.2 v.2.1.1.1 v.2.1.1.2 v.2.1.2 v.2.2.1 v.2.2.2
noncomputable section
def tup1 := pk (by walk_at "ne") cx1
@[irreducible]def oc:=tup1.1.1.1.1
@[irreducible]def L:=tup1.1.1.1.2
@[irreducible]def h_1:=tup1.1.1.2
@[irreducible]def zi1:=tup1.1.2.1.1
@[irreducible]def zi2:=tup1.1.2.1.2
@[irreducible]def zi3:=tup1.1.2.2
@[irreducible]def tk:=tup1.2.1.1.1
@[irreducible]def D:=tup1.2.1.1.2
@[irreducible]def h':=tup1.2.1.2
@[irreducible]def tk':=tup1.2.2.1
@[irreducible]def slot:=tup1.2.2.2
end
noncomputable def P2 : {PQ : Heap -> Addr -> Heap -> Obj -> Heap -> Nat -> Nat -> Heap -> Addr -> Heap -> Heap -> Obj -> Nat -> Nat -> Obj -> Value -> Heap -> Nat -> Prop // Hold (∀ a0 a1 a2 a3 a4 a5 a6 a7 a8 a9 a10 a11 a12 a13 a14 a15 a16 a17, PQ a0 a1 a2 a3 a4 a5 a6 a7 a8 a9 a10 a11 a12 a13 a14 a15 a16 a17) -> P1.1 oc L h_1 zi1 zi2 zi3 tk D h' tk' slot} := ⟨_, by
 intro hPk
 intro TB T hb o1 hk0 hnz hpz o2 W hat LS0 hv hz hfl hR oS kS1 kS2 kS3 kS4 kS5 kS6 X ho F eL lL _ _ N F' N' l1
 k_steps
 refine Stop.go ?_
 show wpAny _ _ _ _ _ _
 refine dictComp_one (v := "t") (tv := tv) (by with_unfolding_all rfl) rfl rfl rfl rfl (by decide) rfl (by decide) rfl (by decide) ?_
 k_steps
 show wpAny _ _ _ _ _ _
 refine kla_eval rfl ?_
 refine' lam_make (c := 163) (P := 161) (cd := cd) (oc := oc) (ps := pst) (by assumption) (by assumption) TB (codeHd_of_K X (code161 _)) rfl rfl ?U (by k_mem) ?S rfl ?_
 case U => k_updF
 case S => assumption
 intro f c' oc' ctv hf tkf F' N' S' cr l1 l2 l3
 k_lt l1
 try dsimp only at N'
 rename_i zi1 zi2 zi3 zi4 zi5 zi6 zi7 zi8 zi9 zi10 zi11 zi12 zi13 zi14 zi15 zi16 zi17 zi18 zi19 zi20 zi21 zi22 zi23 zi24 zi25 zi26
 repeat (rename (_ : Prop) => hZ; revert hZ)
 intro hPk
 exact hPk.out zi6 zi7 zi8 zi9 zi16 zi17 tk zi18 zi19 zi20 zi22 zi23 f c' oc' ctv hf tkf
 ⟩
noncomputable def cx2 (v : ((((Heap × Addr) × Heap) × (Obj × Heap)) × ((Nat × Nat) × (Heap × Addr))) × ((((Heap × Heap) × Obj) × (Nat × Nat)) × ((Obj × Value) × (Heap × Nat)))) : Prop := P2.1 v.1.1.1.1.1 v.1.1.1.1.2 v.1.1.1.2 v.1.1.2.1 v.1.1.2.2 v.1.2.1.1 v.1.2.1.2 v.1.2.2.1 v.1.2.2.2 v.2.1.1.1.1 v.2.1.1.1.2 v.2.1.1.2 v.2.1.2.1 v.2.1.2.2 v.2.2.1.1 v.2.2.1.2 v.2.2.2.1 v.2.2.2.2
noncomputable section
def tup2 := pk (by walk_at "ne") cx2
@[irreducible]def zi6:=tup2.1.1.1.1.1
@[irreducible]def zi7:=tup2.1.1.1.1.2
@[irreducible]def zi8:=tup2.1.1.1.2
@[irreducible]def zi9:=tup2.1.1.2.1
@[irreducible]def zi16:=tup2.1.1.2.2
@[irreducible]def zi17:=tup2.1.2.1.1
@[irreducible]def tk_2:=tup2.1.2.1.2
@[irreducible]def zi18:=tup2.1.2.2.1
@[irreducible]def zi19:=tup2.1.2.2.2
@[irreducible]def zi20:=tup2.2.1.1.1.1
@[irreducible]def zi22:=tup2.2.1.1.1.2
@[irreducible]def zi23:=tup2.2.1.1.2
@[irreducible]def f:=tup2.2.1.2.1
@[irreducible]def c':=tup2.2.1.2.2
@[irreducible]def oc':=tup2.2.2.1.1
@[irreducible]def ctv:=tup2.2.2.1.2
@[irreducible]def hf:=tup2.2.2.2.1
@[irreducible]def tkf:=tup2.2.2.2.2
end
theorem main_2 : P2.1 zi6 zi7 zi8 zi9 zi16 zi17 tk_2 zi18 zi19 zi20 zi22 zi23 f c' oc' ctv hf tkf := by
 intro TB T hb o1 hk0 hnz hpz o2 W hat LS0 hv hz hfl hR oS kS1 kS2 kS3 kS4 kS5 kS6 X ho eL lL _ _ _ _ _ _ _ _ _ _ _ _ _ _ _ F' N' S' cr l2 l3 l1
 k_steps
 show wpAny _ _ _ _ _ _
 refine' sorted_one (d := D) (q := f) (H := hashStr wC "t") (v := .str "t" tv) (slot := slot) rfl ?g1 (fun h tk_2 hk => callC 0 (c_lam (p := pC) (loose := looseC) (mg := mgC) (mb := mbC) (c' := c') (ctv := ctv) (pm := (mgC "__name__").getD .none) ?t1 ?t2 (hk _ _ ?t3) ?t4 fun s' v K => K)) fun D2 h' tk' c hk hfr hD2 => ?_
 case g1 => exact (N' (D, _) (by k_mem)).1
 case t1 => exact T.keeps fun b o e => hk _ _ (F'.keep b o e)
 case t2 => exact X.keeps fun b o e => hk _ _ (F'.keep b o e)
 case t3 => exact (N' (f, _) (by k_mem)).1
 case t4 => exact let ⟨c_2, oc, vs, tC, e, h1, r⟩ := cr; ⟨c_2, oc, vs, tC, e, hk _ _ h1, r⟩
 have F2 := fr_keeps F' hk
 have N2 := news_keep N' hk
 have fr2 := news_below N' hfr
 k_lt fr2
 refine i3_4 D2 c _ rfl hD2 F2.ns (fun C h_3 tk_3 m_3 E' k3 n3 e3 => ?_)
 have F3 := fr_keeps F2 k3
 have N3 := news_keep N2 k3
 refine' parse_val (K := Mine.mk.heap_1 wC.params) (m := m_3) (self := .ref xC) (v := "t") (tv := tv) ?v0 ?vk ?vc ?v1 ?v2 (X.keeps F3.keep) (fn128 _) ?vn n3 e3 ?_
 case v0 => rfl
 case vk => rfl
 case vc => rfl
 case vn => rfl
 case v1 =>
   refine' ⟨_, (N3 (L + 1 + 1, _) ?m).1, ?d⟩
   case d => assumption
   case m => k_mem
 case v2 => exact (N3 (_, _) (by k_mem)).1
 have K3 : ∀ b o, gC.get? b = some o -> (hideAll h_3 [xC, dxC, declC, t0C]).get? b = some o := by
   refine hid_keep2 F3.keep fun a ha => ?_
   simp only [List.mem_cons, List.not_mem_nil, or_false] at ha
   rcases ha with rfl | rfl | rfl | rfl <;> exact (N3 (_, _) (by k_mem)).2.2
 refine' code_lift (B := AL 1) (c_qname (g := hideAll h_3 [xC, dxC, declC, t0C]) (t1 := t1) (t2 := t2) (its := its) (nd := nd) (as := as) (vals := vals) (T.keeps K3) (X.keeps K3) ?W ?hv hz hfl ?_) rfl (by exact Nat.le_of_ble_eq_true rfl) rfl rfl (by exact Nat.le_of_ble_eq_true rfl)
 case W =>
   refine WH.of2 fun pC hp => ?_
   simp only [List.mem_cons, List.not_mem_nil, or_false] at hp
   rcases hp with rfl | rfl | rfl | rfl <;> exact (N3 (_, _) (by k_mem)).1
 case hv =>
   intro j hj
   refine ⟨(hv j hj).1, ?_⟩
   rcases (hv j hj).2 with q | ⟨q1, q2⟩
   · exact let ⟨o, a, r⟩ := q; ⟨o, K3 _ _ a, r⟩
   · rw [q1, q2]
     refine ⟨_, hideAll_get _ (N3 (e0C, _) (by k_mem)).1 ?_, rfl, _, rfl⟩
     simp only [List.mem_cons, List.not_mem_nil, or_false]
     rintro (q | q | q | q) <;> (have q : (e0C : Nat) = _ := q; omega)
 intro s' r u1 u2 u3 Pq lr
 show _ /\ _
 refine ⟨?_, fun Dd hd tkd od frd nd0 hdd isd nsd kd => ?_⟩
 · refine Pq.all (cl := [(xC, instObj 188 dxC), (dxC, dictOf (wEs wC.params tC bmC dataC declC nsC pmapC presC rootC doneC) 18), (declC, listOf its nd), (t0C, pairObj t1 t2)]) (fun pC hp => ?_) rfl fun pC hp => List.mem_cons_of_mem _ hp
   simp only [List.mem_cons, List.not_mem_nil, or_false] at hp
   rcases hp with rfl | rfl | rfl | rfl <;> exact (N3 (_, _) (by k_mem)).1
 refine x0_5 (dc_back F2 N2 k3 Pq (fun pC hp => by
     simp only [List.mem_cons, List.not_mem_nil, or_false] at hp
     rcases hp with rfl | rfl | rfl | rfl <;> k_mem) (fun a ha => by
     simp only [List.mem_cons, List.not_mem_nil, or_false] at ha
     rcases ha with rfl | rfl | rfl | rfl <;> (first | exact Nat.ne_of_lt lr.1 | exact Nat.ne_of_lt lr.2.1 | exact Nat.ne_of_lt lr.2.2.1 | exact Nat.ne_of_lt lr.2.2.2)) frd nd0 hdd nsd kd) fun F5 N5 l5 n5 nDr => ?_
 have N6 : News gC L hd [(Dd, od), (r, nameObj "t" u1 u2 u3), (c', oc'), (L + 1, _), (xC, instObj 188 dxC), (dxC, dictOf (wEs wC.params tC bmC dataC declC nsC pmapC presC rootC doneC) 18), (declC, listOf its nd), (nsC, listOf nss nn),
     (presC, listOf (List.replicate (k + 1) (.bool false)).toArray npr), (PC, listOf ps np), (t0C, pairObj t1 t2), (at'C, dictOf [] na), (e0C, listOf #[] ne), (161, tabObj (lamTab lamPos c'))] := fun q hq => by
   refine N5 q ?_
   refine (?_ : ∀ q ∈ _, q ∈ _) _ hq
   walk_at "sub"
 have b1 : xC ≠ r := n5 (xC, _) (by k_mem)
 have b2 : dxC ≠ r := n5 (dxC, _) (by k_mem)
 have b3 : declC ≠ r := n5 (declC, _) (by k_mem)
 have b4 : nsC ≠ r := n5 (nsC, _) (by k_mem)
 have b5 : presC ≠ r := n5 (presC, _) (by k_mem)
 have b6 : PC ≠ r := n5 (PC, _) (by k_mem)
 have b7 : 161 ≠ r := n5 (161, _) (by k_mem)
 have d1 : xC ≠ c' := l3 (xC, _) (by k_mem) (by show xC ≠ cd; omega)
 have d2 : dxC ≠ c' := l3 (dxC, _) (by k_mem) (by show dxC ≠ cd; omega)
 have d3 : declC ≠ c' := l3 (declC, _) (by k_mem) (by show declC ≠ cd; omega)
 have d4 : nsC ≠ c' := l3 (nsC, _) (by k_mem) (by show nsC ≠ cd; omega)
 have d5 : presC ≠ c' := l3 (presC, _) (by k_mem) (by show presC ≠ cd; omega)
 have d6 : PC ≠ c' := l3 (PC, _) (by k_mem) (by show PC ≠ cd; omega)
 have d7 : t0C ≠ c' := l3 (t0C, _) (by k_mem) (by show t0C ≠ cd; omega)
 have d8 : at'C ≠ c' := l3 (at'C, _) (by k_mem) (by show at'C ≠ cd; omega)
 have d9 : e0C ≠ c' := l3 (e0C, _) (by k_mem) (by show e0C ≠ cd; omega)
 have d10 : 161 ≠ c' := l3 (161, _) (by k_mem) (by show 161 ≠ cd; omega)
 have e1 : presC < Dd := l5 (presC, _) (by k_mem)
 have e2 : e0C < Dd := l5 (e0C, _) (by k_mem)
 have e3 : c' < Dd := l5 (c', _) (by k_mem)
 have e4 : L + 1 < Dd := l5 (L + 1, _) (by k_mem)
 have b8 : at'C ≠ r := n5 (at'C, _) (by k_mem)
 have b9 : e0C ≠ r := n5 (e0C, _) (by k_mem)
 have os' : s'.os = sC.os := Pq.os
 have ba' : AllBare sC.gens -> AllBare s'.gens := Pq.bare
 have S2 : LS lamPos lamQual (lamTab lamPos c') c' oc' := S'
 refine x1_6 (⟨_, F5, rfl, rfl, rfl, rfl, rfl⟩ : ∃ m5, Fr gC L hd m5 /\ m5 "tag" = some (.str "t" tv) /\ m5 "attrs" = some (.ref at'C) /\ m5 "new_namespaces" = some (.ref e0C) /\ m5 "qname_text" = some .none /\ m5 "parsed_qnames" = some (.ref Dd)) fun m5 F6 m1 m2 m3 m4 m6 => ?_
 have F7 := fr_know (x := "tag") (fr_know (x := "attrs") (fr_know (x := "new_namespaces") (fr_know (x := "qname_text") (fr_know (x := "parsed_qnames") F6 m6) m4) m3) m2) m1
 rename _ = Data.cell _ => hc1
 clear hc1
 rename _ = Data.cell _ => hcl
 replace hcl : Obj.data _ = Data.cell (some (.ref xC)) := hcl
 refine st_tail (s₁ := { s' with heap := hd, toks := tkd }) (P := PC) (r := r) (c' := c') T X hb ho (by omega) (by omega) (by omega) hk0 hnz hpz hat hcl isd F7 N6 fun s'' a tw tx nn' npr' np' PP => ?_
 exact hR s'' a c' oc' tw tx nn' npr' np' ⟨PP.keep, PP.news, PP.os.trans os', fun z => PP.bare (ba' z)⟩ S2 ⟨d6, d2, d1, d7, d3, d4, d5, d8, d9, d10⟩
theorem main_1 : P1.1 oc L h_1 zi1 zi2 zi3 tk D h' tk' slot := P2.2 ⟨fun a0 a1 a2 a3 a4 a5 a6 a7 a8 a9 a10 a11 a12 a13 a14 a15 a16 a17 => pk_all (p := cx2) (by with_unfolding_all exact main_2) (((((a0, a1), a2), (a3, a4)), ((a5, a6), (a7, a8))), ((((a9, a10), a11), (a12, a13)), ((a14, a15), (a16, a17))))⟩
theorem main : Stm pC looseC mgC mbC wC gC sC xC dxC bmC PC dataC declC nsC pmapC presC t0C at'C e0C tC rootC doneC RC its nd nn npr np na ne k as vals nss ps t1 t2 tv cd pst := P1.2 ⟨fun a0 a1 a2 a3 a4 a5 a6 a7 a8 a9 a10 => pk_all (p := cx1) (by with_unfolding_all exact main_1) ((((a0, a1), a2), ((a3, a4), a5)), (((a6, a7), a8), (a9, a10)))⟩
end c__startH
theorem c__start {its nd nn npr np na ne k as vals nss ps t1 t2 tv cd pst} : c__startH.Stm p loose mg mb w g s x dx bm P data decl ns pmap pres t0 at' e0 t root done R its nd nn npr np na ne k as vals nss ps t1 t2 tv cd pst := pk_all (p := c__startH.cx) (by with_unfolding_all exact c__startH.main) ((((((p, loose), mg), (mb, w)), (((g, s), x), (dx, bm))), ((((P, data), decl), (ns, pmap)), (((pres, t0), at'), (e0, t)))), (((((root, done), R), (its, nd)), (((nn, npr), np), (na, ne))), ((((k, as), vals), (nss, ps)), (((t1, t2), tv), (cd, pst)))))
end
end Mine
end
section
namespace Mine
noncomputable def flushO (ds : DS) : List Str := if ds = [] then [] else [textW ds]
noncomputable def innerG (gs : List (List Nat)) (n : Nat) (c : Nat) : List (List Nat) := gs.filter fun g => decide (c ∈ g) && decide (g.length < n)
noncomputable def toldStep (rec : List Nat -> DS -> List Str -> List Str) (gs : List (List Nat)) (n : Nat) (fg : Nat -> Nat) (st : DS × List Str × List Nat) (c : Nat) : DS × List Str × List Nat :=
 if c ∈ st.2.2 then st else match (innerG gs n c).getLast? with
 | some g => ([], rec g st.1 st.2.1, st.2.2 ++ g)
 | none => (st.1 ++ [(c, fg c)], st.2.1, st.2.2)
noncomputable def told (gs : List (List Nat)) (fg : Nat -> Nat) : Nat -> List Nat -> DS -> List Str -> List Str
 | 0, _, _, out => out
 | n + 1, lv, pend, out =>
   let r := lv.foldl (toldStep (told gs fg n) gs lv.length fg) ([], out ++ flushO pend ++ [Str.ofString "<t", Str.ofString ">"], [])
   r.2.1 ++ flushO r.1 ++ [Str.ofString "</t>"]
theorem flushO_len (ds : DS) : (flushO ds).length <= 1 := by unfold flushO; split <;> simp
noncomputable def toldAt (rec : List Nat -> DS -> List Str -> List Str) (gs : List (List Nat)) (fg : Nat -> Nat) (lv : List Nat) (out : List Str) (i : Nat) : DS × List Str × List Nat :=
 (lv.take i).foldl (toldStep rec gs lv.length fg) ([], out, [])
theorem toldAt_zero (rec gs fg lv out) : toldAt rec gs fg lv out 0 = ([], out, []) := rfl
theorem toldAt_succ {rec gs fg lv out} {i c : Nat} (h : lv[i]? = some c) : toldAt rec gs fg lv out (i + 1) = toldStep rec gs lv.length fg (toldAt rec gs fg lv out i) c := by
 unfold toldAt
 rw [List.take_add_one, h, List.foldl_append]
 rfl
theorem told_succ (gs fg n lv pend out) : told gs fg (n + 1) lv pend out = (toldAt (told gs fg n) gs fg lv (out ++ flushO pend ++ [Str.ofString "<t", Str.ofString ">"]) lv.length).2.1 ++ flushO (toldAt (told gs fg n) gs fg lv (out ++ flushO pend ++ [Str.ofString "<t", Str.ofString ">"]) lv.length).1 ++ [Str.ofString "</t>"] := by
 rw [told, toldAt, List.take_length]
noncomputable def tB : Nat -> Nat
 | 0 => 0
 | n + 1 => 5 + 4 * tB n
theorem toldStep_len {rec gs n fg st c b} (h : ∀ g ∈ gs, ∀ p o, (rec g p o).length <= o.length + b) : (toldStep rec gs n fg st c).2.1.length <= st.2.1.length + b := by
 unfold toldStep
 split
 · omega
 · split
   · rename_i g hq
     exact h g ((List.mem_filter.mp (List.mem_of_getLast? hq)).1) _ _
   · exact Nat.le_add_right _ _
theorem toldAt_len {rec gs fg lv out b} (h : ∀ g ∈ gs, ∀ p o, (rec g p o).length <= o.length + b) : ∀ i, i <= lv.length -> (toldAt rec gs fg lv out i).2.1.length <= out.length + i * b
 | 0, _ => by rw [toldAt_zero]; simp
 | i + 1, hi => by
   have hc : lv[i]? = some lv[i] := List.getElem?_eq_getElem hi
   rw [toldAt_succ hc]
   have h1 := toldAt_len h i (Nat.le_of_succ_le hi) (out := out) (gs := gs) (fg := fg)
   have h2 := toldStep_len (gs := gs) (n := lv.length) (fg := fg) (st := toldAt rec gs fg lv out i) (c := lv[i]) h
   rw [Nat.add_mul]; omega
theorem toldStep_ok {rec gs n fg st c k} (h : OkDs st.1 /\ st.1.length <= k /\ (∀ d ∈ st.2.2, d ∈ [97, 98, 99, 100])) (hc : c ∈ [97, 98, 99, 100]) (hg : ∀ g ∈ gs, ∀ d ∈ g, d ∈ [97, 98, 99, 100]) :
   OkDs (toldStep rec gs n fg st c).1 /\ (toldStep rec gs n fg st c).1.length <= k + 1 /\ (∀ d ∈ (toldStep rec gs n fg st c).2.2, d ∈ [97, 98, 99, 100]) := by
 unfold toldStep
 split
 · exact ⟨h.1, Nat.le_succ_of_le h.2.1, h.2.2⟩
 · split
   · rename_i g hq
     refine ⟨fun d hd => (nomatch hd), Nat.zero_le _, fun d hd => ?_⟩
     rcases List.mem_append.mp hd with hd | hd
     · exact h.2.2 d hd
     · exact hg g ((List.mem_filter.mp (List.mem_of_getLast? hq)).1) d hd
   · refine ⟨fun d hd => ?_, by rw [List.length_append]; exact Nat.succ_le_succ h.2.1, h.2.2⟩
     rcases List.mem_append.mp hd with hd | hd
     · exact h.1 d hd
     · rw [List.mem_singleton.mp hd]; exact hc
theorem toldAt_ok {rec gs fg lv out} (hl : ∀ c ∈ lv, c ∈ [97, 98, 99, 100]) (hg : ∀ g ∈ gs, ∀ d ∈ g, d ∈ [97, 98, 99, 100]) : ∀ i, i <= lv.length ->
   OkDs (toldAt rec gs fg lv out i).1 /\ (toldAt rec gs fg lv out i).1.length <= i /\ (∀ d ∈ (toldAt rec gs fg lv out i).2.2, d ∈ [97, 98, 99, 100])
 | 0, _ => by rw [toldAt_zero]; exact ⟨fun d hd => (nomatch hd), Nat.le_refl _, fun d hd => (nomatch hd)⟩
 | i + 1, hi => by
   have hc : lv[i]? = some lv[i] := List.getElem?_eq_getElem hi
   rw [toldAt_succ hc]
   exact toldStep_ok (toldAt_ok hl hg i (Nat.le_of_succ_le hi)) (hl _ (List.getElem_mem _)) hg
theorem told_len {gs fg} (hg : ∀ g ∈ gs, g.length <= 4) : ∀ n lv pend out, lv.length <= 4 -> (told gs fg n lv pend out).length <= out.length + tB n
 | 0, _, _, _, _ => Nat.le_refl _
 | n + 1, lv, pend, out, h => by
   rw [told_succ]
   have h1 := toldAt_len (rec := told gs fg n) (gs := gs) (fg := fg) (lv := lv) (out := out ++ flushO pend ++ [Str.ofString "<t", Str.ofString ">"]) (b := tB n) (fun g hgs p o => told_len hg n g p o (hg g hgs)) lv.length (Nat.le_refl _)
   have h2 := flushO_len pend
   have h3 := flushO_len (toldAt (told gs fg n) gs fg lv (out ++ flushO pend ++ [Str.ofString "<t", Str.ofString ">"]) lv.length).1
   have h4 : lv.length * tB n <= 4 * tB n := Nat.mul_le_mul_right _ h
   simp only [List.length_append, List.length_cons, List.length_nil] at h1 h3 ⊢
   rw [tB]
   omega
end Mine
end
section
namespace Mine
noncomputable def Pcs (ps : Array Value) (ys : List Str) : Prop := ∃ l : List (Str × Tok), ps = (strValues l).toArray /\ l.map (·.1) = ys
theorem Pcs.nil : Pcs #[] [] := ⟨[], rfl, rfl⟩
theorem Pcs.push {ps : Array Value} {ys : List Str} (h : Pcs ps ys) (y : Str) (t : Tok) : Pcs (ps.push (.str y t)) (ys ++ [y]) := by
 refine x1_2 (h) fun l hcz1 hcz2 => ?_
 try clear h
 cases hcz1
 cases hcz2
 exact i1_2 (l ++ [(y, t)]) (by simp [strValues]) (by simp)
theorem Pcs.size {ps : Array Value} {ys : List Str} (h : Pcs ps ys) : ps.size = ys.length := by
 refine x1_2 (h) fun l hcz1 hcz2 => ?_
 try clear h
 cases hcz1
 cases hcz2
 simp [strValues]
noncomputable def DeclOk (g : Heap) (its : Array Value) (t0 : Addr) (n : Nat) : Prop := ∃ (as : Nat -> Addr) (vals : Nat -> Array Value), (∀ j, j < its.size -> its[j]? = some (.ref (as j)) /\ g.IsList (as j) (vals j)) /\ its.size <= n /\ ((List.range its.size).flatMap fun j => (vals (its.size - 1 - j)).toList) = [.ref t0]
theorem base_of {h₀ h : Heap} {L : Addr} {m : Str -> Option Value} {cl rest : List (Addr × Obj)} (F : Fr h₀ L h m) (N : News h₀ L h (cl ++ rest)) : (∀ s : Shared, s.heap = h -> WH (hideAll h (cl.map (·.1))) s cl) /\ (∀ b o, h₀.get? b = some o -> (hideAll h (cl.map (·.1))).get? b = some o) :=
 ⟨fun s e => WH.of2 (fun p hp => (N p (List.mem_append_left _ hp)).1) e, hid_keep2 F.keep fun a ha => by
   refine x1_2 (List.mem_map.mp ha) fun p hp hcz2 => ?_
   cases hcz2
   exact (N p (List.mem_append_left _ hp)).2.2⟩
theorem WP.back2 {h₀ h : Heap} {L : Addr} {m : Str -> Option Value} {s s' : Shared} {cl cl' rest : List (Addr × Obj)} (P : WP (hideAll h (cl.map (·.1))) s s' cl') (F : Fr h₀ L h m) (N : News h₀ L h (cl ++ rest)) (hd : ∀ p ∈ rest, p.1 ∉ cl.map (·.1)) :
   Fr h₀ L s'.heap m /\ News h₀ L s'.heap (cl' ++ rest) :=
 WP.back (s := { s with heap := h }) (cl := cl) ⟨P.keep, P.news, P.os, P.bare⟩ F N hd
noncomputable def offL (e : Nat) : List (Addr × Obj) -> Prop
 | [] => True
 | p :: r => @Ne Nat e p.1 /\ offL e r
noncomputable def offLL (cl : List (Addr × Obj)) : List (Addr × Obj) -> Prop
 | [] => True
 | p :: r => offL p.1 cl /\ offLL cl r
theorem offL.mp {e : Nat} : ∀ {cl : List (Addr × Obj)}, offL e cl -> (e : Addr) ∉ cl.map (·.1)
 | [], _ => List.not_mem_nil
 | p :: r, h => fun hm => by
   rcases List.mem_cons.mp hm with q | q
   · exact h.1 q
   · exact offL.mp h.2 q
theorem neAll_of {e : Nat} : ∀ {cl : List (Addr × Obj)}, offL e cl -> NeAll e (cl.map fun p => p.1)
 | [], _ => trivial
 | p :: r, h => And.intro h.1 (neAll_of (cl := r) h.2)
theorem offLL.mp {cl : List (Addr × Obj)} : ∀ {rest : List (Addr × Obj)}, offLL cl rest -> ∀ p ∈ rest, p.1 ∉ cl.map (·.1)
 | [], _, _, h => nomatch h
 | _ :: _, h, p, hp => by
   rcases List.mem_cons.mp hp with rfl | hp
   · exact offL.mp h.1
   · exact offLL.mp h.2 p hp
theorem decl_flat (n : Nat) (vals : Nat -> Array Value) : ((List.range (n + 1)).flatMap fun j => ((fun i => if i < n then vals i else #[]) (n + 1 - 1 - j)).toList) = (List.range n).flatMap fun j => (vals (n - 1 - j)).toList := by
 rw [List.range_succ_eq_map, List.flatMap_cons, List.flatMap_map]
 have h0 : ((fun i => if i < n then vals i else #[]) (n + 1 - 1 - 0)).toList = [] := by
   show (if n + 1 - 1 - 0 < n then vals (n + 1 - 1 - 0) else #[]).toList = []
   rw [if_neg (by omega)]
 rw [h0, List.nil_append, List.flatMap_def, List.flatMap_def]
 refine congrArg List.flatten (List.map_congr_left fun j hj => ?_)
 have hj : j < n := List.mem_range.mp hj
 show (if n + 1 - 1 - (j + 1) < n then vals (n + 1 - 1 - (j + 1)) else #[]).toList = _
 rw [if_pos (by omega), show n + 1 - 1 - (j + 1) = n - 1 - j by omega]
theorem decl_at {its : Array Value} {as : Nat -> Addr} {vals : Nat -> Array Value} {g : Heap} {e0 : Addr} (hv : ∀ j, j < its.size -> its[j]? = some (.ref (as j)) /\ g.IsList (as j) (vals j)) :
   ∀ j, j < (its.push (.ref e0)).size -> (its.push (.ref e0))[j]? = some (.ref ((fun i => if i < its.size then as i else e0) j)) /\ (g.IsList ((fun i => if i < its.size then as i else e0) j) ((fun i => if i < its.size then vals i else #[]) j) \/ ((fun i => if i < its.size then as i else e0) j = e0 /\ (fun i => if i < its.size then vals i else #[]) j = #[])) := fun j hj => by
 rw [Array.size_push] at hj
 dsimp only
 by_cases h : j < its.size
 · simp only [if_pos h]
   refine ⟨?_, .inl (hv j h).2⟩
   rw [Array.getElem?_push, if_neg (by omega)]
   exact (hv j h).1
 · have e : j = its.size := by omega
   subst e
   simp
theorem DeclOk.push {g g' : Heap} {its : Array Value} {t0 e0 : Addr} {n : Nat} (h : DeclOk g its t0 n) (k : ∀ b o, g.get? b = some o -> g'.get? b = some o) (he : g'.IsList e0 #[]) : DeclOk g' (its.push (.ref e0)) t0 (n + 1) := by
 refine x2_3 (h) fun as vals h1 h2 h3 => ?_
 try clear h
 refine i2_3 (fun i => if i < its.size then as i else e0) (fun i => if i < its.size then vals i else #[]) (fun j hj => ⟨(decl_at (e0 := e0) h1 j hj).1, ?_⟩) (by rw [Array.size_push]; omega) ?_
 · rcases (decl_at (e0 := e0) h1 j hj).2 with q | ⟨q1, q2⟩
   · exact q.at fun o e => k _ o e
   · dsimp only at q1 q2 ⊢
     rw [q1, q2]; exact he
 · rw [Array.size_push, decl_flat]; exact h3
theorem DeclOk.keeps {g g' : Heap} {its : Array Value} {t0 : Addr} {n : Nat} (h : DeclOk g its t0 n) (k : ∀ b o, g.get? b = some o -> g'.get? b = some o) : DeclOk g' its t0 n := by
 refine x2_3 (h) fun as vals h1 h2 h3 => ?_
 try clear h
 exact i2_3 as vals (fun j hj => ⟨(h1 j hj).1, (h1 j hj).2.at fun o e => k _ o e⟩) h2 h3
section
variable {w : World} {g : Heap} {s : Shared} {x dx bm P data decl ns pmap pres t0 at' : Nat} {t : Nat -> Tok} {root done : Bool} {R : Result -> Shared -> Prop}
namespace c_startH
noncomputable def Stm (pC : Program) (looseC : List Str) (mgC mbC : Str -> Option Value) (wC : World) (gC : Heap) (sC : Shared) (xC dxC bmC PC dataC declC nsC pmapC presC t0C at'C : Nat) (tC : Nat -> Tok) (doneC : Bool) (RC : Result -> Shared -> Prop) (its : Array Value) (nd nn npr np na ndd k : Nat) (nss ps : Array Value) (ys : List Str) (t1 t2 tv : Tok) (cd : Nat) (pst : Array Value) : Prop := ∀ {root : Bool} {l : List (Str × Tok)} {ds : DS} {oc : Obj} (TB : TopB pC looseC mgC mbC gC) (T : TopRead pC looseC mgC mbC gC) (X : (Mine.mk.heap_1 wC.params).In gC) (hb : BoundAt "list.append" (.ref PC) bmC gC) (o1 : 243 < PC /\ PC < dxC /\ dxC < xC /\ xC < dataC /\ dataC < t0C /\ t0C < declC /\ declC < nsC /\ nsC < presC /\ presC < at'C) (hk0 : k <= 900) (hnz : nss.size <= 900) (hpz : ys.length <= 8000) (o2 : PC ≠ cd /\ dxC ≠ cd /\ xC ≠ cd /\ dataC ≠ cd /\ t0C ≠ cd /\ declC ≠ cd /\ nsC ≠ cd /\ presC ≠ cd /\ at'C ≠ cd /\ 161 ≠ cd) (W : WH gC sC [(xC, instObj 188 dxC), (dxC, dictOf (wEs wC.params tC bmC dataC declC nsC pmapC presC root doneC) 18), (dataC, listOf (strValues l).toArray ndd), (PC, listOf ps np), (declC, listOf its nd), (nsC, listOf nss nn), (presC, listOf (List.replicate (k + 1) (.bool false)).toArray npr), (t0C, pairObj t1 t2), (at'C, dictOf [] na), (161, tabObj pst), (cd, oc)]) (hl : l.map (·.1) = ds.map leafT) (hd : OkDs ds) (hdz : ds.length <= 100) (hrt : ds ≠ [] -> root = true) (hat : ((at'C : Addr) == sysModules) = false) (LS0 : LS lamPos lamQual pst cd oc) (hv : DeclOk gC its t0C 90) (hp : Pcs ps ys) (hR : ∀ s' (e0 a c' : Nat) oc' ps' ndd' nd' nn' npr' np' ne, WP gC sC s' [(xC, instObj 188 dxC), (dxC, dictOf (wEs wC.params tC bmC dataC declC nsC pmapC presC true doneC) 18), (dataC, listOf #[] ndd'), (PC, listOf ps' np'), (declC, listOf (its.push (.ref e0)) nd'), (nsC, listOf (nss.push (.ref a)) nn'), (presC, listOf (List.replicate (k + 1 + 1) (.bool false)).toArray npr'), (t0C, pairObj t1 t2), (at'C, dictOf [] na), (161, tabObj (lamTab lamPos c')), (c', oc'), (e0, listOf #[] ne)] ->
    Pcs ps' (ys ++ flushO ds ++ [Str.ofString "<t", Str.ofString ">"]) -> LS lamPos lamQual (lamTab lamPos c') c' oc' -> (PC ≠ c' /\ dxC ≠ c' /\ xC ≠ c' /\ dataC ≠ c' /\ t0C ≠ c' /\ declC ≠ c' /\ nsC ≠ c' /\ presC ≠ c' /\ at'C ≠ c' /\ 161 ≠ c' /\ e0 ≠ c') -> at'C < e0 -> RC (.ok (.ret .none)) s'), codeAny (model Challenge.rw_kl0462_01.prog wC) (AL 3) (.call (.ref 158) ⟨[.ref xC, .str "t" tv, .ref at'C], []⟩) RC sC
noncomputable def cx (v : (((((Program × (List Str)) × (Str -> Option Value)) × ((Str -> Option Value) × World)) × (((Heap × Shared) × Nat) × (Nat × Nat))) × ((((Nat × Nat) × Nat) × (Nat × Nat)) × ((Nat × Nat) × (Nat × (Nat -> Tok))))) × (((((Bool × (Result -> Shared -> Prop)) × (Array Value)) × (Nat × Nat)) × ((Nat × Nat) × (Nat × Nat))) × ((((Nat × (Array Value)) × (Array Value)) × (List Str × Tok)) × ((Tok × Tok) × (Nat × (Array Value)))))) : Prop := Stm v.1.1.1.1.1.1 v.1.1.1.1.1.2 v.1.1.1.1.2 v.1.1.1.2.1 v.1.1.1.2.2 v.1.1.2.1.1.1 v.1.1.2.1.1.2 v.1.1.2.1.2 v.1.1.2.2.1 v.1.1.2.2.2 v.1.2.1.1.1.1 v.1.2.1.1.1.2 v.1.2.1.1.2 v.1.2.1.2.1 v.1.2.1.2.2 v.1.2.2.1.1 v.1.2.2.1.2 v.1.2.2.2.1 v.1.2.2.2.2 v.2.1.1.1.1.1 v.2.1.1.1.1.2 v.2.1.1.1.2 v.2.1.1.2.1 v.2.1.1.2.2 v.2.1.2.1.1 v.2.1.2.1.2 v.2.1.2.2.1 v.2.1.2.2.2 v.2.2.1.1.1.1 v.2.2.1.1.1.2 v.2.2.1.1.2 v.2.2.1.2.1 v.2.2.1.2.2 v.2.2.2.1.1 v.2.2.2.1.2 v.2.2.2.2.1 v.2.2.2.2.2
noncomputable section
def tup := pk (by walk_at "ne") cx
@[irreducible]def pC:=tup.1.1.1.1.1.1
@[irreducible]def looseC:=tup.1.1.1.1.1.2
@[irreducible]def mgC:=tup.1.1.1.1.2
@[irreducible]def mbC:=tup.1.1.1.2.1
@[irreducible]def wC:=tup.1.1.1.2.2
@[irreducible]def gC:=tup.1.1.2.1.1.1
@[irreducible]def sC:=tup.1.1.2.1.1.2
@[irreducible]def xC:=tup.1.1.2.1.2
@[irreducible]def dxC:=tup.1.1.2.2.1
@[irreducible]def bmC:=tup.1.1.2.2.2
@[irreducible]def PC:=tup.1.2.1.1.1.1
@[irreducible]def dataC:=tup.1.2.1.1.1.2
@[irreducible]def declC:=tup.1.2.1.1.2
@[irreducible]def nsC:=tup.1.2.1.2.1
@[irreducible]def pmapC:=tup.1.2.1.2.2
@[irreducible]def presC:=tup.1.2.2.1.1
@[irreducible]def t0C:=tup.1.2.2.1.2
@[irreducible]def at'C:=tup.1.2.2.2.1
@[irreducible]def tC:=tup.1.2.2.2.2
@[irreducible]def doneC:=tup.2.1.1.1.1.1
@[irreducible]def RC:=tup.2.1.1.1.1.2
@[irreducible]def its:=tup.2.1.1.1.2
@[irreducible]def nd:=tup.2.1.1.2.1
@[irreducible]def nn:=tup.2.1.1.2.2
@[irreducible]def npr:=tup.2.1.2.1.1
@[irreducible]def np:=tup.2.1.2.1.2
@[irreducible]def na:=tup.2.1.2.2.1
@[irreducible]def ndd:=tup.2.1.2.2.2
@[irreducible]def k:=tup.2.2.1.1.1.1
@[irreducible]def nss:=tup.2.2.1.1.1.2
@[irreducible]def ps:=tup.2.2.1.1.2
@[irreducible]def ys:=tup.2.2.1.2.1
@[irreducible]def t1:=tup.2.2.1.2.2
@[irreducible]def t2:=tup.2.2.2.1.1
@[irreducible]def tv:=tup.2.2.2.1.2
@[irreducible]def cd:=tup.2.2.2.2.1
@[irreducible]def pst:=tup.2.2.2.2.2
end
noncomputable def P1 : {PQ : Obj -> Addr -> Heap -> Nat -> Nat -> (Str -> Option Value) -> Prop // Hold (∀ a0 a1 a2 a3 a4 a5, PQ a0 a1 a2 a3 a4 a5) -> Stm pC looseC mgC mbC wC gC sC xC dxC bmC PC dataC declC nsC pmapC presC t0C at'C tC doneC RC its nd nn npr np na ndd k nss ps ys t1 t2 tv cd pst} := ⟨_, by
 intro hPk
 intro root l ds oc TB T X hb o1 hk0 hnz hpz o2 W hl hd hdz hrt hat LS0 hv hp hR
 have oS : SrtF 161 [243, PC, dxC, xC, dataC, t0C, declC, nsC, presC, at'C] := ⟨by decide, o1⟩
 have kS1 : Key "truthy ref" := trivial
 have kS2 : Key "exec If" := trivial
 have kS3 : Key "call ref" := trivial
 revert X
 k_fill
 intro X
 refine' callW (binds := [("self", .ref xC), ("tag", .str "t" tv), ("attrs", .ref at'C)]) W X T.nolimit ?ho ?hcd (by decide) ?bi ?lo ?_ ?c1 ?c2 ?c3 ?c4
 case ho => k_is
 case hcd => k_is
 case bi => exact BindsTo.of_eq rfl
 case lo => exact locs rfl
 case c1 => rfl
 case c2 => rfl
 case c3 => rfl
 case c4 => decide
 intro L h_1 F N eL up
 k_steps
 unfold Stop
 refine wpAny_If ?_
 k_steps
 unfold Stop
 have hps := hp.size
 have hls : l.length = ds.length := by
   have := congrArg List.length hl
   simpa using this
 refine x1_4 (⟨_, F, rfl, rfl, rfl⟩ : ∃ m, Fr gC L h_1 m /\ m "self" = some (.ref xC) /\ m "tag" = some (.str "t" tv) /\ m "attrs" = some (.ref at'C)) fun m F_1 ms mt ma => ?_
 have F_2 := fr_know (x := "self") (fr_know (x := "tag") (fr_know (x := "attrs") F_1 ma) mt) ms
 clear F F_1 ms mt ma up
 rename_i zi1
 repeat (rename (_ : Prop) => hZ; revert hZ)
 intro hPk
 revert root l ds
 apply hPk.out oc L h_1 zi1 tk m
 ⟩
noncomputable def cx1 (v : ((Obj × Addr) × Heap) × ((Nat × Nat) × (Str -> Option Value))) : Prop := P1.1 v.1.1.1 v.1.1.2 v.1.2 v.2.1.1 v.2.1.2 v.2.2
noncomputable section
def tup1 := pk (by walk_at "ne") cx1
@[irreducible]def oc:=tup1.1.1.1
@[irreducible]def L:=tup1.1.1.2
@[irreducible]def h_1:=tup1.1.2
@[irreducible]def zi1:=tup1.2.1.1
@[irreducible]def tk:=tup1.2.1.2
@[irreducible]def m:=tup1.2.2
end
theorem main_1 : P1.1 oc L h_1 zi1 tk m := by
 intro root l ds TB T hb o1 hk0 hnz hpz o2 W hl hd hdz hrt hat LS0 hv hp hR oS kS1 kS2 kS3 X N eL hps hls F_2
 refine wpAny_mono (Q := fun f s' => Hold (f = .next /\ ∃ ps' ndd' np', Fr gC L s'.heap (fun y => if y = "self" then some (.ref xC) else if y = "tag" then some (.str "t" tv) else if y = "attrs" then some (.ref at'C) else m y) /\
   News gC L s'.heap [(xC, instObj 188 dxC), (dxC, dictOf (wEs wC.params tC bmC dataC declC nsC pmapC presC root doneC) 18), (dataC, listOf #[] ndd'), (PC, listOf ps' np'), (declC, listOf its nd), (nsC, listOf nss nn), (presC, listOf (List.replicate (k + 1) (.bool false)).toArray npr), (t0C, pairObj t1 t2), (at'C, dictOf [] na), (161, tabObj pst), (cd, oc)] /\
   Pcs ps' (ys ++ flushO ds) /\ s'.os = sC.os /\ (AllBare sC.gens -> AllBare s'.gens))) ?_ (fun f s_2 hz => ?_) (fun _ _ z => z)
 · refine wpAny_If ?_
   k_steps
   unfold Stop
   refine wpAny_truthy_list (items := (strValues l).toArray) (News.isList (by assumption) (by k_mem)) ?_ ?_
   · simp [strValues]; omega
   cases l with
   | nil =>
     have hd0 : ds = [] := List.eq_nil_of_length_eq_zero hls.symm
     rw [if_neg (show ¬ ((!(strValues ([] : List (Str × Tok))).toArray.isEmpty) = true) by decide)]
     k_steps
     refine ⟨⟨rfl, ps, ndd, np, by k_asm, by k_asm, ?_, rfl, id⟩⟩
     rw [hd0]
     show Pcs ps (ys ++ [])
     rw [List.append_nil]; exact hp
   | cons q r =>
     have hdp : 0 < ds.length := by rw [<- hls]; exact Nat.succ_pos _
     have hdn : ds ≠ [] := fun e => by rw [e] at hdp; exact absurd hdp (Nat.lt_irrefl _)
     have hr := hrt hdn
     subst hr
     have e : ((!(strValues (q :: r)).toArray.isEmpty) = true) := by simp [strValues]
     rw [if_pos e]
     k_steps
     rename Fr gC L _ _ => F_3
     rename News gC L _ _ => N_3
     refine x0_2 (base_of (cl := [(xC, instObj 188 dxC), (dxC, dictOf (wEs wC.params tC bmC dataC declC nsC pmapC presC true doneC) 18), (dataC, listOf (strValues (q :: r)).toArray ndd), (PC, listOf ps np)]) F_3 N_3) fun W_3 k_3 => ?_
     refine callC 1 (c_flush (p := pC) (loose := looseC) (mg := mgC) (mb := mbC) (T.keeps k_3) (Frag.In.keeps X k_3) (BoundAt.keeps hb k_3) hl hd hdp hdz (by omega) (by omega) (W_3 _ rfl) fun s_4 tw nd' np' PP => ?_)
     refine x0_2 (WP.back2 PP F_3 N_3 (offLL.mp (by simp only [offLL, offL, and_true]; omega))) fun F_4 N_4 => ?_
     dsimp only
     k_steps
     refine ⟨⟨rfl, _, nd', np', F_4, N_4, ?_, PP.os, PP.bare⟩⟩
     have := hp.push (textW ds) tw
     show Pcs _ (ys ++ flushO ds)
     rw [flushO, if_neg hdn]; exact this
 · refine x0_2 hz.out fun hcz0 hoa => ?_
   refine x3_5 hoa fun ps' ndd' np' F_3 N_3 hp' os' ba' => ?_
   clear hoa
   cases hcz0
   dsimp only
   refine x2_3 (id hv) fun as vals hv1 hv2 hv3 => ?_
   k_steps
   unfold Stop
   refine wpAny_If ?_
   k_steps
   unfold Stop
   rename Fr gC L _ _ => F_5
   rename News gC L _ _ => N_5
   rename_i e0 hx1 l1 hx2 tx1 h_5 tx2
   have N_6 : News gC L h_5 ([(xC, instObj 188 dxC), (dxC, dictOf (wEs wC.params tC bmC dataC declC nsC pmapC presC root doneC) 18), (declC, listOf (its.push (.ref e0)) (nd + 1)), (nsC, listOf nss nn), (presC, listOf (List.replicate (k + 1) (.bool false)).toArray npr), (PC, listOf ps' np'), (t0C, pairObj t1 t2), (at'C, dictOf [] na), (e0, listOf #[] 0), (161, tabObj pst), (cd, oc)] ++ [(dataC, listOf #[] ndd')]) := fun q hq => by
     refine N_5 q ?_
     refine (?_ : ∀ q ∈ _, q ∈ _) _ hq
     walk_at "sub"
   refine x0_2 (base_of F_5 N_6) fun W_6 k_6 => ?_
   have hps' := hp'.size
   have hfl : (flushO ds).length <= 1 := by unfold flushO; split <;> simp
   rw [List.length_append] at hps'
   have off : offLL [(xC, instObj 188 dxC), (dxC, dictOf (wEs wC.params tC bmC dataC declC nsC pmapC presC root doneC) 18), (declC, listOf (its.push (.ref e0)) (nd + 1)), (nsC, listOf nss nn), (presC, listOf (List.replicate (k + 1) (.bool false)).toArray npr), (PC, listOf ps' np'), (t0C, pairObj t1 t2), (at'C, dictOf [] na), (e0, listOf #[] 0), (161, tabObj pst), (cd, oc)] [(dataC, listOf #[] ndd')] := by
     simp only [offLL, offL, and_true]; omega
   have hflat := decl_flat its.size vals
   refine callC 2 (c__start (p := pC) (loose := looseC) (mg := mgC) (mb := mbC) (TB.keeps k_6) (T.keeps k_6) (Frag.In.keeps X k_6) (BoundAt.keeps hb k_6) (by omega) (by omega) (by omega) (by omega) (by omega) (W_6 _ rfl) hat LS0
     (as := fun i => if i < its.size then as i else e0) (vals := fun i => if i < its.size then vals i else #[]) (decl_at fun j hj => ⟨(hv1 j hj).1, (hv1 j hj).2.at fun o e => k_6 _ o e⟩) (by rw [Array.size_push]; omega) (by rw [Array.size_push]; exact hflat.trans hv3) fun s_7 a c' oc' tw tx nn' npr' np_2 PP S2 dis => ?_)
   refine x0_2 (WP.back2 PP F_5 N_6 (offLL.mp off)) fun F_7 N_7 => ?_
   have dc : dataC ≠ c' := fun e => by
     have z := (PP.news (c', oc') (by k_mem)).2
     have y := hideAll_get _ (N_6 (dataC, listOf #[] ndd') (by k_mem)).1 (offLL.mp off _ (by k_mem))
     rw [e] at y
     exact nomatch z.symm.trans y
   dsimp only
   k_steps
   refine hR _ e0 a c' oc' ((ps'.push (.str "<t" tw)).push (.str ">" tx)) ndd' (nd + 1) nn' npr' np_2 0 ⟨F_7.keep, fun q hq => ?_, PP.os.trans os', fun z => PP.bare (ba' z)⟩ ?_ S2 (by omega) (by omega)
   · have z := N_7 q (by
       refine (?_ : ∀ q ∈ _, q ∈ _) _ hq
       walk_at "sub")
     exact ⟨z.1, z.2.2⟩
   · have := (hp'.push "<t" tw).push ">" tx
     rw [List.append_assoc] at this
     exact this
theorem main : Stm pC looseC mgC mbC wC gC sC xC dxC bmC PC dataC declC nsC pmapC presC t0C at'C tC doneC RC its nd nn npr np na ndd k nss ps ys t1 t2 tv cd pst := P1.2 ⟨fun a0 a1 a2 a3 a4 a5 => pk_all (p := cx1) (by with_unfolding_all exact main_1) (((a0, a1), a2), ((a3, a4), a5))⟩
end c_startH
theorem c_start {its nd nn npr np na ndd k nss ps ys t1 t2 tv cd pst} : c_startH.Stm p loose mg mb w g s x dx bm P data decl ns pmap pres t0 at' t done R its nd nn npr np na ndd k nss ps ys t1 t2 tv cd pst := pk_all (p := c_startH.cx) (by with_unfolding_all exact c_startH.main) ((((((p, loose), mg), (mb, w)), (((g, s), x), (dx, bm))), ((((P, data), decl), (ns, pmap)), ((pres, t0), (at', t)))), (((((done, R), its), (nd, nn)), ((npr, np), (na, ndd))), ((((k, nss), ps), (ys, t1)), ((t2, tv), (cd, pst)))))
end
end Mine
end
section
namespace Mine
theorem last_app : ∀ (l : List Value) (v : Value), kl_last (l ++ [v]) = some (l, v)
 | [], _ => rfl
 | [a], v => rfl
 | a :: b :: r, v => by
   have ih := last_app (b :: r) v
   show kl_last (a :: b :: (r ++ [v])) = _
   rw [kl_last]
   have : kl_last (b :: (r ++ [v])) = some (b :: r, v) := ih
   rw [this]
theorem pop_K {prog : Program} {w : World} {A : Around} {E : Value -> Shared -> Prop} {s : Shared} {g : Heap} {L : Addr} {m : Str -> Option Value} {news news' : List (Addr × Obj)} {D : Addr} {its : Array Value} {v : Value} {n : Nat} {Q : Value -> Shared -> Prop}
   (F : Fr g L s.heap m) (N : News g L s.heap news) (U : Upd D (PySem.W.listOf (its.push v) n) (PySem.W.listOf its (n + 1)) news news') (hz : its.size <= 9000)
   (h : ∀ h', Fr g L h' m -> News g L h' news' -> Q v { s with heap := h' }) : wpAny (model prog w) A (call (.builtin "list.pop") [.ref D]) Q E s :=
 kl_pop (p := its.toList) (y := v) F N (by rw [Array.toList_push]; exact last_app _ _) (by rw [Array.toArray_toList]; exact U) (by
   rw [Array.toList_push, List.length_append, Array.length_toList]
   exact Nat.le_trans (Nat.succ_le_succ hz) (by decide)) h
theorem pres_pop {prog : Program} {w : World} {A : Around} {E : Value -> Shared -> Prop} {s : Shared} {g : Heap} {L : Addr} {m : Str -> Option Value} {news news' : List (Addr × Obj)} {D : Addr} {k n : Nat} {Q : Value -> Shared -> Prop}
   (F : Fr g L s.heap m) (N : News g L s.heap news) (U : Upd D (PySem.W.listOf (List.replicate (k + 1 + 1) (.bool false)).toArray n) (PySem.W.listOf (List.replicate (k + 1) (.bool false)).toArray (n + 1)) news news') (hz : k <= 1000)
   (h : ∀ h', Fr g L h' m -> News g L h' news' -> Q (.bool false) { s with heap := h' }) : wpAny (model prog w) A (call (.builtin "list.pop") [.ref D]) Q E s :=
 pop_K (its := (List.replicate (k + 1) (.bool false)).toArray) F N (by rw [rep_push]; exact U) (by simp; omega) h
section
local macro_rules | `(tactic| walk_at "callWith ref") => mGo "h ; ref Mine.callWith_B id:=list.append ?X ?_ | X:bk"
local macro_rules | `(tactic| walk_at "And") => mGo "show And ( BoundAt \"list.append _ _ _ ) _ ; ref And.intro ?X ?_ | X:bk ; nil"
local macro_rules | `(tactic| walk_at "subscriptTail") => mGo "h ; show wpAny _ _ ( subscriptTail _ _ ( Value.ref _ ) ( Value.int 0 _ ) ) _ _ _ ; dflt Mine.name0 ?N ?m ?_ | N:k m:m"
variable {w : World} {g : Heap} {s : Shared} {x dx bm P data decl ns pmap pres t0 : Nat} {t : Nat -> Tok} {done : Bool} {R : Result -> Shared -> Prop}
namespace c_endH
noncomputable def Stm (pC : Program) (looseC : List Str) (mgC mbC : Str -> Option Value) (wC : World) (gC : Heap) (sC : Shared) (xC dxC bmC PC dataC declC nsC pmapC presC t0C : Nat) (tC : Nat -> Tok) (RC : Result -> Shared -> Prop) (its : Array Value) (nd nn npr np ndd k : Nat) (nss ps : Array Value) (ys : List Str) (t1 t2 tv : Tok) (ev av : Value) : Prop := ∀ {done : Bool} {l : List (Str × Tok)} {ds : DS} (T : TopRead pC looseC mgC mbC gC) (X : (Mine.mk.heap_1 wC.params).In gC) (hb : BoundAt "list.append" (.ref PC) bmC gC) (o1 : 243 < PC /\ PC < dxC /\ dxC < xC /\ xC < dataC /\ dataC < t0C /\ t0C < declC /\ declC < nsC /\ nsC < presC) (hk0 : k <= 900) (hnz : nss.size <= 900) (hpz : ys.length <= 8000) (W : WH gC sC [(xC, instObj 188 dxC), (dxC, dictOf (wEs wC.params tC bmC dataC declC nsC pmapC presC true done) 18), (dataC, listOf (strValues l).toArray ndd), (PC, listOf ps np), (declC, listOf (its.push ev) nd), (nsC, listOf (nss.push av) nn), (presC, listOf (List.replicate (k + 1 + 1) (.bool false)).toArray npr), (t0C, pairObj t1 t2)]) (hl : l.map (·.1) = ds.map leafT) (hd : OkDs ds) (hdz : ds.length <= 100) (hv : DeclOk gC (its.push ev) t0C 95) (hp : Pcs ps ys) (hR : ∀ s' ps' ndd' nd' nn' npr' np' done', WP gC sC s' [(xC, instObj 188 dxC), (dxC, dictOf (wEs wC.params tC bmC dataC declC nsC pmapC presC true done') 18), (dataC, listOf #[] ndd'), (PC, listOf ps' np'), (declC, listOf its nd'), (nsC, listOf nss nn'), (presC, listOf (List.replicate (k + 1) (.bool false)).toArray npr'), (t0C, pairObj t1 t2)] ->
    Pcs ps' (ys ++ flushO ds ++ [Str.ofString "</t>"]) -> RC (.ok (.ret .none)) s'), codeAny (model Challenge.rw_kl0462_01.prog wC) (AL 3) (.call (.ref 171) ⟨[.ref xC, .str "t" tv], []⟩) RC sC
noncomputable def cx (v : (((((Program × (List Str)) × (Str -> Option Value)) × ((Str -> Option Value) × World)) × ((Heap × Shared) × (Nat × Nat))) × (((Nat × Nat) × (Nat × Nat)) × ((Nat × Nat) × (Nat × Nat)))) × ((((((Nat -> Tok) × (Result -> Shared -> Prop)) × (Array Value)) × (Nat × Nat)) × ((Nat × Nat) × (Nat × Nat))) × ((((Array Value) × (Array Value)) × (List Str × Tok)) × ((Tok × Tok) × (Value × Value))))) : Prop := Stm v.1.1.1.1.1.1 v.1.1.1.1.1.2 v.1.1.1.1.2 v.1.1.1.2.1 v.1.1.1.2.2 v.1.1.2.1.1 v.1.1.2.1.2 v.1.1.2.2.1 v.1.1.2.2.2 v.1.2.1.1.1 v.1.2.1.1.2 v.1.2.1.2.1 v.1.2.1.2.2 v.1.2.2.1.1 v.1.2.2.1.2 v.1.2.2.2.1 v.1.2.2.2.2 v.2.1.1.1.1.1 v.2.1.1.1.1.2 v.2.1.1.1.2 v.2.1.1.2.1 v.2.1.1.2.2 v.2.1.2.1.1 v.2.1.2.1.2 v.2.1.2.2.1 v.2.1.2.2.2 v.2.2.1.1.1 v.2.2.1.1.2 v.2.2.1.2.1 v.2.2.1.2.2 v.2.2.2.1.1 v.2.2.2.1.2 v.2.2.2.2.1 v.2.2.2.2.2
noncomputable section
def tup := pk (by walk_at "ne") cx
@[irreducible]def pC:=tup.1.1.1.1.1.1
@[irreducible]def looseC:=tup.1.1.1.1.1.2
@[irreducible]def mgC:=tup.1.1.1.1.2
@[irreducible]def mbC:=tup.1.1.1.2.1
@[irreducible]def wC:=tup.1.1.1.2.2
@[irreducible]def gC:=tup.1.1.2.1.1
@[irreducible]def sC:=tup.1.1.2.1.2
@[irreducible]def xC:=tup.1.1.2.2.1
@[irreducible]def dxC:=tup.1.1.2.2.2
@[irreducible]def bmC:=tup.1.2.1.1.1
@[irreducible]def PC:=tup.1.2.1.1.2
@[irreducible]def dataC:=tup.1.2.1.2.1
@[irreducible]def declC:=tup.1.2.1.2.2
@[irreducible]def nsC:=tup.1.2.2.1.1
@[irreducible]def pmapC:=tup.1.2.2.1.2
@[irreducible]def presC:=tup.1.2.2.2.1
@[irreducible]def t0C:=tup.1.2.2.2.2
@[irreducible]def tC:=tup.2.1.1.1.1.1
@[irreducible]def RC:=tup.2.1.1.1.1.2
@[irreducible]def its:=tup.2.1.1.1.2
@[irreducible]def nd:=tup.2.1.1.2.1
@[irreducible]def nn:=tup.2.1.1.2.2
@[irreducible]def npr:=tup.2.1.2.1.1
@[irreducible]def np:=tup.2.1.2.1.2
@[irreducible]def ndd:=tup.2.1.2.2.1
@[irreducible]def k:=tup.2.1.2.2.2
@[irreducible]def nss:=tup.2.2.1.1.1
@[irreducible]def ps:=tup.2.2.1.1.2
@[irreducible]def ys:=tup.2.2.1.2.1
@[irreducible]def t1:=tup.2.2.1.2.2
@[irreducible]def t2:=tup.2.2.2.1.1
@[irreducible]def tv:=tup.2.2.2.1.2
@[irreducible]def ev:=tup.2.2.2.2.1
@[irreducible]def av:=tup.2.2.2.2.2
end
noncomputable def P1 : {PQ : Addr -> Heap -> Nat -> Nat -> (Str -> Option Value) -> Prop // Hold (∀ a0 a1 a2 a3 a4, PQ a0 a1 a2 a3 a4) -> Stm pC looseC mgC mbC wC gC sC xC dxC bmC PC dataC declC nsC pmapC presC t0C tC RC its nd nn npr np ndd k nss ps ys t1 t2 tv ev av} := ⟨_, by
 intro hPk
 intro done l ds T X hb o1 hk0 hnz hpz W hl hd hdz hv hp hR
 have oS : SrtF 161 [243, PC, dxC, xC, dataC, t0C, declC, nsC, presC] := ⟨by decide, o1⟩
 have kS1 : Key "truthy ref" := trivial
 have kS2 : Key "exec If" := trivial
 have kS3 : Key "call ref" := trivial
 have kS4 : Key "call builtin:list.pop" := trivial
 revert X
 k_fill
 intro X
 refine' callW (binds := [("self", .ref xC), ("tag", .str "t" tv)]) W X T.nolimit ?ho ?hcd (by decide) ?bi ?lo ?_ ?c1 ?c2 ?c3 ?c4
 case ho => k_is
 case hcd => k_is
 case bi => exact BindsTo.of_eq rfl
 case lo => exact locs rfl
 case c1 => rfl
 case c2 => rfl
 case c3 => rfl
 case c4 => decide
 intro L h_1 F N eL up
 k_steps
 unfold Stop
 refine wpAny_If ?_
 k_steps
 unfold Stop
 have hps := hp.size
 have hls : l.length = ds.length := by
   have := congrArg List.length hl
   simpa using this
 refine x1_3 (⟨_, F, rfl, rfl⟩ : ∃ m, Fr gC L h_1 m /\ m "self" = some (.ref xC) /\ m "tag" = some (.str "t" tv)) fun m F_1 ms mt => ?_
 have F_2 := fr_know (x := "self") (fr_know (x := "tag") F_1 mt) ms
 clear F F_1 ms mt up
 rename_i zi1
 repeat (rename (_ : Prop) => hZ; revert hZ)
 intro hPk
 revert done l ds
 apply hPk.out L h_1 zi1 tk m
 ⟩
noncomputable def cx1 (v : ((Addr × Heap) × Nat) × (Nat × (Str -> Option Value))) : Prop := P1.1 v.1.1.1 v.1.1.2 v.1.2 v.2.1 v.2.2
noncomputable section
def tup1 := pk (by walk_at "ne") cx1
@[irreducible]def L:=tup1.1.1.1
@[irreducible]def h_1:=tup1.1.1.2
@[irreducible]def zi1:=tup1.1.2
@[irreducible]def tk:=tup1.2.1
@[irreducible]def m:=tup1.2.2
end
theorem main_1 : P1.1 L h_1 zi1 tk m := by
 intro done l ds T hb o1 hk0 hnz hpz W hl hd hdz hv hp hR oS kS1 kS2 kS3 kS4 X N eL hps hls F_2
 refine wpAny_mono (Q := fun f s' => Hold (f = .next /\ ∃ ps' ndd' np', Fr gC L s'.heap (fun y => if y = "self" then some (.ref xC) else if y = "tag" then some (.str "t" tv) else m y) /\
   News gC L s'.heap [(xC, instObj 188 dxC), (dxC, dictOf (wEs wC.params tC bmC dataC declC nsC pmapC presC true done) 18), (dataC, listOf #[] ndd'), (PC, listOf ps' np'), (declC, listOf (its.push ev) nd), (nsC, listOf (nss.push av) nn), (presC, listOf (List.replicate (k + 1 + 1) (.bool false)).toArray npr), (t0C, pairObj t1 t2)] /\
   Pcs ps' (ys ++ flushO ds) /\ s'.os = sC.os /\ (AllBare sC.gens -> AllBare s'.gens))) ?_ (fun f s_2 hz => ?_) (fun _ _ z => z)
 · refine wpAny_If ?_
   k_steps
   unfold Stop
   refine wpAny_truthy_list (items := (strValues l).toArray) (News.isList (by assumption) (by k_mem)) ?_ ?_
   · simp [strValues]; omega
   cases l with
   | nil =>
     have hd0 : ds = [] := List.eq_nil_of_length_eq_zero hls.symm
     rw [if_neg (show ¬ ((!(strValues ([] : List (Str × Tok))).toArray.isEmpty) = true) by decide)]
     k_steps
     refine ⟨⟨rfl, ps, ndd, np, by k_asm, by k_asm, ?_, rfl, id⟩⟩
     rw [hd0]
     show Pcs ps (ys ++ [])
     rw [List.append_nil]; exact hp
   | cons q r =>
     have hdp : 0 < ds.length := by rw [<- hls]; exact Nat.succ_pos _
     have hdn : ds ≠ [] := fun e => by rw [e] at hdp; exact absurd hdp (Nat.lt_irrefl _)
     have e : ((!(strValues (q :: r)).toArray.isEmpty) = true) := by simp [strValues]
     rw [if_pos e]
     k_steps
     rename Fr gC L _ _ => F_3
     rename News gC L _ _ => N_3
     refine x0_2 (base_of (cl := [(xC, instObj 188 dxC), (dxC, dictOf (wEs wC.params tC bmC dataC declC nsC pmapC presC true done) 18), (dataC, listOf (strValues (q :: r)).toArray ndd), (PC, listOf ps np)]) F_3 N_3) fun W_3 k_3 => ?_
     refine callC 1 (c_flush (p := pC) (loose := looseC) (mg := mgC) (mb := mbC) (T.keeps k_3) (Frag.In.keeps X k_3) (BoundAt.keeps hb k_3) hl hd hdp hdz (by omega) (by omega) (W_3 _ rfl) fun s_4 tw nd' np' PP => ?_)
     refine x0_2 (WP.back2 PP F_3 N_3 (offLL.mp (by simp only [offLL, offL, and_true]; omega))) fun F_4 N_4 => ?_
     dsimp only
     k_steps
     refine ⟨⟨rfl, _, nd', np', F_4, N_4, ?_, PP.os, PP.bare⟩⟩
     have := hp.push (textW ds) tw
     show Pcs _ (ys ++ flushO ds)
     rw [flushO, if_neg hdn]; exact this
 · refine x0_2 hz.out fun hcz0 hoa => ?_
   refine x3_5 hoa fun ps' ndd' np' F_3 N_3 hp' os' ba' => ?_
   clear hoa
   cases hcz0
   dsimp only
   k_steps
   unfold Stop
   rename Fr gC L _ _ => F_5
   rename News gC L _ _ => N_5
   clear F_2 N
   have N_6 : News gC L s_2.heap ([(xC, instObj 188 dxC), (dxC, dictOf (wEs wC.params tC bmC dataC declC nsC pmapC presC true done) 18), (declC, listOf (its.push ev) nd), (t0C, pairObj t1 t2)] ++ [(dataC, listOf #[] ndd'), (PC, listOf ps' np'), (nsC, listOf (nss.push av) nn), (presC, listOf (List.replicate (k + 1 + 1) (.bool false)).toArray npr)]) := fun q hq => by
     refine N_5 q ?_
     refine (?_ : ∀ q ∈ _, q ∈ _) _ hq
     walk_at "sub"
   have off : offLL [(xC, instObj 188 dxC), (dxC, dictOf (wEs wC.params tC bmC dataC declC nsC pmapC presC true done) 18), (declC, listOf (its.push ev) nd), (t0C, pairObj t1 t2)] [(dataC, listOf #[] ndd'), (PC, listOf ps' np'), (nsC, listOf (nss.push av) nn), (presC, listOf (List.replicate (k + 1 + 1) (.bool false)).toArray npr)] := by
     simp only [offLL, offL, and_true]; omega
   refine x0_2 (base_of F_5 N_6) fun W_6 k_6 => ?_
   refine x2_3 (hv) fun as vals hv1 hv2 hv3 => ?_
   try clear hv
   refine callC 1 (c_qname (p := pC) (loose := looseC) (mg := mgC) (mb := mbC) (T.keeps k_6) (Frag.In.keeps X k_6) (W_6 _ rfl) (as := as) (vals := vals) (fun j hj => ⟨(hv1 j hj).1, (hv1 j hj).2.at fun o e => k_6 _ o e⟩) (by omega) hv3 fun s_7 r u1 u2 u3 PP lr => ?_)
   refine x0_2 (WP.back2 PP F_5 N_6 (offLL.mp off)) fun F_7 N_7 => ?_
   have ap : ∀ (a : Addr) o, (a, o) ∈ [(dataC, listOf #[] ndd'), (PC, listOf ps' np'), (nsC, listOf (nss.push av) nn), (presC, listOf (List.replicate (k + 1 + 1) (.bool false)).toArray npr)] -> @Ne Nat a r := fun a o ha e => by
     have z := (PP.news (r, nameObj "t" u1 u2 u3) (by k_mem)).2
     have y := hideAll_get _ (N_6 (a, o) (List.mem_append_right _ ha)).1 (offLL.mp off _ ha)
     rw [show a = r from e] at y
     exact nomatch z.symm.trans y
   have a1 : dataC ≠ r := ap _ _ (by k_mem)
   have a2 : PC ≠ r := ap _ _ (by k_mem)
   have a3 : nsC ≠ r := ap _ _ (by k_mem)
   have a4 : presC ≠ r := ap _ _ (by k_mem)
   have os_7 := PP.os
   have ba_7 := PP.bare
   clear ap PP off W_6 k_6 hz N_5 F_5 N_6 hv1 hv3
   simp only [List.cons_append, List.nil_append] at N_7
   dsimp only
   k_steps
   unfold Stop
   refine write_K (by k_asm) (by k_asm) hb (by k_upd) ?_ fun h_2 F_2 N_2 => ?_
   · have := hp'.size
     have hfl : (flushO ds).length <= 1 := by unfold flushO; split <;> simp
     rw [List.length_append] at this
     exact Nat.le_trans (m := 9000) (by omega) (by decide)
   replace F_2 := Hold.mk F_2
   replace N_2 := Hold.mk N_2
   repeat (rename Fr _ _ _ _ => hz; clear hz)
   repeat (rename News _ _ _ _ => hz; clear hz)
   replace F_2 := F_2.out
   replace N_2 := N_2.out
   k_steps
   unfold Stop
   refine pres_pop (by k_asm) (by k_asm) (by k_upd) (Nat.le_trans hk0 (by decide)) fun h_2 F_2 N_2 => ?_
   replace F_2 := Hold.mk F_2
   replace N_2 := Hold.mk N_2
   repeat (rename Fr _ _ _ _ => hz; clear hz)
   repeat (rename News _ _ _ _ => hz; clear hz)
   replace F_2 := F_2.out
   replace N_2 := N_2.out
   k_steps
   refine PyProof.Rows.len_list (items := (List.replicate (k + 1) (Value.bool false)).toArray) (News.isList (by assumption) (by k_mem)) (by simp; omega) ?_
   k_steps
   unfold Stop
   refine pop_K (by k_asm) (by k_asm) (by k_upd) (by rw [Array.size_push] at hv2; omega) fun h_2 F_2 N_2 => ?_
   replace F_2 := Hold.mk F_2
   replace N_2 := Hold.mk N_2
   repeat (rename Fr _ _ _ _ => hz; clear hz)
   repeat (rename News _ _ _ _ => hz; clear hz)
   replace F_2 := F_2.out
   replace N_2 := N_2.out
   k_steps
   unfold Stop
   refine pop_K (by k_asm) (by k_asm) (by k_upd) (by omega) fun h_2 F_2 N_2 => ?_
   replace F_2 := Hold.mk F_2
   replace N_2 := Hold.mk N_2
   repeat (rename Fr _ _ _ _ => hz; clear hz)
   repeat (rename News _ _ _ _ => hz; clear hz)
   replace F_2 := F_2.out
   replace N_2 := N_2.out
   k_steps
   have e : (Str.empty ++ Str.ofString "</" ++ Str.ofString "t" ++ Str.ofString ">" : Str) = Str.ofString "</t>" := by decide +kernel
   rw [e] at N_2
   have hp2 := hp'.push (Str.ofString "</t>")
   refine' hR _ (ps'.push (.str "</t>" ?tok)) ndd' ?nd ?nn ?npr ?np ?done ⟨F_2.keep, ?N, os_7.trans os', fun z => ba_7 (ba' z)⟩ (hp2 _)
   case N => repeat' (first | exact List.forall_mem_nil _ | (refine List.forall_mem_cons.mpr ⟨let z := N_2 _ (by k_mem); ⟨z.1, z.2.2⟩, ?_⟩))
theorem main : Stm pC looseC mgC mbC wC gC sC xC dxC bmC PC dataC declC nsC pmapC presC t0C tC RC its nd nn npr np ndd k nss ps ys t1 t2 tv ev av := P1.2 ⟨fun a0 a1 a2 a3 a4 => pk_all (p := cx1) (by with_unfolding_all exact main_1) (((a0, a1), a2), (a3, a4))⟩
end c_endH
theorem c_end {its nd nn npr np ndd k nss ps ys t1 t2 tv ev av} : c_endH.Stm p loose mg mb w g s x dx bm P data decl ns pmap pres t0 t R its nd nn npr np ndd k nss ps ys t1 t2 tv ev av := pk_all (p := c_endH.cx) (by with_unfolding_all exact c_endH.main) ((((((p, loose), mg), (mb, w)), ((g, s), (x, dx))), (((bm, P), (data, decl)), ((ns, pmap), (pres, t0)))), (((((t, R), its), (nd, nn)), ((npr, np), (ndd, k))), (((nss, ps), (ys, t1)), ((t2, tv), (ev, av)))))
end
end Mine
end
section
namespace Mine
theorem offL.of {e : Nat} : ∀ {cl : List (Addr × Obj)}, (∀ p ∈ cl, @Ne Nat e p.1) -> offL e cl
 | [], _ => trivial
 | p :: _, h => ⟨h p List.mem_cons_self, offL.of fun q hq => h q (List.mem_cons_of_mem _ hq)⟩
theorem WP.apart {h₀ h : Heap} {L : Addr} {s s' : Shared} {cl cl' rest : List (Addr × Obj)} {c : Nat} {o : Obj} (P : WP (hideAll h (cl.map (·.1))) s s' cl') (N : News h₀ L h (cl ++ rest)) (hd : offLL cl rest) (hc : ((c : Addr), o) ∈ cl') : offL c rest :=
 offL.of fun p hp e => by
   have z := (P.news _ hc).2
   have y := hideAll_get _ (N p (List.mem_append_right _ hp)).1 (offLL.mp hd p hp)
   rw [show (c : Addr) = p.1 from e] at z
   exact nomatch z.symm.trans y
noncomputable abbrev leavesT (lv : List Nat) : Str := ⟨lv.toArray⟩
noncomputable def Behind (h : Heap) (prog : Program) (w : World) (Bh : Addr) (fg : Nat -> Nat) : Prop := ∃ kvs, h.DictOf (PySem.strKind prog w) Bh kvs /\ ∀ c ∈ [97, 98, 99, 100], ∃ t, valueAt kvs ⟨#[c]⟩ = some (.str ⟨(sgn (fg c)).toArray⟩ t)
theorem Behind.keeps {h h' : Heap} {prog : Program} {w : World} {Bh : Addr} {fg : Nat -> Nat} (X : Behind h prog w Bh fg) (k : ∀ b o, h.get? b = some o -> h'.get? b = some o) : Behind h' prog w Bh fg :=
 let ⟨kvs, a, b⟩ := X; ⟨kvs, a.at fun o e => k _ o e, b⟩
theorem DeclOk.mono {g : Heap} {its : Array Value} {t0 : Addr} {n n' : Nat} (h : DeclOk g its t0 n) (hn : n <= n') : DeclOk g its t0 n' :=
 let ⟨as, vals, h1, h2, h3⟩ := h; ⟨as, vals, h1, Nat.le_trans h2 hn, h3⟩
section
variable {w : World}
noncomputable def ToldC (p : Program) (loose : List Str) (mg mb : Str -> Option Value) (w : World) (n : Nat) : Prop :=
 ∀ {g : Heap} {s : Shared} {x dx bm P data decl ns pmap pres t0 G Bh : Nat} {t : Nat -> Tok} {root done : Bool} {R : Result -> Shared -> Prop} {its : Array Value} {nd nn npr np ndd k d : Nat} {nss ps : Array Value} {l : List (Str × Tok)} {ds : DS} {ys : List Str} {t1 t2 tl : Tok} {cd : Nat} {oc : Obj} {pst : Array Value}
  {lv : List Nat} {gl : List (Str × Tok)} {gs : List (List Nat)} {fg : Nat -> Nat}
  (_ : TopB p loose mg mb g) (_ : TopRead p loose mg mb g) (_ : (Mine.mk.heap_1 w.params).In g) (_ : BoundAt "list.append" (.ref P) bm g)
  (_ : 243 < P /\ P < dx /\ dx < x /\ x < data /\ data < t0 /\ t0 < decl /\ decl < ns /\ ns < pres) (_ : k + n <= 900) (_ : nss.size + n <= 900) (_ : ys.length + tB n <= 7000) (_ : d + n <= 90)
  (_ : P ≠ cd /\ dx ≠ cd /\ x ≠ cd /\ data ≠ cd /\ t0 ≠ cd /\ decl ≠ cd /\ ns ≠ cd /\ pres ≠ cd /\ 161 ≠ cd)
  (_ : WH g s [(x, instObj 188 dx), (dx, dictOf (wEs w.params t bm data decl ns pmap pres root done) 18), (data, listOf (strValues l).toArray ndd), (P, listOf ps np), (decl, listOf its nd), (ns, listOf nss nn), (pres, listOf (List.replicate (k + 1) (.bool false)).toArray npr), (t0, pairObj t1 t2), (161, tabObj pst), (cd, oc)])
  (_ : l.map (·.1) = ds.map leafT) (_ : OkDs ds) (_ : ds.length <= 100) (_ : ds ≠ [] -> root = true)
  (_ : LS lamPos lamQual pst cd oc) (_ : DeclOk g its t0 d) (_ : Pcs ps ys)
  (_ : ∀ c ∈ lv, c ∈ [97, 98, 99, 100]) (_ : 0 < lv.length /\ lv.length <= 4 /\ lv.length <= n) (_ : gl.map (·.1) = gs.map leavesT) (_ : gs.length <= 10) (_ : ∀ g ∈ gs, g.length <= 4 /\ ∀ d ∈ g, d ∈ [97, 98, 99, 100])
  (_ : g.IsList G (strValues gl).toArray) (_ : Behind g Challenge.rw_kl0462_01.prog w Bh fg)
  (_ : ∀ s' (c' : Nat) oc' ps' ndd' nd' nn' npr' np' done', WP g s s' [(x, instObj 188 dx), (dx, dictOf (wEs w.params t bm data decl ns pmap pres true done') 18), (data, listOf #[] ndd'), (P, listOf ps' np'), (decl, listOf its nd'), (ns, listOf nss nn'), (pres, listOf (List.replicate (k + 1) (.bool false)).toArray npr'), (t0, pairObj t1 t2), (161, tabObj (lamTab lamPos c')), (c', oc')] ->
    Pcs ps' (told gs fg n lv ds ys) -> LS lamPos lamQual (lamTab lamPos c') c' oc' -> (P ≠ c' /\ dx ≠ c' /\ x ≠ c' /\ data ≠ c' /\ t0 ≠ c' /\ decl ≠ c' /\ ns ≠ c' /\ pres ≠ c' /\ 161 ≠ c') -> R (.ok (.ret .none)) s'),
  codeAny (model Challenge.rw_kl0462_01.prog w) (AL (4 + n)) (.call (.ref 221) ⟨[.ref x, .str (leavesT lv) tl, .ref G, .ref Bh], []⟩) R s
end
end Mine
end
section
namespace Mine
theorem tests_one {M : Model} {A : Around} {E : Value -> Shared -> Prop} {s : Shared} {c : Expr} {cenv : Env} {Q : Bool -> Shared -> Prop} (h : wpAny M A (isTrue c cenv (eval c cenv)) Q E s) :
   wpAny M A (forIn [c] true fun c r => if r = true then do let ok <- isTrue c cenv (eval c cenv); pure (ForInStep.yield ok) else pure (ForInStep.yield r)) Q E s := by
 rw [List.forIn_cons]
 refine wpAny_bind ?_
 rw [if_pos rfl]
 exact wpAny_bind (wpAny_mono h (fun b s' hb => wpAny_pure (by
   show wpAny M A (forIn ([] : List Expr) b _) Q E s'
   rw [List.forIn_nil]
   exact wpAny_pure hb)) fun _ _ x => x)
noncomputable def forBody : List Stmt -> List Stmt
 | [] => []
 | st :: r => match st with
   | .For _ _ b _ _ => b
   | _ => forBody r
theorem strVal {gl : List (Str × Tok)} {i : Nat} {v : Value} (h : (strValues gl).toArray[i]? = some v) : ∃ y u, v = .str y u /\ (y, u) ∈ gl := by
 have h2 : (strValues gl)[i]? = some v := by simpa using h
 have h3 := List.mem_of_getElem? h2
 refine x1_2 (List.mem_map.mp h3) fun q hq e => ?_
 exact i2_2 q.1 q.2 e.symm hq
noncomputable def innerL (gl : List (Str × Tok)) (n c : Nat) : List (Str × Tok) := gl.filter fun q => decide (c ∈ q.1.cps.toList) && decide (q.1.length < n)
theorem innerL_map {gl : List (Str × Tok)} {gs : List (List Nat)} (h : gl.map (·.1) = gs.map leavesT) (n c : Nat) : (innerL gl n c).map (·.1) = (innerG gs n c).map leavesT := by
 have e : (innerL gl n c).map (·.1) = (gl.map (·.1)).filter fun y => decide (c ∈ y.cps.toList) && decide (y.length < n) := by
   rw [List.filter_map]; rfl
 rw [e, h, List.filter_map]
 rfl
theorem inner_vals (gl : List (Str × Tok)) (n c : Nat) : (strValues gl).filter (fun v => match v with | .str y _ => decide (c ∈ y.cps.toList) && decide (y.length < n) | _ => false) = strValues (innerL gl n c) := by
 unfold strValues innerL
 rw [List.filter_map]
 rfl
theorem ne_nil0 {prog : Program} {w : World} {A : Around} {E : Value -> Shared -> Prop} {s : Shared} {l b : Addr} {Q : Value -> Shared -> Prop} (hl : s.heap.IsList l #[]) (hb : s.heap.IsList b #[]) (hu : A.units < cLine) (h : Q (.bool false) s) : wpAny (model prog w) A (compareOp .NotEq (.ref l) (.ref b)) Q E s :=
 cmp_ofNotEq (PySem.SeqAt.RcNeAt.lists hl hb (e := fun _ => true) rfl hu (fun j h1 _ => absurd h1 (Nat.not_lt_zero j)) prog w E Q h)
theorem ne_nil1 {prog : Program} {w : World} {A : Around} {E : Value -> Shared -> Prop} {s : Shared} {l b : Addr} {its : Array Value} {Q : Value -> Shared -> Prop} (hl : s.heap.IsList l its) (hb : s.heap.IsList b #[]) (hz : 0 < its.size) (hu : A.units < cLine) (h : Q (.bool true) s) : wpAny (model prog w) A (compareOp .NotEq (.ref l) (.ref b)) Q E s :=
 cmp_ofNotEq (PySem.SeqAt.RcNeAt.lists_lengths hl hb (by rw [bne_iff_ne]; show its.size ≠ 0; omega) hu prog w E Q h)
theorem last_K {prog : Program} {w : World} {A : Around} {E : Value -> Shared -> Prop} {s : Shared} {g : Heap} {L : Addr} {news : List (Addr × Obj)} {value slice : PySem.Expr} {l : Addr} {ini : List (Str × Tok)} {q : Str × Tok} {n : Nat} {u : Tok} {Q : Value -> Shared -> Prop} (N : News g L s.heap news) (hm : (l, PySem.W.listOf (strValues (ini ++ [q])).toArray n) ∈ news) (h : Q (.str q.1 q.2) s)
   (hs : subscripted slice false (.ref l) (.int (-1) u) = operate [.ref l, .int (-1) u] (getItem (.ref l) (.int (-1) u)) := by with_unfolding_all rfl) :
   wpAny (model prog w) A (subscriptTail value slice (.ref l) (.int (-1) u)) Q E s := by
 have hl' := News.isList N hm
 have hz : (strValues (ini ++ [q])).toArray.size = ini.length + 1 := by simp [strValues]
 refine tail_any hl'.typeIs slot_list_getitem.lookup (wpAny_getItem_list_neg hl' (by decide) (by rw [hz]; omega) (by decide) (x := .str q.1 q.2) ?_ h) hs
 rw [hz, show ((-1 : Int) + ((ini.length + 1 : Nat) : Int)).toNat = ini.length by omega]
 simp [strValues]
theorem behind_item {prog : Program} {w : World} {A : Around} {E : Value -> Shared -> Prop} {s : Shared} {g : Heap} {L : Addr} {m : Str -> Option Value} {value slice : PySem.Expr} {Bh : Addr} {fg : Nat -> Nat} {c : Nat} {u : Tok} {Q : Value -> Shared -> Prop} (F : Fr g L s.heap m) (X : Behind g prog w Bh fg) (hc : c ∈ [97, 98, 99, 100]) (h : ∀ t, Q (.str ⟨(sgn (fg c)).toArray⟩ t) { s with toks := s.toks + 1 })
   (hs : subscripted slice false (.ref Bh) (.str ⟨#[c]⟩ u) = operate [.ref Bh, .str ⟨#[c]⟩ u] (getItem (.ref Bh) (.str ⟨#[c]⟩ u)) := by with_unfolding_all rfl) :
   wpAny (model prog w) A (subscriptTail value slice (.ref Bh) (.str ⟨#[c]⟩ u)) Q E s := by
 refine x1_2 (X) fun kvs hd hv => ?_
 try clear X
 refine x1_1 (hv c hc) fun t ht => ?_
 have hd' : s.heap.DictOf (PySem.strKind prog w) Bh kvs := hd.at fun o e => F.keep _ o e
 exact tail_any hd'.typeIs slot_dict_getitem.lookup (wpAny_getItem_of (strKind_is prog w ⟨#[c]⟩ u) hd'.mapOf ht (h t)) hs
section
local macro_rules | `(tactic| walk_at "ite") => mFirst ["ref ite_pos ?h ?_ | h:A", "ref ite_neg ?h ?_ | h:A", "ref ite_pos ?h ?_ | h:dec", "ref ite_neg ?h ?_ | h:dec"]
local macro_rules | `(tactic| walk_at "dec") => `(tactic| k_dec)
local macro_rules | `(tactic| walk_at "subscriptTail") => mGo "h ; show wpAny _ _ ( subscriptTail _ _ ( Value.ref _ ) ( Value.int -1 _ ) ) _ _ _ ; dflt Mine.last_K ?N ?m ?_ | N:k m:m"
local macro_rules | `(tactic| walk_at "subscriptTail Name Name ref str") => mGo "h ; dflt Mine.behind_item ?F ?X ?c ?_ | F:k X:a c:a ; intro t'"
variable {w : World}
namespace told_turnH
noncomputable def Stm (pC : Program) (looseC : List Str) (mgC mbC : Str -> Option Value) (wC : World) (n : Nat) (g : Heap) (s : Shared) (L x dx bm P data decl ns pmap pres t0 G Bh at' e0 it : Nat) (t : Nat -> Tok) (its : Array Value) (nd nn npr np ndd na ne k d : Nat) (nss ps : Array Value) (av : Value) (pend : DS) (out : List Str) (dones : List Nat) (dn : Str) (td t1 t2 tl tc : Tok) (c' : Nat) (oc' io o1 o2 : Obj) (lv : List Nat) (gl : List (Str × Tok)) (gs : List (List Nat)) (fg : Nat -> Nat) (m : Str -> Option Value) (c : Nat) (Q : Flow -> Shared -> Prop) : Prop := ∀ {done : Bool} {l : List (Str × Tok)} {name qual : Str} {params : Arguments} {body : List Stmt} {scope : Scope} {dV kV doc pm cdv ct oc : Value} {an odd : Option Addr} {osl : Array (Option Value)} (hn : n <= 3) (IH : ToldC pC looseC mgC mbC wC n) (TB : TopB pC looseC mgC mbC g) (T : TopRead pC looseC mgC mbC g) (X : (Mine.mk.heap_1 wC.params).In g) (hb : BoundAt "list.append" (.ref P) bm g) (ho : (Mine.mk.heap_1 wC.params).lookup 221 = some ⟨oc, odd, .func (fnOf name qual params body scope dV kV doc pm an cdv ct), osl⟩) (o1' : 243 < P /\ P < dx /\ dx < x /\ x < data /\ data < t0 /\ t0 < decl /\ decl < ns /\ ns < pres /\ pres < L /\ L + 1 + 1 < at' /\ at' < e0 /\ e0 < it) (hk0 : k + n <= 899) (hnz : nss.size + n <= 899) (hpz : out.length + tB n <= 7000) (hdd : d + n <= 89) (dis : P ≠ c' /\ dx ≠ c' /\ x ≠ c' /\ data ≠ c' /\ t0 ≠ c' /\ decl ≠ c' /\ ns ≠ c' /\ pres ≠ c' /\ 161 ≠ c' /\ at' ≠ c' /\ e0 ≠ c' /\ it ≠ c' /\ L + 1 ≠ c' /\ L + 1 + 1 ≠ c') (F : Fr g L s.heap (fun y => if y = "writer" then some (.ref x) else if y = "groups" then some (.ref G) else if y = "behind" then some (.ref Bh) else if y = "done" then some (.str dn td) else m y)) (N : News g L s.heap [(it, io), (x, instObj 188 dx), (dx, dictOf (wEs wC.params t bm data decl ns pmap pres true done) 18), (data, listOf (strValues l).toArray ndd), (P, listOf ps np), (decl, listOf (its.push (.ref e0)) nd), (ns, listOf (nss.push av) nn), (pres, listOf (List.replicate (k + 1 + 1) (.bool false)).toArray npr), (t0, pairObj t1 t2), (161, tabObj (lamTab lamPos c')), (c', oc'), (at', dictOf [] na), (e0, listOf #[] ne), (L + 1 + 1, o1), (L + 1, o2)]) (d1 : o1.data = .cell (some (.str ⟨#[c]⟩ tc))) (d2 : o2.data = .cell (some (.str (leavesT lv) tl))) (hl : l.map (·.1) = pend.map leafT) (hd : OkDs pend) (hdz : pend.length <= 4) (LS0 : LS lamPos lamQual (lamTab lamPos c') c' oc') (hv : DeclOk g its t0 d) (hp : Pcs ps out) (hdn : dn.cps.toList = dones) (hdo : ∀ d ∈ dones, d ∈ [97, 98, 99, 100]) (hdl : dones.length <= 100) (hc : c ∈ lv) (hlv : ∀ c ∈ lv, c ∈ [97, 98, 99, 100]) (hlvn : 0 < lv.length /\ lv.length <= 4 /\ lv.length <= n + 1) (hgl : gl.map (·.1) = gs.map leavesT) (hgz : gs.length <= 10) (hgs : ∀ g ∈ gs, g.length <= 4 /\ ∀ d ∈ g, d ∈ [97, 98, 99, 100]) (hG : g.IsList G (strValues gl).toArray) (hB : Behind g Challenge.rw_kl0462_01.prog wC Bh fg) (hQ : ∀ s' (c'' : Nat) oc'' l' ps' (m' : Str -> Option Value) dn' td' ndd' nd' nn' npr' np' done',
    Fr g L s'.heap (fun y => if y = "writer" then some (.ref x) else if y = "groups" then some (.ref G) else if y = "behind" then some (.ref Bh) else if y = "done" then some (.str dn' td') else m' y) ->
    News g L s'.heap [(it, io), (x, instObj 188 dx), (dx, dictOf (wEs wC.params t bm data decl ns pmap pres true done') 18), (data, listOf (strValues l').toArray ndd'), (P, listOf ps' np'), (decl, listOf (its.push (.ref e0)) nd'), (ns, listOf (nss.push av) nn'), (pres, listOf (List.replicate (k + 1 + 1) (.bool false)).toArray npr'), (t0, pairObj t1 t2), (161, tabObj (lamTab lamPos c'')), (c'', oc''), (at', dictOf [] na), (e0, listOf #[] ne), (L + 1 + 1, o1), (L + 1, o2)] ->
    l'.map (·.1) = (toldStep (told gs fg n) gs lv.length fg (pend, out, dones) c).1.map leafT -> Pcs ps' (toldStep (told gs fg n) gs lv.length fg (pend, out, dones) c).2.1 -> dn'.cps.toList = (toldStep (told gs fg n) gs lv.length fg (pend, out, dones) c).2.2 ->
    LS lamPos lamQual (lamTab lamPos c'') c'' oc'' -> (P ≠ c'' /\ dx ≠ c'' /\ x ≠ c'' /\ data ≠ c'' /\ t0 ≠ c'' /\ decl ≠ c'' /\ ns ≠ c'' /\ pres ≠ c'' /\ 161 ≠ c'' /\ at' ≠ c'' /\ e0 ≠ c'' /\ it ≠ c'' /\ L + 1 ≠ c'' /\ L + 1 + 1 ≠ c'') ->
    s'.os = s.os -> (AllBare s.gens -> AllBare s'.gens) -> Q .next s'), wpAny (model Challenge.rw_kl0462_01.prog wC) ((AL (4 + (n + 1))).deeper (envOfC qual scope L 221 cdv)) (execs (forBody body) (envOfC qual scope L 221 cdv)) Q NF s
noncomputable def cx (v : (((((Program × (List Str)) × ((Str -> Option Value) × (Str -> Option Value))) × ((World × Nat) × (Heap × Shared))) × (((Nat × Nat) × (Nat × Nat)) × ((Nat × Nat) × Nat))) × ((((Nat × Nat) × (Nat × Nat)) × ((Nat × Nat) × (Nat × Nat))) × (((Nat × (Nat -> Tok)) × ((Array Value) × Nat)) × ((Nat × Nat) × Nat)))) × (((((Nat × Nat) × (Nat × Nat)) × ((Nat × (Array Value)) × ((Array Value) × Value))) × (((DS × (List Str)) × (List Nat × Str)) × ((Tok × Tok) × Tok))) × ((((Tok × Tok) × (Nat × Obj)) × ((Obj × Obj) × Obj)) × (((List Nat × (List (Str × Tok))) × ((List (List Nat)) × (Nat -> Nat))) × (((Str -> Option Value) × Nat) × (Flow -> Shared -> Prop)))))) : Prop := Stm v.1.1.1.1.1.1 v.1.1.1.1.1.2 v.1.1.1.1.2.1 v.1.1.1.1.2.2 v.1.1.1.2.1.1 v.1.1.1.2.1.2 v.1.1.1.2.2.1 v.1.1.1.2.2.2 v.1.1.2.1.1.1 v.1.1.2.1.1.2 v.1.1.2.1.2.1 v.1.1.2.1.2.2 v.1.1.2.2.1.1 v.1.1.2.2.1.2 v.1.1.2.2.2 v.1.2.1.1.1.1 v.1.2.1.1.1.2 v.1.2.1.1.2.1 v.1.2.1.1.2.2 v.1.2.1.2.1.1 v.1.2.1.2.1.2 v.1.2.1.2.2.1 v.1.2.1.2.2.2 v.1.2.2.1.1.1 v.1.2.2.1.1.2 v.1.2.2.1.2.1 v.1.2.2.1.2.2 v.1.2.2.2.1.1 v.1.2.2.2.1.2 v.1.2.2.2.2 v.2.1.1.1.1.1 v.2.1.1.1.1.2 v.2.1.1.1.2.1 v.2.1.1.1.2.2 v.2.1.1.2.1.1 v.2.1.1.2.1.2 v.2.1.1.2.2.1 v.2.1.1.2.2.2 v.2.1.2.1.1.1 v.2.1.2.1.1.2 v.2.1.2.1.2.1 v.2.1.2.1.2.2 v.2.1.2.2.1.1 v.2.1.2.2.1.2 v.2.1.2.2.2 v.2.2.1.1.1.1 v.2.2.1.1.1.2 v.2.2.1.1.2.1 v.2.2.1.1.2.2 v.2.2.1.2.1.1 v.2.2.1.2.1.2 v.2.2.1.2.2 v.2.2.2.1.1.1 v.2.2.2.1.1.2 v.2.2.2.1.2.1 v.2.2.2.1.2.2 v.2.2.2.2.1.1 v.2.2.2.2.1.2 v.2.2.2.2.2
noncomputable section
def tup := pk (by walk_at "ne") cx
@[irreducible]def pC:=tup.1.1.1.1.1.1
@[irreducible]def looseC:=tup.1.1.1.1.1.2
@[irreducible]def mgC:=tup.1.1.1.1.2.1
@[irreducible]def mbC:=tup.1.1.1.1.2.2
@[irreducible]def wC:=tup.1.1.1.2.1.1
@[irreducible]def n:=tup.1.1.1.2.1.2
@[irreducible]def g:=tup.1.1.1.2.2.1
@[irreducible]def s:=tup.1.1.1.2.2.2
@[irreducible]def L:=tup.1.1.2.1.1.1
@[irreducible]def x:=tup.1.1.2.1.1.2
@[irreducible]def dx:=tup.1.1.2.1.2.1
@[irreducible]def bm:=tup.1.1.2.1.2.2
@[irreducible]def P:=tup.1.1.2.2.1.1
@[irreducible]def data:=tup.1.1.2.2.1.2
@[irreducible]def decl:=tup.1.1.2.2.2
@[irreducible]def ns:=tup.1.2.1.1.1.1
@[irreducible]def pmap:=tup.1.2.1.1.1.2
@[irreducible]def pres:=tup.1.2.1.1.2.1
@[irreducible]def t0:=tup.1.2.1.1.2.2
@[irreducible]def G:=tup.1.2.1.2.1.1
@[irreducible]def Bh:=tup.1.2.1.2.1.2
@[irreducible]def at':=tup.1.2.1.2.2.1
@[irreducible]def e0:=tup.1.2.1.2.2.2
@[irreducible]def it:=tup.1.2.2.1.1.1
@[irreducible]def t:=tup.1.2.2.1.1.2
@[irreducible]def its:=tup.1.2.2.1.2.1
@[irreducible]def nd:=tup.1.2.2.1.2.2
@[irreducible]def nn:=tup.1.2.2.2.1.1
@[irreducible]def npr:=tup.1.2.2.2.1.2
@[irreducible]def np:=tup.1.2.2.2.2
@[irreducible]def ndd:=tup.2.1.1.1.1.1
@[irreducible]def na:=tup.2.1.1.1.1.2
@[irreducible]def ne:=tup.2.1.1.1.2.1
@[irreducible]def k:=tup.2.1.1.1.2.2
@[irreducible]def d:=tup.2.1.1.2.1.1
@[irreducible]def nss:=tup.2.1.1.2.1.2
@[irreducible]def ps:=tup.2.1.1.2.2.1
@[irreducible]def av:=tup.2.1.1.2.2.2
@[irreducible]def pend:=tup.2.1.2.1.1.1
@[irreducible]def out:=tup.2.1.2.1.1.2
@[irreducible]def dones:=tup.2.1.2.1.2.1
@[irreducible]def dn:=tup.2.1.2.1.2.2
@[irreducible]def td:=tup.2.1.2.2.1.1
@[irreducible]def t1:=tup.2.1.2.2.1.2
@[irreducible]def t2:=tup.2.1.2.2.2
@[irreducible]def tl:=tup.2.2.1.1.1.1
@[irreducible]def tc:=tup.2.2.1.1.1.2
@[irreducible]def c':=tup.2.2.1.1.2.1
@[irreducible]def oc':=tup.2.2.1.1.2.2
@[irreducible]def io:=tup.2.2.1.2.1.1
@[irreducible]def o1:=tup.2.2.1.2.1.2
@[irreducible]def o2:=tup.2.2.1.2.2
@[irreducible]def lv:=tup.2.2.2.1.1.1
@[irreducible]def gl:=tup.2.2.2.1.1.2
@[irreducible]def gs:=tup.2.2.2.1.2.1
@[irreducible]def fg:=tup.2.2.2.1.2.2
@[irreducible]def m:=tup.2.2.2.2.1.1
@[irreducible]def c:=tup.2.2.2.2.1.2
@[irreducible]def Q:=tup.2.2.2.2.2
end
noncomputable def P1 : {PQ : Bool -> (List (Str × Tok)) -> Str -> Arguments -> Value -> Value -> Value -> Value -> Value -> Value -> Value -> (Option Addr) -> (Option Addr) -> (Array (Option Value)) -> Value -> Heap -> Nat -> Heap -> Nat -> Nat -> (List Value) -> (Str -> Option Value) -> Prop // Hold (∀ a0 a1 a2 a3 a4 a5 a6 a7 a8 a9 a10 a11 a12 a13 a14 a15 a16 a17 a18 a19 a20 a21, PQ a0 a1 a2 a3 a4 a5 a6 a7 a8 a9 a10 a11 a12 a13 a14 a15 a16 a17 a18 a19 a20 a21) -> Stm pC looseC mgC mbC wC n g s L x dx bm P data decl ns pmap pres t0 G Bh at' e0 it t its nd nn npr np ndd na ne k d nss ps av pend out dones dn td t1 t2 tl tc c' oc' io o1 o2 lv gl gs fg m c Q} := ⟨_, by
 intro hPk
 intro done l name qual params body scope dV kV doc pm cdv ct oc an odd osl hn IH TB T X hb ho o1' hk0 hnz hpz hdd dis F N d1 d2 hl hd hdz LS0 hv hp hdn hdo hdl hc hlv hlvn hgl hgz hgs hG hB hQ
 have oS : SrtF 161 [243, P, dx, x, data, t0, decl, ns, pres, L, L + 1, L + 1 + 1, at', e0, it] := ⟨by decide, o1'.1, o1'.2.1, o1'.2.2.1, o1'.2.2.2.1, o1'.2.2.2.2.1, o1'.2.2.2.2.2.1, o1'.2.2.2.2.2.2.1, o1'.2.2.2.2.2.2.2.1, o1'.2.2.2.2.2.2.2.2.1, Nat.lt_succ_self _, Nat.lt_succ_self _, o1'.2.2.2.2.2.2.2.2.2⟩
 have kS1 : KX := trivial
 have kS2 : Key "call ref" := trivial
 have kS3 : Key "compareOp NotEq ref" := trivial
 have kS4 : Key "exec Assign cons ListComp" := trivial
 revert X ho
 k_fill
 intro X ho
 have e := ho.symm.trans (by k_is)
 refine x0_3 (fnE e) fun hcz0 hcz1 hcz2 => ?_
 cases hcz0
 cases hcz1
 cases hcz2
 clear e
 clear ho
 dsimp only [forBody]
 k_steps
 unfold Stop
 refine asg_comp (h₀ := g) (by with_unfolding_all rfl) rfl (by decide) rfl (by decide) rfl rfl rfl (fun v => match v with | .str y _ => decide (c ∈ y.cps.toList) && decide (y.length < lv.length) | _ => false) (fun v y => y = v) ?_
 k_steps
 have hgn : gl.length = gs.length := by
   have := congrArg List.length hgl
   simpa using this
 refine iter_list rfl F N (hG.at fun o e => F.keep _ o e) (by simp [strValues, sizeLine_eq]; omega) fun itv h_2 S => ?_
 refine i4_3 _ _ _ _ S ⟨fun C i v s_3 m_3 E' hv_3 F_3 N_3 hm => ?_, fun C i v s_3 m_3 E' hv_3 hp_3 F_3 N_3 hm => ?_⟩ (fun D h' tk' ys nD vs F_4 N_4 neD hlen hP hF => ?_)
 · refine x2_2 (strVal hv_3) fun y u hcz2 hyu => ?_
   cases hcz2
   refine tests_one (wpAny_mono (Q := fun ok s_4 => Hold (ok = (decide (c ∈ y.cps.toList) && decide (y.length < lv.length)) /\ Keeps s_3 s_4)) ?_ (fun _ _ z => z.out) fun _ _ z => z)
   have F_5 := fr_know F_3 hm
   have N_5 : News g C s_3.heap [(L + 1 + 1, o1), (L + 1, o2)] := fun q hq => N_3 q (by
     refine (?_ : ∀ q ∈ _, q ∈ _) _ hq
     walk_at "sub")
   clear F_3 N_3 F N S
   obtain ⟨gg, hgg, (rfl)⟩ : ∃ gg ∈ gs, y = leavesT gg := by
     have : y ∈ gl.map (·.1) := List.mem_map.mpr ⟨_, hyu, rfl⟩
     rw [hgl] at this
     refine x1_2 (List.mem_map.mp this) fun q hq e => ?_
     exact i1_2 q hq e.symm
   have hg4 := (hgs gg hgg).1
   have hy1 : (leavesT gg).length <= 4 := hg4
   have hy2 : (leavesT lv).length <= 4 := hlvn.2.1
   by_cases hcg : c ∈ gg
   · have e1 := occ_some (x := leavesT gg) (c := c) (y := ⟨#[c]⟩) rfl hcg
     by_cases hlt : (leavesT gg).length < (leavesT lv).length
     · k_steps
       refine ⟨⟨?_, ⟨_, _, rfl, fun _ _ e => e⟩⟩⟩
       rw [decide_eq_true hcg, decide_eq_true (show (leavesT gg).length < lv.length from hlt)]; rfl
     · k_steps
       refine ⟨⟨?_, ⟨_, _, rfl, fun _ _ e => e⟩⟩⟩
       rw [decide_eq_true hcg, decide_eq_false (show ¬ (leavesT gg).length < lv.length from hlt)]; rfl
   · have e1 := occ_none (x := leavesT gg) (c := c) (y := ⟨#[c]⟩) rfl hcg
     k_steps
     refine ⟨⟨?_, ⟨_, _, rfl, fun _ _ e => e⟩⟩⟩
     rw [decide_eq_false (show ¬ c ∈ (leavesT gg).cps.toList from hcg)]; rfl
 · have F_5 := fr_know F_3 hm
   clear F_3 F N S
   k_steps
   exact i2_2 _ _ rfl (fun _ _ e => e)
 · have hvs := vs_list hlen hP
   have hys := paired_eq (fun _ _ e => e) hF
   rw [hvs] at hys
   have hys2 : ys = (strValues (innerL gl lv.length c)).toArray := by
     rw [<- inner_vals gl lv.length c]
     exact Array.toList_inj.mp hys
   clear hys hvs hlen hP hF S
   have hil := innerL_map hgl lv.length c
   have hiz : (innerL gl lv.length c).length <= 10 := Nat.le_trans (List.length_filter_le _ _) (by omega)
   generalize innerL gl lv.length c = il at hys2 hil hiz
   subst hys2
   simp only [toldStep] at hQ
   refine x1_6 (⟨_, F_4, rfl, rfl, rfl, rfl, rfl⟩ : ∃ m2, Fr g L h' m2 /\ m2 "writer" = some (.ref x) /\ m2 "groups" = some (.ref G) /\ m2 "behind" = some (.ref Bh) /\ m2 "done" = some (.str dn td) /\ m2 "inner" = some (.ref D)) fun m2 F_5 w1 w2 w3 w4 w5 => ?_
   have F_6 := fr_know (x := "writer") (fr_know (x := "groups") (fr_know (x := "behind") (fr_know (x := "done") (fr_know (x := "inner") F_5 w5) w4) w3) w2) w1
   clear F F_4 F_5 w1 w2 w3 w4 w5 N
   have n1 := neD (it, io) (by k_mem)
   have n2 := neD (at', dictOf [] na) (by k_mem)
   have n3 := neD (e0, listOf #[] ne) (by k_mem)
   have n4 := neD (L + 1 + 1, o1) (by k_mem)
   have n5 := neD (L + 1, o2) (by k_mem)
   have n6 : offL D [(x, instObj 188 dx), (dx, dictOf (wEs wC.params t bm data decl ns pmap pres true done) 18), (data, listOf (strValues l).toArray ndd), (P, listOf ps np), (decl, listOf (its.push (.ref e0)) nd), (ns, listOf (nss.push av) nn), (pres, listOf (List.replicate (k + 1 + 1) (.bool false)).toArray npr), (t0, pairObj t1 t2), (161, tabObj (lamTab lamPos c')), (c', oc')] :=
     offL.of fun q hq => (neD q (by
       refine (?_ : ∀ q ∈ _, q ∈ _) _ hq
       walk_at "sub")).symm
   replace n6 := neAll_of n6; dsimp only [List.map] at n6
   have hcl := hlv c hc
   dsimp only
   repeat (rename (_ : Prop) => hZ; revert hZ)
   intro hPk
   revert il
   apply hPk.out done l name params dV kV doc pm cdv ct oc an odd osl itv h_2 D h' tk' nD vs m2
 ⟩
noncomputable def cx1 (v : ((((Bool × (List (Str × Tok))) × Str) × ((Arguments × Value) × Value)) × (((Value × Value) × Value) × (Value × Value))) × (((((Option Addr) × (Option Addr)) × (Array (Option Value))) × ((Value × Heap) × Nat)) × (((Heap × Nat) × Nat) × (List Value × (Str -> Option Value))))) : Prop := P1.1 v.1.1.1.1.1 v.1.1.1.1.2 v.1.1.1.2 v.1.1.2.1.1 v.1.1.2.1.2 v.1.1.2.2 v.1.2.1.1.1 v.1.2.1.1.2 v.1.2.1.2 v.1.2.2.1 v.1.2.2.2 v.2.1.1.1.1 v.2.1.1.1.2 v.2.1.1.2 v.2.1.2.1.1 v.2.1.2.1.2 v.2.1.2.2 v.2.2.1.1.1 v.2.2.1.1.2 v.2.2.1.2 v.2.2.2.1 v.2.2.2.2
noncomputable section
def tup1 := pk (by walk_at "ne") cx1
@[irreducible]def done:=tup1.1.1.1.1.1
@[irreducible]def l:=tup1.1.1.1.1.2
@[irreducible]def name:=tup1.1.1.1.2
@[irreducible]def params:=tup1.1.1.2.1.1
@[irreducible]def dV:=tup1.1.1.2.1.2
@[irreducible]def kV:=tup1.1.1.2.2
@[irreducible]def doc:=tup1.1.2.1.1.1
@[irreducible]def pm:=tup1.1.2.1.1.2
@[irreducible]def cdv:=tup1.1.2.1.2
@[irreducible]def ct:=tup1.1.2.2.1
@[irreducible]def oc:=tup1.1.2.2.2
@[irreducible]def an:=tup1.2.1.1.1.1
@[irreducible]def odd:=tup1.2.1.1.1.2
@[irreducible]def osl:=tup1.2.1.1.2
@[irreducible]def itv:=tup1.2.1.2.1.1
@[irreducible]def h_2:=tup1.2.1.2.1.2
@[irreducible]def D:=tup1.2.1.2.2
@[irreducible]def h':=tup1.2.2.1.1.1
@[irreducible]def tk':=tup1.2.2.1.1.2
@[irreducible]def nD:=tup1.2.2.1.2
@[irreducible]def vs:=tup1.2.2.2.1
@[irreducible]def m2:=tup1.2.2.2.2
end
theorem main_1 : P1.1 done l name params dV kV doc pm cdv ct oc an odd osl itv h_2 D h' tk' nD vs m2 := by
   intro il hn IH TB T hb o1' hk0 hnz hpz hdd dis d1 d2 hl hd hdz LS0 hv hp hdn hdo hdl hc hlv hlvn hgl hgz hgs hG hB oS kS1 kS2 kS3 kS4 X hgn neD hil hiz N_4 hQ F_6 n1 n2 n3 n4 n5 n6 hcl
   by_cases hcd : c ∈ dones
   · rw [if_pos hcd] at hQ
     have e1 := occ_some (x := dn) (c := c) (y := ⟨#[c]⟩) rfl (by rw [hdn]; exact hcd)
     k_steps
     refine hQ _ c' oc' l ps _ dn td ndd nd nn npr np done F_6 (fun q hq => N_4 q (List.mem_cons_of_mem _ hq)) hl hp hdn LS0 dis rfl id
   · rw [if_neg hcd] at hQ
     have e1 := occ_none (x := dn) (c := c) (y := ⟨#[c]⟩) rfl (by rw [hdn]; exact hcd)
     have hu : ∀ env : Env, ((AL (4 + (n + 1))).deeper env).units < cLine := fun _ => by
       show 9000 - 100 * (4 + (n + 1)) + 3 < 9900
       omega
     have hs1 : (⟨#[c]⟩ : Str).length <= 4 := by show 1 <= 4; decide
     have hs2 : (⟨(sgn (fg c)).toArray⟩ : Str).length <= 4 := Nat.le_succ_of_le (sgn_len (fg c))
     rcases List.eq_nil_or_concat il with rfl | ⟨ini, q, hcat⟩
     · have hin : innerG gs lv.length c = [] := by
         have := hil.symm
         exact List.map_eq_nil_iff.mp this
       rw [hin] at hQ
       simp only [List.getLast?_nil] at hQ
       k_steps
       unfold Stop
       have ev : (⟨#[c]⟩ ++ ⟨(sgn (fg c)).toArray⟩ : Str) = leafT (c, fg c) := by
         show (⟨#[c] ++ (sgn (fg c)).toArray⟩ : Str) = ⟨(c :: sgn (fg c)).toArray⟩
         simp
       rw [ev]
       rename Fr g L _ _ => F_7
       rename News g L _ _ => N_7
       rename_i l3 l4
       have N_8 : News g L _ ([(x, instObj 188 dx), (dx, dictOf (wEs wC.params t bm data decl ns pmap pres true done) 18), (data, listOf (strValues l).toArray ndd)] ++ [(it, io), (P, listOf ps np), (decl, listOf (its.push (.ref e0)) nd), (ns, listOf (nss.push av) nn), (pres, listOf (List.replicate (k + 1 + 1) (.bool false)).toArray npr), (t0, pairObj t1 t2), (161, tabObj (lamTab lamPos c')), (c', oc'), (at', dictOf [] na), (e0, listOf #[] ne), (L + 1 + 1, o1), (L + 1, o2)]) := fun q hq => N_7 q (by
         refine (?_ : ∀ q ∈ _, q ∈ _) _ hq
         walk_at "sub")
       have off : offLL [(x, instObj 188 dx), (dx, dictOf (wEs wC.params t bm data decl ns pmap pres true done) 18), (data, listOf (strValues l).toArray ndd)] [(it, io), (P, listOf ps np), (decl, listOf (its.push (.ref e0)) nd), (ns, listOf (nss.push av) nn), (pres, listOf (List.replicate (k + 1 + 1) (.bool false)).toArray npr), (t0, pairObj t1 t2), (161, tabObj (lamTab lamPos c')), (c', oc'), (at', dictOf [] na), (e0, listOf #[] ne), (L + 1 + 1, o1), (L + 1, o2)] := by
         simp only [offLL, offL, and_true]; omega
       refine x0_2 (base_of F_7 N_8) fun W_8 k_8 => ?_
       have hll : l.length = pend.length := by
         have := congrArg List.length hl
         simpa using this
       refine callC 3 (c_data (p := pC) (loose := looseC) (mg := mgC) (mb := mbC) (T.keeps k_8) (Frag.In.keeps X k_8) (by omega) (by omega) (by omega) (by simp [strValues]; omega) (W_8 _ rfl) fun s_9 ndd' PP => ?_) rfl
         (dp3 n) (un3 n)
       refine x0_2 (WP.back2 PP F_7 N_8 (offLL.mp off)) fun F_9 N_9 => ?_
       rw [strValues_snoc] at N_9
       dsimp only
       k_steps
       obtain ⟨tq, N_10⟩ : ∃ tq, News g L s_9.heap [(it, io), (x, instObj 188 dx), (dx, dictOf (wEs wC.params t bm data decl ns pmap pres true done) 18), (data, listOf (strValues (l ++ [(leafT (c, fg c), tq)])).toArray ndd'), (P, listOf ps np), (decl, listOf (its.push (.ref e0)) nd), (ns, listOf (nss.push av) nn), (pres, listOf (List.replicate (k + 1 + 1) (.bool false)).toArray npr), (t0, pairObj t1 t2), (161, tabObj (lamTab lamPos c')), (c', oc'), (at', dictOf [] na), (e0, listOf #[] ne), (L + 1 + 1, o1), (L + 1, o2)] := ⟨_, fun q hq => N_9 q (by
         refine (?_ : ∀ q ∈ _, q ∈ _) _ hq
         walk_at "sub")⟩
       exact hQ _ c' oc' (l ++ [(leafT (c, fg c), tq)]) ps _ dn td ndd' nd nn npr np done F_9 N_10 (by rw [List.map_append, hl, List.map_append]; rfl) hp hdn LS0 dis PP.os PP.bare
     · rw [List.concat_eq_append] at hcat
       subst hcat
       rw [List.map_append] at hil
       rcases List.eq_nil_or_concat (innerG gs lv.length c) with hG0 | ⟨G0, g1, hG0⟩
       · rw [hG0] at hil
         have := congrArg List.length hil
         simp at this
       · rw [List.concat_eq_append] at hG0
         rw [hG0] at hQ hil
         rw [List.map_append] at hil
         have hq1 : q.1 = leavesT g1 := by
           have := (List.append_inj' hil rfl).2
           simpa using this
         have hg1 : g1 ∈ innerG gs lv.length c := by rw [hG0]; simp
         refine x0_2 (List.mem_filter.mp hg1) fun hg2 hg3 => ?_
         simp only [Bool.and_eq_true, decide_eq_true_eq] at hg3
         have hg4 := hgs g1 hg2
         simp only [List.getLast?_append, List.getLast?_singleton, Option.some_or] at hQ
         have hz0 : 0 < (strValues (ini ++ [q])).toArray.size := by simp [strValues]
         k_steps
         unfold Stop
         refine ne_nil1 (News.isList (by assumption) (by k_mem)) (News.isList (by assumption) (by k_mem)) hz0 (hu _) ?_
         k_steps
         unfold Stop
         rename Fr g L _ _ => F_7
         rename News g L _ _ => N_7
         have N_8 : News g L _ ([(x, instObj 188 dx), (dx, dictOf (wEs wC.params t bm data decl ns pmap pres true done) 18), (data, listOf (strValues l).toArray ndd), (P, listOf ps np), (decl, listOf (its.push (.ref e0)) nd), (ns, listOf (nss.push av) nn), (pres, listOf (List.replicate (k + 1 + 1) (.bool false)).toArray npr), (t0, pairObj t1 t2), (161, tabObj (lamTab lamPos c')), (c', oc')] ++ [(it, io), (at', dictOf [] na), (e0, listOf #[] ne), (L + 1 + 1, o1), (L + 1, o2), (D, listOf (strValues (ini ++ [q])).toArray nD)]) := fun q hq => N_7 q (by
           refine (?_ : ∀ q ∈ _, q ∈ _) _ hq
           walk_at "sub")
         have off : offLL [(x, instObj 188 dx), (dx, dictOf (wEs wC.params t bm data decl ns pmap pres true done) 18), (data, listOf (strValues l).toArray ndd), (P, listOf ps np), (decl, listOf (its.push (.ref e0)) nd), (ns, listOf (nss.push av) nn), (pres, listOf (List.replicate (k + 1 + 1) (.bool false)).toArray npr), (t0, pairObj t1 t2), (161, tabObj (lamTab lamPos c')), (c', oc')] [(it, io), (at', dictOf [] na), (e0, listOf #[] ne), (L + 1 + 1, o1), (L + 1, o2), (D, listOf (strValues (ini ++ [q])).toArray nD)] := by
           simp only [offLL, offL, and_true]; omega
         refine x0_2 (base_of F_7 N_8) fun W_8 k_8 => ?_
         have hq0 : Value.str q.1 q.2 = Value.str (leavesT g1) q.2 := by rw [hq1]
         rw [hq0]
         have he0 : (hideAll _ ([(x, instObj 188 dx), (dx, dictOf (wEs wC.params t bm data decl ns pmap pres true done) 18), (data, listOf (strValues l).toArray ndd), (P, listOf ps np), (decl, listOf (its.push (.ref e0)) nd), (ns, listOf (nss.push av) nn), (pres, listOf (List.replicate (k + 1 + 1) (.bool false)).toArray npr), (t0, pairObj t1 t2), (161, tabObj (lamTab lamPos c')), (c', oc')].map (·.1))).IsList e0 #[] := ⟨_, hideAll_get _ (N_8 (e0, listOf #[] ne) (by k_mem)).1 (offLL.mp off (e0, listOf #[] ne) (by k_mem)), rfl, _, rfl⟩
         have hgl1 : c ∈ g1 := hg3.1
         have hpos : 0 < g1.length := List.length_pos_of_mem hg3.1
         refine callC (4 + n) (IH (k := k + 1) (d := d + 1) (gl := gl) (gs := gs) (fg := fg) (TB.keeps k_8) (T.keeps k_8) (Frag.In.keeps X k_8) (BoundAt.keeps hb k_8) (by omega) (by omega) (by rw [Array.size_push]; omega) (by omega) (by omega) (by omega) (W_8 _ rfl) hl hd (by omega) (fun _ => rfl) LS0 ((hv.push k_8 he0)) hp hg4.2 ⟨hpos, hg4.1, by omega⟩ hgl hgz hgs (hG.at fun o e => k_8 _ o e) (hB.keeps k_8) fun s_9 c'' oc'' ps' ndd' nd' nn' npr' np' done' PP hp' LS1 dis1 => ?_) rfl
           (dpn hn) (unn hn)
         refine x0_2 (WP.back2 PP F_7 N_8 (offLL.mp off)) fun F_9 N_9 => ?_
         have ap := PP.apart N_8 off (c := c'') (o := oc'') (by k_mem)
         replace ap := neAll_of ap; dsimp only [List.map] at ap
         simp only [List.cons_append, List.nil_append] at N_9
         have os_9 := PP.os
         have ba_9 := PP.bare
         have hdn4 : dn.length <= 100 := by
           have : dn.length = dones.length := by rw [<- hdn]; simp [Str.length]
           omega
         have hq4 : q.1.length <= 4 := by rw [hq1]; exact hg4.1
         clear PP off k_8 he0 W_8 N_7 F_7 N_8
         dsimp only
         k_steps
         rename Fr g L _ _ => F_10
         rename News g L _ _ => N_10
         refine x2_5 (⟨_, _, F_10, rfl, rfl, rfl, rfl⟩ : ∃ m3 td3, Fr g L _ m3 /\ m3 "writer" = some (.ref x) /\ m3 "groups" = some (.ref G) /\ m3 "behind" = some (.ref Bh) /\ m3 "done" = some (.str (dn ++ q.1) td3)) fun m3 td3 F_11 v1 v2 v3 v4 => ?_
         have F_12 := fr_know (x := "writer") (fr_know (x := "groups") (fr_know (x := "behind") (fr_know (x := "done") F_11 v4) v3) v2) v1
         refine hQ _ c'' oc'' [] ps' _ (dn ++ q.1) td3 ndd' nd' nn' npr' np' done' F_12 (fun r hr => N_10 r ?_) rfl hp' ?_ LS1 (by omega) os_9 ba_9
         · exact (by walk_at "sub" : ∀ q ∈ _, q ∈ _) r hr
         · rw [Str.cps_append, Array.toList_append, hdn, hq1]
theorem main : Stm pC looseC mgC mbC wC n g s L x dx bm P data decl ns pmap pres t0 G Bh at' e0 it t its nd nn npr np ndd na ne k d nss ps av pend out dones dn td t1 t2 tl tc c' oc' io o1 o2 lv gl gs fg m c Q := P1.2 ⟨fun a0 a1 a2 a3 a4 a5 a6 a7 a8 a9 a10 a11 a12 a13 a14 a15 a16 a17 a18 a19 a20 a21 => pk_all (p := cx1) (by with_unfolding_all exact main_1) (((((a0, a1), a2), ((a3, a4), a5)), (((a6, a7), a8), (a9, a10))), ((((a11, a12), a13), ((a14, a15), a16)), (((a17, a18), a19), (a20, a21))))⟩
end told_turnH
theorem told_turn {n g s L x dx bm P data decl ns pmap pres t0 G Bh at' e0 it t its nd nn npr np ndd na ne k d nss ps av pend out dones dn td t1 t2 tl tc c' oc' io o1 o2 lv gl gs fg m c Q} : told_turnH.Stm p loose mg mb w n g s L x dx bm P data decl ns pmap pres t0 G Bh at' e0 it t its nd nn npr np ndd na ne k d nss ps av pend out dones dn td t1 t2 tl tc c' oc' io o1 o2 lv gl gs fg m c Q := pk_all (p := told_turnH.cx) (by with_unfolding_all exact told_turnH.main) ((((((p, loose), (mg, mb)), ((w, n), (g, s))), (((L, x), (dx, bm)), ((P, data), decl))), ((((ns, pmap), (pres, t0)), ((G, Bh), (at', e0))), (((it, t), (its, nd)), ((nn, npr), np)))), (((((ndd, na), (ne, k)), ((d, nss), (ps, av))), (((pend, out), (dones, dn)), ((td, t1), t2))), ((((tl, tc), (c', oc')), ((io, o1), o2)), (((lv, gl), (gs, fg)), ((m, c), Q)))))
end
end Mine
end
section
namespace Mine
noncomputable def joinS (ys : List Str) : Str := ⟨(ys.flatMap (·.cps.toList)).toArray⟩
noncomputable def closedAt (cs : List Str) (ns : List Int) (e : Nat) : Bool := decide (ns.getD 0 0 = 7) && decide (ns.getD e 0 = 8) && checkP (joinS (cs.take (e + 1)))
noncomputable def closedP (cs : List Str) (ns : List Int) : Str := match (List.range' 1 (cs.length - 1)).find? (closedAt cs ns) with
 | some e => joinS (cs.take (e + 1))
 | none => ⟨#[]⟩
theorem find_range {q : Nat -> Bool} {b : Nat} : ∀ (k a : Nat), (∀ e, a <= e -> e < b -> q e = false) -> q b = true -> a <= b -> b < a + k -> (List.range' a k).find? q = some b
 | 0, a, _, _, h1, h2 => by omega
 | k + 1, a, hn, hb, h1, h2 => by
   rw [List.range'_succ, List.find?_cons]
   rcases Nat.lt_or_eq_of_le h1 with h | rfl
   · rw [hn a (Nat.le_refl _) h]
     exact find_range k (a + 1) (fun e he => hn e (Nat.le_of_succ_le he)) hb h (by omega)
   · rw [hb]
theorem find_range_none {q : Nat -> Bool} : ∀ (k a : Nat), (∀ e, a <= e -> e < a + k -> q e = false) -> (List.range' a k).find? q = none
 | 0, _, _ => rfl
 | k + 1, a, hn => by
   rw [List.range'_succ, List.find?_cons, hn a (Nat.le_refl _) (by omega)]
   exact find_range_none k (a + 1) fun e h1 h2 => hn e (Nat.le_of_succ_le h1) (by omega)
theorem base_list {h₀ h : Heap} {L C : Addr} {m : Str -> Option Value} {its : Array Value} (F : Fr h₀ L h m) (hl : h₀.IsList C its) : h.IsList C its := hl.at fun o e => F.keep _ o e
theorem int_item {prog : Program} {w : World} {A : Around} {E : Value -> Shared -> Prop} {s : Shared} {value slice : PySem.Expr} {h₀ : Heap} {L : Addr} {m : Str -> Option Value} {l : Addr} {vs : List Value} {ns : List Int} {k v : Int} {u : Tok} {Q : Value -> Shared -> Prop} (F : Fr h₀ L s.heap m) (hl : h₀.IsList l vs.toArray) (hi : IntsAre vs ns) (h0 : 0 <= k) (h1 : k < ns.length) (hz : ns.length <= 1000) (hv : ns.getD k.toNat 0 = v)
   (h : ∀ t, Q (.int v t) s) (hs : subscripted slice false (.ref l) (.int k u) = operate [.ref l, .int k u] (getItem (.ref l) (.int k u)) := by with_unfolding_all rfl) :
   wpAny (model prog w) A (subscriptTail value slice (.ref l) (.int k u)) Q E s := item_list_intsR (base_list F hl) hi h0 h1 (by omega) (fun t => by rw [hv]; exact h t) hs
theorem pick_upto (items : Array Value) (b : Nat) (hb : b <= items.size) : slicePick items none (some (b : Int)) none = (items.toList.take b).toArray := by
 have e : slicePick items none (some (b : Int)) none = slicePick items (some ((0 : Nat) : Int)) (some (b : Int)) none := by
   unfold slicePick
   have : sliceBounds none (some (b : Int)) none items.size = sliceBounds (some ((0 : Nat) : Int)) (some (b : Int)) none items.size := by
     simp only [sliceBounds]
     congr 1
   rw [this]
 rw [e, slicePick_run items 0 b hb (Nat.zero_le _)]
 simp
theorem slice_K {prog : Program} {w : World} {A : Around} {E : Value -> Shared -> Prop} {s : Shared} {env : Env} {h₀ : Heap} {C : Addr} {cl : List (Str × Tok)} {value upper : PySem.Expr} {p pos : Pos} {Q : Value -> Shared -> Prop} (hC : h₀.IsList C (strValues cl).toArray) (hz : cl.length <= 1000)
   (h : wpAny (model prog w) A (eval value env) (fun o s₁ => wpAny (model prog w) A (eval upper env) (fun vu s_2 => Stop (o = .ref C /\ ∃ (k : Nat) (t : Tok) (L : Addr) (m : Str -> Option Value) (news : List (Addr × Obj)), vu = .int k t /\ k <= cl.length /\ Fr h₀ L s_2.heap m /\ News h₀ L s_2.heap news /\
     ∀ (D : Nat) h', Fr h₀ L h' m -> News h₀ L h' ((D, PySem.W.listOf (strValues (cl.take k)).toArray 0) :: news) -> (∀ q ∈ news, @LT.lt Nat _ q.1 D) -> Q (.ref D) { s_2 with heap := h' })) E s₁) E s)
   (ht : ∀ o r, letTemporaryGo value o r = pure () := by intro _ _; rfl) :
   wpAny (model prog w) A (eval (.Subscript value (.Slice none (some upper) none p) pos) env) Q E s := by
 refine wpAny_Subscript_list_slice (wpAny_mono h (fun o s₁ h_1 => ?_) fun _ _ z => z) ht
 rw [evalPart_none]
 refine wpAny_pure (evalPart_some_step (wpAny_mono h_1 (fun vu s_2 h_2 => ?_) fun _ _ z => z))
 refine x0_2 h_2 fun hcz0 hoa => ?_
 refine x5_5 hoa fun k t L m news hcz6 hk F N hQ => ?_
 clear hoa
 try clear h_2
 cases hcz0
 cases hcz6
 have hsz : (strValues cl).toArray.size = cl.length := by simp [strValues]
 refine i4_6 C _ none (some (k : Int)) rfl (base_list F hC) (by rw [hsz]; exact Nat.le_trans hz (by decide)) .none (.int _ _) ?_
 rw [pick_upto _ _ (by rw [hsz]; exact hk)]
 have e : (strValues cl).toArray.toList.take k = strValues (cl.take k) := by simp [strValues, List.map_take]
 rw [e]
 have F_1 := F.push { cls := .type "slice", data := .fields #[.none, .int k t, .none] }
 have N_1 : News h₀ L (s_2.heap.push { cls := .type "slice", data := .fields #[.none, .int k t, .none] }) news := fun q hq => ⟨Heap.get?_push_of_some _ (N q hq).1, (N q hq).2⟩
 have N_2 := News.push F_1 N_1 (PySem.W.listOf (strValues (cl.take k)).toArray 0) rfl
 rw [Heap.size_push] at N_2
 refine hQ _ _ (F_1.push _) N_2 fun q hq => ?_
 have := Heap.lt_size (N_1 q hq).1
 rwa [Heap.size_push] at this
theorem join_S {prog : Program} {w : World} {A : Around} {E : Value -> Shared -> Prop} {s : Shared} {D : Addr} {l : List (Str × Tok)} {t : Tok} {Q : Value -> Shared -> Prop} (hl : s.heap.IsList D (strValues l).toArray) (hz : ((l.map (·.1)).flatMap (·.cps.toList)).length <= 16777216)
   (hq : ∀ t' k, Q (.str (joinS (l.map (·.1))) t') { s with toks := k }) : wpAny (model prog w) A (call (.builtin "str.join") [.str (Str.ofString "") t, .ref D]) Q E s := by
 refine SC.join hl rfl (joinOk_empty hz) fun t' k => ?_
 rw [join_empty]
 exact hq t' k
theorem joinS_take {cs : List Str} {k : Nat} {c : Nat} (h : c ∈ (joinS (cs.take k)).cps.toList) : c ∈ (joinS cs).cps.toList := by
 refine x1_2 (List.mem_flatMap.mp h) fun y hy hc => ?_
 exact List.mem_flatMap.mpr ⟨y, List.mem_of_mem_take hy, hc⟩
theorem joinS_len_take (cs : List Str) (k : Nat) : ((cs.take k).flatMap (·.cps.toList)).length <= (cs.flatMap (·.cps.toList)).length := by
 conv => rhs; rw [<- List.take_append_drop k cs, List.flatMap_append, List.length_append]
 omega
theorem Good.take {cs : List Str} (h : Good (joinS cs)) (k : Nat) : Good (joinS (cs.take k)) := by
 refine ⟨fun c hc => h.1 c (joinS_take hc), ?_⟩
 have h2 := h.2
 have h3 := joinS_len_take cs k
 show (List.toArray _).size <= 1000
 have h4 : (joinS cs).length = (cs.flatMap (·.cps.toList)).length := by show (List.toArray _).size = _; simp
 simp only [List.size_toArray]
 omega
section
local macro_rules | `(tactic| walk_at "subscriptTail Name Constant ref int") => mGo "h ; show wpAny _ _ ( subscriptTail _ _ ( Value.ref _ ) ( Value.int _ _ ) ) _ _ _ ; dflt Mine.int_item ?F ?l ?i ?a ?b ?c ?v ?_ | F:k l:a i:a a:o b:o c:o v:a ; intro t'"
local macro_rules | `(tactic| walk_at "subscriptTail Name Name ref int") => mGo "h ; show wpAny _ _ ( subscriptTail _ _ ( Value.ref _ ) ( Value.int _ _ ) ) _ _ _ ; dflt Mine.int_item ?F ?l ?i ?a ?b ?c ?v ?_ | F:k l:a i:a a:o b:o c:o v:a ; intro t'"
local macro_rules | `(tactic| walk_at "call builtin:len") => mGo "h ; ref PyProof.Rows.len_list ( Mine.base_list ?F ?h ) ?z ?_ | F:k h:a z:lenz"
namespace c_closedH
noncomputable def Stm (pC : Program) (looseC : List Str) (mgC mbC : Str -> Option Value) (w : World) (s : Shared) (C M : Nat) (cl : List (Str × Tok)) (cs : List Str) (vs : List Value) (ns : List Int) (R : Result -> Shared -> Prop) : Prop := ∀  (T : TopRead pC looseC mgC mbC s.heap) (X : (Mine.mk.heap_1 w.params).In s.heap) (hC : s.heap.IsList C (strValues cl).toArray) (hcl : cl.map (·.1) = cs) (hM : s.heap.IsList M vs.toArray) (hns : IntsAre vs ns) (hlen : cs.length = ns.length) (hpos : 0 < cs.length) (hz : cs.length <= 500) (hgood : Good (joinS cs)) (hR : ∀ s' t', Kp s s' -> R (.ok (.ret (.str (closedP cs ns) t'))) s'), codeAny (model Challenge.rw_kl0462_01.prog w) (AL 3) (.call (.ref 233) ⟨[.ref C, .ref M], []⟩) R s
noncomputable def cx (v : (((Program × (List Str)) × ((Str -> Option Value) × (Str -> Option Value))) × ((World × Shared) × Nat)) × (((Nat × (List (Str × Tok))) × (List Str)) × ((List Value × (List Int)) × (Result -> Shared -> Prop)))) : Prop := Stm v.1.1.1.1 v.1.1.1.2 v.1.1.2.1 v.1.1.2.2 v.1.2.1.1 v.1.2.1.2 v.1.2.2 v.2.1.1.1 v.2.1.1.2 v.2.1.2 v.2.2.1.1 v.2.2.1.2 v.2.2.2
noncomputable section
def tup := pk (by walk_at "ne") cx
@[irreducible]def pC:=tup.1.1.1.1
@[irreducible]def looseC:=tup.1.1.1.2
@[irreducible]def mgC:=tup.1.1.2.1
@[irreducible]def mbC:=tup.1.1.2.2
@[irreducible]def w:=tup.1.2.1.1
@[irreducible]def s:=tup.1.2.1.2
@[irreducible]def C:=tup.1.2.2
@[irreducible]def M:=tup.2.1.1.1
@[irreducible]def cl:=tup.2.1.1.2
@[irreducible]def cs:=tup.2.1.2
@[irreducible]def vs:=tup.2.2.1.1
@[irreducible]def ns:=tup.2.2.1.2
@[irreducible]def R:=tup.2.2.2
end
noncomputable def P1 : {PQ : Addr -> Heap -> (Str -> Option Value) -> Nat -> Heap -> Nat -> Nat -> Shared -> (Str -> Option Value) -> Heap -> Heap -> Prop // Hold (∀ a0 a1 a2 a3 a4 a5 a6 a7 a8 a9 a10, PQ a0 a1 a2 a3 a4 a5 a6 a7 a8 a9 a10) -> Stm pC looseC mgC mbC w s C M cl cs vs ns R} := ⟨_, by
 intro hPk
 intro T X hC hcl hM hns hlen hpos hz hgood hR
 have kS1 : Key "call builtin:str.join" := trivial
 have kS2 : Key "eval Subscript Name Slice" := trivial
 have kS3 : Key "exec For Name Call cons nil" := trivial
 have kS4 : Key "call type:range" := trivial
 have kS5 : Key "call ref" := trivial
 revert X
 k_fill
 intro X
 refine callF X T.nolimit (by k_is) (by k_is) (by decide) (binds := [("cells", .ref C), ("numbers", .ref M)]) (BindsTo.of_eq rfl) (locs rfl) ?_
 intro L h_1 F eL
 have N : News s.heap L h_1 [] := News.nil
 have T' := T
 have HL : Hold (cl.map (·.1) = cs) := ⟨hcl⟩
 have hcz : cl.length = cs.length := by rw [<- hcl]; simp
 have hvz : vs.length = ns.length := hns.length
 k_steps
 unfold Stop
 refine wpAny_For ?_
 k_steps
 unfold Stop
 rename Fr s.heap L _ _ => F_1
 refine x1_3 (⟨_, F_1, rfl, rfl⟩ : ∃ m1, Fr s.heap L _ m1 /\ m1 "cells" = some (.ref C) /\ m1 "numbers" = some (.ref M)) fun m1 F_2 w1 w2 => ?_
 have F_3 := fr_know (x := "cells") (fr_know (x := "numbers") F_2 w2) w1
 have esz : ((strValues cl).toArray.size : Int) = cs.length := by simp [strValues, hcz]
 first | rw [esz] | rw [show ((cl.length : Nat) : Int) = cs.length by omega]
 refine range_iter2 F_3 (News.nil) (by decide) (by decide) (by omega) (by omega) fun it h_2 tk F_4 N_4 l1 hL hit => ?_
 have en : ((cs.length : Int) - 1).toNat = cs.length - 1 := by omega
 rw [en] at N_4
 refine forI (cs.length - 1) (fun i s' => ∀ Z : Prop, (∀ m' : Str -> Option Value, Fr s.heap L s'.heap (fun y => if y = "cells" then some (.ref C) else if y = "numbers" then some (.ref M) else m' y) -> News s.heap L s'.heap [(it, riObj (1 + (i : Int)) (((cs.length - 1 : Nat) : Int) - i))] -> (∀ e, 1 <= e -> e <= i -> closedAt cs ns e = false) -> s'.os = s.os -> (AllBare s.gens -> AllBare s'.gens) -> Z) -> Z) ?step ?done 0 (Nat.zero_le _) _ ?init
 case init => exact fun Zq kq => kq m1 F_4 (by simpa using N_4) (fun e h1 h2 => absurd h1 (by omega)) rfl id
 case step =>
   intro i s_5 hi HIq
   refine HIq _ fun m' F_5 N_5 hno os_5 ba_5 => ?_
   clear F_1 F_2 F_3 F_4 N_4 N
   refine wpAny_pyNext_range_item (it := it) (N_5 _ List.mem_cons_self).1 (by omega) fun h_6 hit_6 hs_6 => ⟨_, rfl, ?_⟩
   refine x0_2 (news_put (o := riObj (1 + (i : Int)) (((cs.length - 1 : Nat) : Int) - i)) F_5 N_5 (by k_upd) hs_6 hit_6) fun F_6 N_6 => ?_
   refine wpAny_of_eq (rfl : letOwnedTupleGo (.Name _ _) _ _ = pure ()) ?_
   refine wpAny_assign_Name (wpAny_storeName_local rfl F_6.ns (fun h_7 hn_7 hs_7 => ?_) rfl)
   have F_7 := F_6.set hn_7 hs_7
   have N_7 : News s.heap L h_7 [(it, riObj (1 + (i : Int) + 1) (((cs.length - 1 : Nat) : Int) - i - 1))] := fun q hq => ⟨hs_7.extBut _ _ (N_6 q hq).2.1 (N_6 q hq).1, (N_6 q hq).2⟩
   have F_8 := fr_know (x := "cells") (v := .ref C) (fr_know (x := "numbers") (v := .ref M) F_7 rfl) rfl
   clear F_5 N_5 F_6 N_6 F_7
   repeat (rename (_ : Prop) => hZ; revert hZ)
   intro hPk
   apply hPk.out L h_1 m1 it h_2 tk i s_5 m' h_6 h_7
 case done =>
   intro s_5 HIq
   refine HIq _ fun m' F_5 N_5 hno os_5 ba_5 => ?_
   refine wpAny_pyNext_range_end (it := it) rfl (N_5 _ List.mem_cons_self).1 (by omega) fun h_6 he => ⟨rfl, ?_⟩
   refine x0_2 (news_drop F_5 N_5 he (by k_all)) fun F_6 N_6 => ?_
   clear F_1 F_2 F_3 F_4 N_4 N F_5 N_5
   dsimp only
   k_steps
   have ec : closedP cs ns = Str.ofString "" := by
     unfold closedP
     rw [find_range_none (cs.length - 1) 1 fun e h1 h2 => hno e h1 (by omega)]
     show (⟨#[]⟩ : Str) = Str.ofString ""
     decide +kernel
   rw [ec] at hR
   exact hR _ _ ⟨F_6.keep, os_5, ba_5⟩
 ⟩
noncomputable def cx1 (v : (((Addr × Heap) × (Str -> Option Value)) × ((Nat × Heap) × Nat)) × (((Nat × Shared) × (Str -> Option Value)) × (Heap × Heap))) : Prop := P1.1 v.1.1.1.1 v.1.1.1.2 v.1.1.2 v.1.2.1.1 v.1.2.1.2 v.1.2.2 v.2.1.1.1 v.2.1.1.2 v.2.1.2 v.2.2.1 v.2.2.2
noncomputable section
def tup1 := pk (by walk_at "ne") cx1
@[irreducible]def L:=tup1.1.1.1.1
@[irreducible]def h_1:=tup1.1.1.1.2
@[irreducible]def m1:=tup1.1.1.2
@[irreducible]def it:=tup1.1.2.1.1
@[irreducible]def h_2:=tup1.1.2.1.2
@[irreducible]def tk:=tup1.1.2.2
@[irreducible]def i:=tup1.2.1.1.1
@[irreducible]def s_5:=tup1.2.1.1.2
@[irreducible]def m':=tup1.2.1.2
@[irreducible]def h_6:=tup1.2.2.1
@[irreducible]def h_7:=tup1.2.2.2
end
theorem main_1 : P1.1 L h_1 m1 it h_2 tk i s_5 m' h_6 h_7 := by
   intro T hC hcl hM hns hlen hpos hz hgood hR kS1 kS2 kS3 kS4 kS5 X eL T' HL hcz hvz w1 w2 esz l1 hL hit en hi HIq hno os_5 ba_5 hit_6 hs_6 hn_7 hs_7 N_7 F_8
   have hg0 : ∀ b : Nat, ns.getD ((1 : Int) + (b : Int)).toNat 0 = ns.getD (b + 1) 0 := fun b => by rw [show ((1 : Int) + (b : Int)).toNat = b + 1 by omega]
   have h00 : ns.getD ((0 : Int)).toNat 0 = ns.getD 0 0 := rfl
   refine wpAny_mono (Q := fun f s' => (f = .next /\ closedAt cs ns (i + 1) = false /\ ∃ m'' : Str -> Option Value, Fr s.heap L s'.heap (fun y => if y = "cells" then some (.ref C) else if y = "numbers" then some (.ref M) else m'' y) /\ News s.heap L s'.heap [(it, riObj (1 + (i : Int) + 1) (((cs.length - 1 : Nat) : Int) - i - 1))] /\ s'.os = s.os /\ (AllBare s.gens -> AllBare s'.gens)) \/
       (closedAt cs ns (i + 1) = true /\ ∃ t', f = .ret (.str (joinS (cs.take (i + 1 + 1))) t') /\ Kp s s')) ?_ (fun f s' hz => ?_) fun _ _ z => z
   · refine x1_1 (⟨_, rfl⟩ : ∃ a, ns.getD ((0 : Int)).toNat 0 = a) fun a ea => ?_
     refine x1_1 (⟨_, rfl⟩ : ∃ b, ns.getD ((1 : Int) + (i : Int)).toNat 0 = b) fun b eb => ?_
     have ca : ns.getD 0 0 = a := ea
     have cb : ns.getD (i + 1) 0 = b := by rw [<- hg0]; exact eb
     by_cases h7 : a = 7
     · subst h7
       by_cases h8 : b = 8
       · subst h8
         have hjl : ((cs.take (i + 1 + 1)).flatMap (·.cps.toList)).length <= 16777216 := by
           have h2 := (hgood.take (i + 1 + 1)).2
           have h3 : (joinS (cs.take (i + 1 + 1))).length = ((cs.take (i + 1 + 1)).flatMap (·.cps.toList)).length := by show (List.toArray _).size = _; simp
           omega
         k_steps
         unfold Stop
         refine slice_K hC (by omega) ?_
         k_steps
         unfold Stop
         refine ⟨rfl, i + 1 + 1, _, _, _, _, by rw [show ((1 : Int) + i + 1) = ((i + 1 + 1 : Nat) : Int) by omega], by omega, by k_asm, by k_asm, fun D h_9 F_9 N_9 l9 => ?_⟩
         k_steps
         unfold Stop
         refine join_S (l := cl.take (i + 1 + 1)) (News.isList N_9 (by k_mem)) (by rw [List.map_take, HL.1]; exact hjl) fun t' k' => ?_
         rw [List.map_take, HL.1]
         k_steps
         unfold Stop
         refine callC 2 (c_check (p := pC) (loose := looseC) (mg := mgC) (mb := mbC) (T.keeps (Fr.keep (by k_asm))) (Frag.In.keeps X (Fr.keep (by k_asm))) (hgood.take (i + 1 + 1)) fun s_10 K_10 => ?_)
         have F_10 := fr_keeps F_9 K_10.keep
         have N_10 : News s.heap L s_10.heap [(it, riObj (1 + (i : Int) + 1) (((cs.length - 1 : Nat) : Int) - i - 1))] := news_keep (fun q hq => N_9 q (List.mem_cons_of_mem _ hq)) K_10.keep
         have os_10 := K_10.os
         have ba_10 := K_10.bare
         clear F_8 F_9 N_7 N_9 K_10
         dsimp only at os_10 ba_10 ⊢
         cases hck : checkP (joinS (cs.take (i + 1 + 1))) with
         | false =>
           k_steps
           refine .inl ⟨rfl, ?_, _, F_10, N_10, os_10.trans os_5, fun z => ba_10 (ba_5 z)⟩
           unfold closedAt
           rw [hck, Bool.and_false]
         | true =>
           k_steps
           unfold Stop
           refine slice_K hC (by omega) ?_
           k_steps
           unfold Stop
           refine ⟨rfl, i + 1 + 1, _, _, _, _, by rw [show ((1 : Int) + i + 1) = ((i + 1 + 1 : Nat) : Int) by omega], by omega, by k_asm, by k_asm, fun D h_9 F_9 N_9 l9 => ?_⟩
           k_steps
           unfold Stop
           refine join_S (l := cl.take (i + 1 + 1)) (News.isList N_9 (by k_mem)) (by rw [List.map_take, HL.1]; exact hjl) fun t' k' => ?_
           rw [List.map_take, HL.1]
           k_steps
           refine .inr ⟨?_, t', rfl, ⟨F_9.keep, os_10.trans os_5, fun z => ba_10 (ba_5 z)⟩⟩
           unfold closedAt
           rw [ca, cb, hck]
           rfl
       · have f8 : (b == 8) = false := by simpa using h8
         k_steps
         refine .inl ⟨rfl, ?_, _, F_8, N_7, os_5, ba_5⟩
         unfold closedAt
         rw [cb, decide_eq_false h8, Bool.and_false, Bool.false_and]
     · have f7 : (a == 7) = false := by simpa using h7
       k_steps
       refine .inl ⟨rfl, ?_, _, F_8, N_7, os_5, ba_5⟩
       unfold closedAt
       rw [ca, decide_eq_false h7, Bool.false_and, Bool.false_and]
   · rcases hz with ⟨rfl, hcf, m'', F_9, N_9, os_9, ba_9⟩ | ⟨hct, t', rfl, K_9⟩
     · refine fun Zq kq => kq m'' F_9 ?_ (fun e h1 h2 => ?_) os_9 ba_9
       · have e1 : (1 : Int) + ((i + 1 : Nat) : Int) = 1 + (i : Int) + 1 := by omega
         have e2 : ((cs.length - 1 : Nat) : Int) - ((i + 1 : Nat) : Int) = ((cs.length - 1 : Nat) : Int) - (i : Int) - 1 := by omega
         rw [e1, e2]; exact N_9
       · rcases Nat.lt_or_eq_of_le h2 with h | rfl
         · exact hno e h1 (Nat.le_of_lt_succ h)
         · exact hcf
     · have ec : closedP cs ns = joinS (cs.take (i + 1 + 1)) := by
         unfold closedP
         rw [find_range (b := i + 1) (cs.length - 1) 1 (fun e h1 h2 => hno e h1 (Nat.le_of_lt_succ h2)) hct (by omega) (by omega)]
       rw [ec] at hR
       exact hR _ t' K_9
theorem main : Stm pC looseC mgC mbC w s C M cl cs vs ns R := P1.2 ⟨fun a0 a1 a2 a3 a4 a5 a6 a7 a8 a9 a10 => pk_all (p := cx1) (by with_unfolding_all exact main_1) ((((a0, a1), a2), ((a3, a4), a5)), (((a6, a7), a8), (a9, a10)))⟩
end c_closedH
theorem c_closed {w s C M cl cs vs ns R} : c_closedH.Stm p loose mg mb w s C M cl cs vs ns R := pk_all (p := c_closedH.cx) (by with_unfolding_all exact c_closedH.main) ((((p, loose), (mg, mb)), ((w, s), C)), (((M, cl), cs), ((vs, ns), R)))
end
end Mine
end
section
namespace Mine
noncomputable def kvE (e : DictEntry) : Str × Value := (match e.key with | .str k _ => k | _ => ⟨#[]⟩, e.val)
theorem lit_pairs {prog : Program} {w : World} : ∀ (es : List DictEntry), (∀ e ∈ es, ∃ k t, e.key = .str k t /\ e.hash = PyData.keyHash w.params k) -> Pairs (PySem.strKind prog w) es (es.map kvE)
 | [], _ => .nil
 | e :: r, h => by
   refine x2_2 (h e List.mem_cons_self) fun k t hk hh => ?_
   have e1 : kvE e = (k, e.val) := by unfold kvE; rw [hk]
   rw [List.map_cons, e1]
   exact .cons (by rw [hk]; exact strKind_is prog w k t) rfl (lit_pairs r fun e he => h e (List.mem_cons_of_mem _ he))
noncomputable def keyE (e : DictEntry) : Str := match e.key with | .str k _ => k | _ => ⟨#[]⟩
noncomputable def etOk (w : World) (o : Obj) : Prop := ∃ (es : List DictEntry) (n : Nat), o = ⟨.type "dict", none, .dict es.toArray n, #[]⟩ /\ (∀ e ∈ es, ∃ k t, e.key = .str k t /\ e.hash = PyData.keyHash w.params k) /\ (es.map keyE).Nodup /\
 (∃ t, (es.find? fun e => keyE e = Str.ofString "(").map (·.val) = some (.int 7 t)) /\ (∃ t, (es.find? fun e => keyE e = Str.ofString ")").map (·.val) = some (.int 8 t)) /\ ∀ k ∈ es.map keyE, ∀ c ∈ [97, 98, 99, 100], ¬ k.cps[0]? = some c
theorem et67 {w : World} {g : Heap} (X : (Mine.mk.heap_1 w.params).In g) : ∃ o, g.get? 67 = some o /\ etOk w o := by
 have dd : model Challenge.rw_kl0462_01.prog w = model Challenge.rw_kl0462_01.prog w := rfl
 revert X dd
 k_fill
 intro X dd
 have := inObj (a := 67) (c := .type "dict") (d := none) (sl := #[]) X (by k_is)
 refine ⟨_, this, _, _, rfl, ?_, ?_, ⟨?t7, ?h7⟩, ⟨?t8, ?h8⟩, ?_⟩
 case h7 => exact rfl
 case h8 => exact rfl
 · repeat' (first | exact List.forall_mem_nil _ | (refine List.forall_mem_cons.mpr ⟨⟨_, _, rfl, rfl⟩, ?_⟩))
 · simp only [List.map, keyE]
   decide +kernel
 · simp only [List.map, keyE]
   decide +kernel
theorem valueAt_map (es : List DictEntry) (k : Str) : valueAt (es.map kvE) k = (es.find? fun e => keyE e = k).map (·.val) := by
 unfold valueAt
 rw [List.find?_map, Option.map_map]
 rfl
theorem et67_dict {prog : Program} {w : World} {g : Heap} (X : (Mine.mk.heap_1 w.params).In g) : ∃ kvs, g.DictOf (PySem.strKind prog w) 67 kvs /\ (∃ t, valueAt kvs (Str.ofString "(") = some (.int 7 t)) /\ (∃ t, valueAt kvs (Str.ofString ")") = some (.int 8 t)) /\ ∀ (y : Str) c, c ∈ [97, 98, 99, 100] -> y.cps[0]? = some c -> valueAt kvs y = none := by
 obtain ⟨o, ho, es, n, hcz4, hk, hn, h7, h8, hm⟩ := (et67 X)
 cases hcz4
 refine i1_4 (es.map kvE) ⟨_, _, n, ho, ⟨rfl, rfl, rfl⟩, rfl, fun e he => ?_, lit_pairs es hk, ?_⟩ (by rw [valueAt_map]; exact h7) (by rw [valueAt_map]; exact h8) (fun y c hc hy => ?_)
 · refine x2_2 (hk e (by simpa using he)) fun k t h1 h2 => ?_
   exact i1_2 k (by rw [h1]; exact strKind_is prog w k t) h2
 · rw [List.map_map]; exact hn
 · rw [valueAt_map]
   rw [List.find?_eq_none.mpr, Option.map_none]
   intro e he
   simp only [decide_eq_true_eq]
   intro e2
   exact hm (keyE e) (List.mem_map_of_mem he) c hc (by rw [e2]; exact hy)
end Mine
end
section
namespace Mine
theorem dict2 {prog : Program} {w : World} {A : Around} {E : Value -> Shared -> Prop} {s : Shared} {env : Env} {h₀ : Heap} {L : Addr} {m : Str -> Option Value} {news : List (Addr × Obj)} {k1 k2 v1 v2 : Str} {a1 a2 a3 a4 : Nat} {q1 q2 q3 q4 pos : Pos} {Q : Value -> Shared -> Prop} (F : Fr h₀ L s.heap m) (N : News h₀ L s.heap news) (hne : k1 ≠ k2)
   (h : ∀ (D : Nat) h' o tk t1 t2, Fr h₀ L h' m -> o.IsDictOf (PySem.strKind prog w) [(k1, .str v1 t1), (k2, .str v2 t2)] -> News h₀ L h' ((D, o) :: news) -> (∀ q ∈ news, @LT.lt Nat _ q.1 D) -> Q (.ref D) { s with heap := h', toks := tk }) :
   wpAny (model prog w) A (eval (.Dict [some (.Constant (.str k1) a1 q1), some (.Constant (.str k2) a2 q2)] [.Constant (.str v1) a3 q3, .Constant (.str v2) a4 q4] pos) env) Q E s := by
 have hnew : (s.heap.push { cls := .type "dict", dict := none, data := .dict #[] }).DictOf (PySem.strKind prog w) s.heap.objs.size [] := Heap.DictOf.new s.heap
 have F_1 := F.push { cls := .type "dict", dict := none, data := .dict #[] }
 have N_1 : News h₀ L (s.heap.push { cls := .type "dict", dict := none, data := .dict #[] }) news := fun q hq => ⟨Heap.get?_push_of_some _ (N q hq).1, (N q hq).2⟩
 refine wpAny_Dict_walk (knd := PySem.strKind prog w) rfl rfl (by simp) (by show 2 <= 15; decide) ?_
 have fin : ∀ t1 t2 t3 t4 tk, ∃ kvs, Carries (PySem.strKind prog w) [(Value.str k1 t1, Value.str v1 t2), (Value.str k2 t3, Value.str v2 t4)] kvs /\ (s.heap.push { cls := .type "dict", dict := none, data := .dict #[] }).DictOf (PySem.strKind prog w) s.heap.objs.size [] /\
     ∀ h', h'.DictOf (PySem.strKind prog w) s.heap.objs.size (merged [] kvs) -> Heap.SameBut s.heap.objs.size (s.heap.push { cls := .type "dict", dict := none, data := .dict #[] }) h' -> Q (.ref s.heap.objs.size) { s with heap := h', toks := tk } := fun t1 t2 t3 t4 tk => by
   refine i1_3 [(k1, .str v1 t2), (k2, .str v2 t4)] ⟨strKind_is prog w k1 t1, rfl, strKind_is prog w k2 t3, rfl, trivial⟩ hnew (fun h' hd hs => ?_)
   refine x1_2 (Heap.dictOf_iff.mp hd) fun o ho hdo => ?_
   have em : merged [] [(k1, Value.str v1 t2), (k2, Value.str v2 t4)] = [(k1, Value.str v1 t2), (k2, Value.str v2 t4)] := by
     simp [merged, stored, hne]
   rw [em] at hdo
   have lt : ∀ q ∈ news, @LT.lt Nat _ q.1 s.heap.objs.size := fun q hq => Heap.lt_size (N q hq).1
   refine h _ h' o _ t2 t4 ⟨F_1.ns.sameBut hs (Nat.ne_of_lt F.ns.lt), fun b o' e => hs.extBut b o' (fun z => ?_) (F_1.keep b o' e), F.above⟩ hdo (fun q hq => ?_) lt
   · have := Heap.lt_size e
     rw [z] at this
     exact absurd this (Nat.not_lt.mpr (Nat.le_trans F.above (Nat.le_of_lt F.ns.lt)))
   · rcases List.mem_cons.mp hq with rfl | hq
     · exact i0_3 ho (Nat.ne_of_gt F.ns.lt) (Heap.get?_none_of_le (Nat.le_trans F.above (Nat.le_of_lt F.ns.lt)))
     · exact ⟨hs.extBut _ _ (Nat.ne_of_lt (lt q hq)) (N_1 q hq).1, (N q hq).2⟩
 refine wpAny_bind (wpAny_Constant_str (wpAny_bind (wpAny_holding (wpAny_bind (wpAny_Constant_str (wpAny_bind (wpAny_standAt (wpAny_pure ?_))))))))
 refine wpAny_bind (wpAny_holding ?_)
 refine wpAny_bind (wpAny_Constant_str (wpAny_bind (wpAny_holding (wpAny_bind (wpAny_Constant_str (wpAny_bind (wpAny_standAt (wpAny_pure ?_))))))))
 refine wpAny_bind (wpAny_holding (wpAny_pure (wpAny_pure (wpAny_pure ?_))))
 exact fin _ _ _ _ _
noncomputable def LTt : Str := Str.ofString "<t"
noncomputable def LTe : Str := Str.ofString "</t>"
noncomputable def cellOf (y : Str) : Str := if y = LTt then Str.ofString "(" else if y = LTe then Str.ofString ")" else y
noncomputable def numOf (y : Str) : Int := if y = Str.ofString "(" then 7 else if y = Str.ofString ")" then 8 else 1
noncomputable def PieceOk (y : Str) : Prop := y = LTt \/ y = LTe \/ y = Str.ofString ">" \/ ∃ c ∈ [97, 98, 99, 100], y.cps[0]? = some c
noncomputable def readCs (ys : List Str) : List Str := (ys.filter fun y => !decide (y = Str.ofString ">")).map cellOf
theorem tags_value (y : Str) (t1 t2 u : Tok) : ∃ t, (valueAt [(Str.ofString "<t", Value.str (Str.ofString "(") t1), (Str.ofString "</t>", Value.str (Str.ofString ")") t2)] y).getD (.str y u) = .str (cellOf y) t := by
 unfold cellOf
 by_cases h1 : y = LTt
 · subst h1; exact ⟨t1, rfl⟩
 · rw [if_neg h1]
   by_cases h2 : y = LTe
   · subst h2; exact ⟨t2, rfl⟩
   · rw [if_neg h2]
     refine ⟨u, ?_⟩
     have e : valueAt [(Str.ofString "<t", Value.str (Str.ofString "(") t1), (Str.ofString "</t>", Value.str (Str.ofString ")") t2)] y = none := by
       unfold valueAt
       simp only [List.find?_cons]
       rw [decide_eq_false (fun z : Str.ofString "<t" = y => h1 z.symm), decide_eq_false (fun z : Str.ofString "</t>" = y => h2 z.symm)]
       rfl
     rw [e]; rfl
theorem paired_map {f : Str -> Str} {l : List (Str × Tok)} {ys : List Value} (h : Paired (fun v y => ∃ z u t, v = .str z u /\ y = .str (f z) t) (strValues l) ys) : ∃ cl, ys = strValues cl /\ cl.map (·.1) = (l.map (·.1)).map f := by
 induction l generalizing ys with
 | nil =>
   have h : Paired _ [] ys := h
   cases h
   exact ⟨[], rfl, rfl⟩
 | cons q l ih =>
   have h : Paired _ (.str q.1 q.2 :: strValues l) ys := h
   cases h with
   | cons x r =>
     refine x3_2 (x) fun z u t e hcz4 => ?_
     try clear x
     cases hcz4
     refine x1_2 (ih r) fun cl hcz1 hh => ?_
     cases hcz1
     cases e
     exact i1_2 ((f q.1, t) :: cl) rfl (by rw [List.map_cons, List.map_cons, List.map_cons, hh])
theorem paired_ints {f : Str -> Int} {l : List (Str × Tok)} {ys : List Value} (h : Paired (fun v y => ∃ z u t, v = .str z u /\ y = .int (f z) t) (strValues l) ys) : IntsAre ys ((l.map (·.1)).map f) := by
 induction l generalizing ys with
 | nil =>
   have h : Paired _ [] ys := h
   cases h
   exact .nil
 | cons q l ih =>
   have h : Paired _ (.str q.1 q.2 :: strValues l) ys := h
   cases h with
   | cons x r =>
     refine x3_2 (x) fun z u t e hcz4 => ?_
     try clear x
     cases hcz4
     cases e
     exact .cons _ t (ih r)
noncomputable def keepV : Value -> Bool
 | .str y _ => !decide (y = Str.ofString ">")
 | _ => true
theorem keep_vals (ps : List (Str × Tok)) : (strValues ps).filter keepV = strValues (ps.filter fun q => !decide (q.1 = Str.ofString ">")) := by
 unfold strValues
 rw [List.filter_map]
 rfl
theorem keep_map (ps : List (Str × Tok)) : (ps.filter fun q => !decide (q.1 = Str.ofString ">")).map (·.1) = (ps.map (·.1)).filter fun y => !decide (y = Str.ofString ">") := by
 rw [List.filter_map]; rfl
theorem name_GX {M : Model} {A : Around} {E : Value -> Shared -> Prop} {s : Shared} {K : Frag} {h₀ : Heap} {L : Addr} {m mg mb : Str -> Option Value} {p : Program} {loose : List Str} {env : Env} {x : Str} {pos : Pos} {v : Value} {Q : Value -> Shared -> Prop} (F : Fr h₀ L s.heap m) (X : K.In h₀) (T : TopRead p loose mg mb h₀) (e : nsIn K mainGlobals x = some (some v)) (h : Q v s)
   (hg : env.globals = mainGlobals) (hk : env.scope.kind = .function) (hx : env.kindOf x = some .globalImplicit) (hd : (x == ("__debug__" : Str)) = false) :
   wpAny M A (eval (.Name x pos) env) Q E s :=
 Name_function_global hk hx (loadGlobal_global (by rw [hg]; exact T.g.keeps F.keep) (mg_of X T.g e) h) hd
theorem cell_ok {ys : List Str} (hok : ∀ y ∈ ys, PieceOk y) {y : Str} (h : y ∈ readCs ys) : y = Str.ofString "(" \/ y = Str.ofString ")" \/ ∃ c ∈ [97, 98, 99, 100], y.cps[0]? = some c := by
 refine x1_2 (List.mem_map.mp h) fun z hz hcz2 => ?_
 cases hcz2
 refine x0_2 (List.mem_filter.mp hz) fun h1 h2 => ?_
 unfold cellOf
 rcases hok z h1 with rfl | rfl | rfl | ⟨c, hc, hy⟩
 · exact .inl rfl
 · exact .inr (.inl rfl)
 · exact absurd h2 (by decide +kernel)
 · split
   · exact .inl rfl
   · split
     · exact .inr (.inl rfl)
     · exact .inr (.inr ⟨c, hc, hy⟩)
theorem numOf_text {y : Str} {c : Nat} (hc : c ∈ [97, 98, 99, 100]) (hy : y.cps[0]? = some c) : numOf y = 1 := by
 unfold numOf
 rw [if_neg, if_neg]
 · rintro rfl
   have : (41 : Nat) = c := Option.some.inj hy
   subst this; exact absurd hc (by decide)
 · rintro rfl
   have : (40 : Nat) = c := Option.some.inj hy
   subst this; exact absurd hc (by decide)
noncomputable def leavesIn (x : Str) : Str := ⟨([97, 98, 99, 100].filter fun c => decide (c ∈ x.cps.toList)).toArray⟩
noncomputable def readAt (gs : List Str) (cs : List Str) (b : Nat) : List Int := ((List.range gs.length).filter fun k => decide (gs.getD k ⟨#[]⟩ = leavesIn (closedP (cs.drop b) ((cs.map numOf).drop b)))).map Int.ofNat
noncomputable def readP (gs : List Str) (cs : List Str) : List Int := (List.range' 1 (cs.length - 1)).flatMap (readAt gs cs)
theorem slice_F {prog : Program} {w : World} {A : Around} {E : Value -> Shared -> Prop} {s : Shared} {env : Env} {h₀ : Heap} {C : Addr} {vs : List Value} {value lower : PySem.Expr} {p pos : Pos} {Q : Value -> Shared -> Prop} (hz : vs.length <= 1000)
   (h : wpAny (model prog w) A (eval value env) (fun o s₁ => wpAny (model prog w) A (eval lower env) (fun vu s_2 => Stop (o = .ref C /\ ∃ (k : Nat) (t : Tok) (L : Addr) (m : Str -> Option Value) (news : List (Addr × Obj)), vu = .int k t /\ s_2.heap.IsList C vs.toArray /\ Fr h₀ L s_2.heap m /\ News h₀ L s_2.heap news /\
     ∀ (D : Nat) h', Fr h₀ L h' m -> News h₀ L h' ((D, PySem.W.listOf (vs.drop k).toArray 0) :: news) -> (∀ q ∈ news, @LT.lt Nat _ q.1 D) -> Q (.ref D) { s_2 with heap := h' })) E s₁) E s)
   (ht : ∀ o r, letTemporaryGo value o r = pure () := by intro _ _; rfl) :
   wpAny (model prog w) A (eval (.Subscript value (.Slice (some lower) none none p) pos) env) Q E s := by
 refine wpAny_Subscript_list_slice (wpAny_mono h (fun o s₁ h_1 => ?_) fun _ _ z => z) ht
 refine evalPart_some_step (wpAny_mono h_1 (fun vu s_2 h_2 => ?_) fun _ _ z => z)
 rw [evalPart_none]
 refine wpAny_pure ?_
 refine x0_2 h_2 fun hcz0 hoa => ?_
 refine x5_5 hoa fun k t L m news hcz6 hC F N hQ => ?_
 clear hoa
 try clear h_2
 cases hcz0
 cases hcz6
 refine i4_6 C _ (some (k : Int)) none rfl hC (Nat.le_trans (by simpa using hz) (by decide)) (.int _ _) .none ?_
 rw [slicePick_from']
 have F_1 := F.push { cls := .type "slice", data := .fields #[.int k t, .none, .none] }
 have N_1 : News h₀ L (s_2.heap.push { cls := .type "slice", data := .fields #[.int k t, .none, .none] }) news := fun q hq => ⟨Heap.get?_push_of_some _ (N q hq).1, (N q hq).2⟩
 have N_2 := News.push F_1 N_1 (PySem.W.listOf (vs.drop k).toArray 0) rfl
 rw [Heap.size_push] at N_2
 refine hQ _ _ (F_1.push _) N_2 fun q hq => ?_
 have := Heap.lt_size (N_1 q hq).1
 rwa [Heap.size_push] at this
theorem pick_from (items : Array Value) (b : Nat) (hb : b <= items.size) : slicePick items (some (b : Int)) none none = (items.toList.drop b).toArray := by
 rw [slicePick_from']
end Mine
end
local macro_rules | `(tactic| walk_at "eval Name") => Mine.mGo "h ; key Mine.KG.go ?hK ?_ | hK:A ; dflt Mine.name_GX ?kF ?k1 ?k2 ?k3 ?_ ?k6 ?k8 ?k9 ?k10 | k6:r k8:r k9:r k10:d kF:k k1:k k2:k k3:s"
section
namespace Mine
theorem ints_drop {vs : List Value} {ns : List Int} (h : IntsAre vs ns) : ∀ b, IntsAre (vs.drop b) (ns.drop b) := by
 induction h with
 | nil => intro b; cases b <;> exact .nil
 | cons k t r ih =>
   intro b
   cases b with
   | zero => exact .cons k t r
   | succ b => exact ih b
theorem closed_len {cs : List Str} {ns : List Int} (h : Good (joinS cs)) : (closedP cs ns).length <= 1000 := by
 unfold closedP
 split
 · exact (h.take _).2
 · exact Nat.zero_le _
theorem iadd_lists {prog : Program} {w : World} {A : Around} {E : Value -> Shared -> Prop} {s : Shared} {l b : Addr} {items items2 : Array Value} {n n2 : Nat} {Q : Value -> Shared -> Prop} (ha : s.heap.get? l = some (listOf items n)) (hb : s.heap.get? b = some (listOf items2 n2)) (hz : items.size + items2.size <= 1000)
   (h : ∀ h' n', h'.get? l = some (listOf (items ++ items2) n') -> Heap.SameBut l s.heap h' -> Q (.ref l) { s with heap := h' }) : wpAny (model prog w) A (inplaceOp .Add (.ref l) (.ref b)) Q E s := by
 unfold inplaceOp
 refine wpAny_holding ?_
 have la : s.heap.IsList l items := ⟨_, ha, rfl, _, rfl⟩
 have lb : s.heap.IsList b items2 := ⟨_, hb, rfl, _, rfl⟩
 have hfi : fillsInplaceSlot (.type "list") "add" (Operator.Add == .Add) = pure false := by
   unfold fillsInplaceSlot
   show (typeLookup (.type "list") (dunderI "add") >>= fun fi => pure (fi.isSome && !isSeqSlot fi)) = pure false
   rw [PySem.F.slot_list_iadd.lookup]
   show pure (f := Sem) (Option.isSome _ && !isSeqSlot _) = pure false
   rw [show isSeqSlot (some (Value.builtin "list.__iadd__")) = true by decide +kernel]
   rfl
 have hsi : seqSlot? (.type "list") (dunderI "add") = pure (some (.builtin "list.__iadd__")) := PySem.seqSlot_of PySem.F.slot_list_iadd.lookup (by decide +kernel)
 refine wpAny_bind (wpAny_typeOf la.typeIs (wpAny_bind (wpAny_of_eq hfi ?_)))
 show wpAny _ A (if false = true then _ else _) Q E s
 rw [if_neg Bool.false_ne_true]
 refine wpAny_bind (wpAny_binaryOp1_none (nm := "add") la.typeIs lb.typeIs noFill_list_add ?_)
 refine wpAny_bind (wpAny_of_eq hsi ?_)
 refine wpAny_bind (wpAny_rule ?_)
 refine call_meets PySem.F.slot_list_iadd la.typeIs PySem.F.entry_list_iadd (PySem.F.args_list_iadd_2 _ _) (AutoSeq1.list___iadd___list_list_0 l items n b items2 n2 ?_ ?_ ?_) ⟨ha, hb, h _ _ (Heap.get?_update_self _ ha rfl) (Heap.SameBut.update ..)⟩
 · unfold Builtin.List.listTooLong
   rw [Bool.and_eq_true, decide_eq_true_eq]
   exact fun z => absurd z.2 (Nat.not_lt.mpr (Nat.le_trans hz (by decide)))
 · exact Nat.le_trans (Nat.le_trans (Nat.le_add_right _ _) hz) (by decide)
 · exact Nat.le_trans hz (by decide)
theorem sign_val {x : Str} {i : Nat} {v : Value} (h : SignAt x i v) : ∃ c u, v = .str ⟨#[c]⟩ u /\ x.cps[i]? = some c := by
 refine x2_2 (h) fun c u h1 h2 => ?_
 try clear h
 exact i2_2 c u h2 h1
theorem sign_list {x : Str} : ∀ {vs : List Value} {l : List Nat}, vs.length = l.length -> (∀ (j : Nat) (v : Value), vs[j]? = some v -> ∃ c u, l[j]? = some c /\ v = .str ⟨#[c]⟩ u) -> ∃ k : List (Str × Tok), vs = strValues k /\ k.map (·.1) = l.map fun c => (⟨#[c]⟩ : Str)
 | [], [], _, _ => ⟨[], rfl, rfl⟩
 | v :: vs, c :: l, h1, h2 => by
   refine x2_2 (h2 0 v rfl) fun c' u e1 hcz3 => ?_
   cases hcz3
   cases e1
   refine x1_2 (sign_list (x := x) (vs := vs) (l := l) (Nat.succ.inj h1) fun j v hj => h2 (j + 1) v hj) fun k hcz1 hk => ?_
   cases hcz1
   exact i1_2 ((⟨#[c]⟩, u) :: k) rfl (by rw [List.map_cons, List.map_cons, hk])
noncomputable def inV (X : List Nat) : Value -> Bool
 | .str y _ => decide (y.cps.getD 0 0 ∈ X)
 | _ => false
theorem leaves_vals (k : List (Str × Tok)) (X : List Nat) : (strValues k).filter (inV X) = strValues (k.filter fun q => decide (q.1.cps.getD 0 0 ∈ X)) := by
 unfold strValues
 rw [List.filter_map]
 rfl
theorem leaves_map (k : List (Str × Tok)) (X : List Nat) : (k.filter fun q => decide (q.1.cps.getD 0 0 ∈ X)).map (·.1) = (k.map (·.1)).filter fun y => decide (y.cps.getD 0 0 ∈ X) := by
 rw [List.filter_map]; rfl
theorem leaves_flat (X : List Nat) : ∀ l : List Nat, ((l.map fun c => (⟨#[c]⟩ : Str)).filter fun y => decide (y.cps.getD 0 0 ∈ X)).flatMap (·.cps.toList) = l.filter fun c => decide (c ∈ X)
 | [] => rfl
 | c :: l => by
   have e : (⟨#[c]⟩ : Str).cps.getD 0 0 = c := rfl
   rw [List.map_cons, List.filter_cons, List.filter_cons, e]
   split
   · rw [List.flatMap_cons, leaves_flat X l]; rfl
   · exact leaves_flat X l
noncomputable def readTo (gs : List Str) (lf : Str) (i : Nat) : List Int := ((List.range i).filter fun k => decide (gs.getD k ⟨#[]⟩ = lf)).map Int.ofNat
theorem readTo_succ (gs lf i) : readTo gs lf (i + 1) = if gs.getD i ⟨#[]⟩ = lf then readTo gs lf i ++ [(i : Int)] else readTo gs lf i := by
 unfold readTo
 rw [List.range_succ, List.filter_append, List.map_append, List.filter_cons]
 by_cases h : gs.getD i ⟨#[]⟩ = lf
 · rw [if_pos h, if_pos (decide_eq_true h)]; rfl
 · rw [if_neg h, if_neg (by simpa using h)]; simp
theorem readTo_len (gs lf) : ∀ i, (readTo gs lf i).length <= i
 | 0 => Nat.le_refl _
 | i + 1 => by
   have := readTo_len gs lf i
   rw [readTo_succ]
   split
   · rw [List.length_append]; exact Nat.succ_le_succ this
   · omega
section
namespace read_turnH
noncomputable def Stm (pC : Program) (looseC : List Str) (mgC mbC : Str -> Option Value) (w : World) (g : Heap) (s : Shared) (L it Fd D D_2 G : Nat) (io o2 o3 : Obj) (v2 v3 : Option Value) (cl gl : List (Str × Tok)) (cs gs : List Str) (vs vf : List Value) (fs : List Int) (nf nD nD_2 b : Nat) (tb : Tok) (m : Str -> Option Value) (Q : Flow -> Shared -> Prop) : Prop := ∀ {name qual : Str} {params : Arguments} {body : List Stmt} {scope : Scope} {dV kV doc pm cdv ct oc : Value} {an odd : Option Addr} {osl : Array (Option Value)} (T : TopRead pC looseC mgC mbC g) (X : (Mine.mk.heap_1 w.params).In g) (ho : (Mine.mk.heap_1 w.params).lookup 238 = some ⟨oc, odd, .func (fnOf name qual params body scope dV kV doc pm an cdv ct), osl⟩) (lts : L + 1 + 1 + 1 ≠ D /\ L + 1 + 1 ≠ D /\ D ≠ D_2 /\ L + 1 + 1 + 1 ≠ D_2 /\ L + 1 + 1 ≠ D_2 /\ D < Fd /\ D_2 < Fd /\ L + 1 + 1 + 1 < Fd /\ Fd < it) (F : Fr g L s.heap (fun y => if y = "cells" then some (.ref D) else if y = "numbers" then some (.ref D_2) else if y = "found" then some (.ref Fd) else if y = "groups" then some (.ref G) else if y = "begin" then some (.int (b : Int) tb) else m y)) (N : News g L s.heap [(it, io), (Fd, listOf vf.toArray nf), (D_2, listOf vs.toArray nD_2), (D, listOf (strValues cl).toArray nD), (L + 1 + 1 + 1, o3), (L + 1 + 1, o2)]) (d2 : o2.data = .cell v2) (d3 : o3.data = .cell v3) (hcs : cl.map (·.1) = cs) (hi : IntsAre vs (cs.map numOf)) (hif : IntsAre vf fs) (hfz : fs.length <= 500) (hcz : cs.length <= 500) (hb : b < cs.length) (hgood : Good (joinS (cs.drop b))) (hG : g.IsList G (strValues gl).toArray) (hgl : gl.map (·.1) = gs) (hgz : gs.length <= 10) (hg4 : ∀ i, (gs.getD i ⟨#[]⟩).length <= 4) (hQ : ∀ s' (m' : Str -> Option Value) o2' o3' v2' v3' vf' nf',
    Fr g L s'.heap (fun y => if y = "cells" then some (.ref D) else if y = "numbers" then some (.ref D_2) else if y = "found" then some (.ref Fd) else if y = "groups" then some (.ref G) else m' y) ->
    News g L s'.heap [(it, io), (Fd, listOf vf'.toArray nf'), (D_2, listOf vs.toArray nD_2), (D, listOf (strValues cl).toArray nD), (L + 1 + 1 + 1, o3'), (L + 1 + 1, o2')] -> o2'.data = .cell v2' -> o3'.data = .cell v3' -> IntsAre vf' (fs ++ readAt gs cs b) -> s'.os = s.os -> (AllBare s.gens -> AllBare s'.gens) -> Q .next s'), wpAny (model Challenge.rw_kl0462_01.prog w) ((AL 5).deeper (envOfC qual scope L 238 cdv)) (execs (forBody body) (envOfC qual scope L 238 cdv)) Q NF s
noncomputable def cx (v : ((((Program × (List Str)) × ((Str -> Option Value) × (Str -> Option Value))) × ((World × Heap) × (Shared × Nat))) × (((Nat × Nat) × (Nat × Nat)) × ((Nat × Obj) × (Obj × Obj)))) × (((((Option Value) × (Option Value)) × ((List (Str × Tok)) × (List (Str × Tok)))) × ((List Str × (List Str)) × (List Value × (List Value)))) × (((List Int × Nat) × (Nat × Nat)) × ((Nat × Tok) × ((Str -> Option Value) × (Flow -> Shared -> Prop)))))) : Prop := Stm v.1.1.1.1.1 v.1.1.1.1.2 v.1.1.1.2.1 v.1.1.1.2.2 v.1.1.2.1.1 v.1.1.2.1.2 v.1.1.2.2.1 v.1.1.2.2.2 v.1.2.1.1.1 v.1.2.1.1.2 v.1.2.1.2.1 v.1.2.1.2.2 v.1.2.2.1.1 v.1.2.2.1.2 v.1.2.2.2.1 v.1.2.2.2.2 v.2.1.1.1.1 v.2.1.1.1.2 v.2.1.1.2.1 v.2.1.1.2.2 v.2.1.2.1.1 v.2.1.2.1.2 v.2.1.2.2.1 v.2.1.2.2.2 v.2.2.1.1.1 v.2.2.1.1.2 v.2.2.1.2.1 v.2.2.1.2.2 v.2.2.2.1.1 v.2.2.2.1.2 v.2.2.2.2.1 v.2.2.2.2.2
noncomputable section
def tup := pk (by walk_at "ne") cx
@[irreducible]def pC:=tup.1.1.1.1.1
@[irreducible]def looseC:=tup.1.1.1.1.2
@[irreducible]def mgC:=tup.1.1.1.2.1
@[irreducible]def mbC:=tup.1.1.1.2.2
@[irreducible]def w:=tup.1.1.2.1.1
@[irreducible]def g:=tup.1.1.2.1.2
@[irreducible]def s:=tup.1.1.2.2.1
@[irreducible]def L:=tup.1.1.2.2.2
@[irreducible]def it:=tup.1.2.1.1.1
@[irreducible]def Fd:=tup.1.2.1.1.2
@[irreducible]def D:=tup.1.2.1.2.1
@[irreducible]def D_2:=tup.1.2.1.2.2
@[irreducible]def G:=tup.1.2.2.1.1
@[irreducible]def io:=tup.1.2.2.1.2
@[irreducible]def o2:=tup.1.2.2.2.1
@[irreducible]def o3:=tup.1.2.2.2.2
@[irreducible]def v2:=tup.2.1.1.1.1
@[irreducible]def v3:=tup.2.1.1.1.2
@[irreducible]def cl:=tup.2.1.1.2.1
@[irreducible]def gl:=tup.2.1.1.2.2
@[irreducible]def cs:=tup.2.1.2.1.1
@[irreducible]def gs:=tup.2.1.2.1.2
@[irreducible]def vs:=tup.2.1.2.2.1
@[irreducible]def vf:=tup.2.1.2.2.2
@[irreducible]def fs:=tup.2.2.1.1.1
@[irreducible]def nf:=tup.2.2.1.1.2
@[irreducible]def nD:=tup.2.2.1.2.1
@[irreducible]def nD_2:=tup.2.2.1.2.2
@[irreducible]def b:=tup.2.2.2.1.1
@[irreducible]def tb:=tup.2.2.2.1.2
@[irreducible]def m:=tup.2.2.2.2.1
@[irreducible]def Q:=tup.2.2.2.2.2
end
noncomputable def P1 : {PQ : Str -> Arguments -> Value -> Value -> Value -> Value -> Value -> Value -> Value -> (Option Addr) -> (Option Addr) -> (Array (Option Value)) -> Nat -> Heap -> Nat -> Heap -> Str -> Shared -> Tok -> Prop // Hold (∀ a0 a1 a2 a3 a4 a5 a6 a7 a8 a9 a10 a11 a12 a13 a14 a15 a16 a17 a18, PQ a0 a1 a2 a3 a4 a5 a6 a7 a8 a9 a10 a11 a12 a13 a14 a15 a16 a17 a18) -> Stm pC looseC mgC mbC w g s L it Fd D D_2 G io o2 o3 v2 v3 cl gl cs gs vs vf fs nf nD nD_2 b tb m Q} := ⟨_, by
 intro hPk
 intro name qual params body scope dV kV doc pm cdv ct oc an odd osl T X ho lts F N d2 d3 hcs hi hif hfz hcz hb hgood hG hgl hgz hg4 hQ
 have kS1 : KX := trivial
 have kSg : KG := trivial
 have kS2 : Key "call ref" := trivial
 have kS3 : Key "eval Subscript Name Slice" := trivial
 have kS4 : Key "eval ListComp" := trivial
 have kS5 : Key "call builtin:str.join" := trivial
 have kS6 : Key "inplaceOp Add" := trivial
 revert X ho
 k_fill
 intro X ho
 have e := ho.symm.trans (by k_is)
 refine x0_3 (fnE e) fun hcz0 hcz1 hcz2 => ?_
 cases hcz0
 cases hcz1
 cases hcz2
 clear e
 clear ho
 dsimp only [forBody]
 have D3 : Hold (o3.data = .cell v3) := ⟨d3⟩
 have hcl : cl.length = cs.length := by rw [<- hcs]; simp
 have hvl : vs.length = cs.length := by rw [hi.length]; simp
 k_steps
 unfold Stop
 refine slice_F (h₀ := g) (C := D) (vs := strValues cl) (by simp [strValues]; omega) ?_
 k_steps
 unfold Stop
 refine ⟨rfl, b, _, _, _, _, rfl, News.isList N (by k_mem), F, N, fun C_1 h_1 F_1 N_1 l1 => ?_⟩
 k_lt l1
 k_steps
 unfold Stop
 refine slice_F (h₀ := g) (C := D_2) (vs := vs) (by omega) ?_
 k_steps
 unfold Stop
 refine ⟨rfl, b, _, _, _, _, rfl, News.isList N_1 (by k_mem), F_1, N_1, fun M_1 h_2 F_2 N_2 l2 => ?_⟩
 k_lt l2
 clear F N F_1 N_1
 k_steps
 unfold Stop
 have hC : h_2.IsList C_1 (strValues (cl.drop b)).toArray := by
   have := News.isList N_2 (a := C_1) (items := ((strValues cl).drop b).toArray) (n := 0) (d := none) (sl := #[]) (by k_mem)
   rwa [show strValues (cl.drop b) = (strValues cl).drop b from List.map_drop ..]
 have hM : h_2.IsList M_1 (vs.drop b).toArray := News.isList N_2 (n := 0) (d := none) (sl := #[]) (by k_mem)
 have hcd : (cl.drop b).map (·.1) = cs.drop b := by rw [List.map_drop, hcs]
 have hid : IntsAre (vs.drop b) ((cs.drop b).map numOf) := by rw [List.map_drop]; exact ints_drop hi b
 have hlen_3 : (closedP (cs.drop b) ((cs.drop b).map numOf)).length <= 1000 := closed_len hgood
 refine x1_1 (⟨_, rfl⟩ : ∃ xt, closedP (cs.drop b) ((cs.drop b).map numOf) = xt) fun xt hxt => ?_
 refine callC 3 (c_closed (p := pC) (loose := looseC) (mg := mgC) (mb := mbC) (T.keeps F_2.keep) (Frag.In.keeps X F_2.keep) hC hcd hM hid (by simp) (by simp; omega) (by simp; omega) hgood fun s_3 t_3 K_3 => ?_)
 have F_3 := fr_keeps F_2 K_3.keep
 have N_3 : News g L s_3.heap [(it, io), (Fd, listOf vf.toArray nf), (D_2, listOf vs.toArray nD_2), (D, listOf (strValues cl).toArray nD), (L + 1 + 1 + 1, o3), (L + 1 + 1, o2)] := news_keep (fun q hq => N_2 q (List.mem_cons_of_mem _ (List.mem_cons_of_mem _ hq))) K_3.keep
 have os_3 := K_3.os
 have ba_3 := K_3.bare
 rw [hxt] at hlen_3 ⊢
 clear F_2 N_2 K_3 hC hM l1 l2
 dsimp only at os_3 ba_3 ⊢
 repeat (rename (_ : Prop) => hZ; revert hZ)
 intro hPk
 apply hPk.out name params dV kV doc pm cdv ct oc an odd osl C_1 h_1 M_1 h_2 xt s_3 t_3
 ⟩
noncomputable def cx1 (v : ((((Str × Arguments) × Value) × (Value × Value)) × (((Value × Value) × Value) × (Value × (Option Addr)))) × (((((Option Addr) × (Array (Option Value))) × Nat) × (Heap × Nat)) × ((Heap × Str) × (Shared × Tok)))) : Prop := P1.1 v.1.1.1.1.1 v.1.1.1.1.2 v.1.1.1.2 v.1.1.2.1 v.1.1.2.2 v.1.2.1.1.1 v.1.2.1.1.2 v.1.2.1.2 v.1.2.2.1 v.1.2.2.2 v.2.1.1.1.1 v.2.1.1.1.2 v.2.1.1.2 v.2.1.2.1 v.2.1.2.2 v.2.2.1.1 v.2.2.1.2 v.2.2.2.1 v.2.2.2.2
noncomputable section
def tup1 := pk (by walk_at "ne") cx1
@[irreducible]def name:=tup1.1.1.1.1.1
@[irreducible]def params:=tup1.1.1.1.1.2
@[irreducible]def dV:=tup1.1.1.1.2
@[irreducible]def kV:=tup1.1.1.2.1
@[irreducible]def doc:=tup1.1.1.2.2
@[irreducible]def pm:=tup1.1.2.1.1.1
@[irreducible]def cdv:=tup1.1.2.1.1.2
@[irreducible]def ct:=tup1.1.2.1.2
@[irreducible]def oc:=tup1.1.2.2.1
@[irreducible]def an:=tup1.1.2.2.2
@[irreducible]def odd:=tup1.2.1.1.1.1
@[irreducible]def osl:=tup1.2.1.1.1.2
@[irreducible]def C_1:=tup1.2.1.1.2
@[irreducible]def h_1:=tup1.2.1.2.1
@[irreducible]def M_1:=tup1.2.1.2.2
@[irreducible]def h_2:=tup1.2.2.1.1
@[irreducible]def xt:=tup1.2.2.1.2
@[irreducible]def s_3:=tup1.2.2.2.1
@[irreducible]def t_3:=tup1.2.2.2.2
end
theorem main_1 : P1.1 name params dV kV doc pm cdv ct oc an odd osl C_1 h_1 M_1 h_2 xt s_3 t_3 := by
 intro T lts d2 d3 hcs hi hif hfz hcz hb hgood hG hgl hgz hg4 hQ kS1 kSg kS2 kS3 kS4 kS5 kS6 X D3 hcl hvl hcd hid hlen_3 hxt F_3 N_3 os_3 ba_3
 k_steps
 unfold Stop
 rename Fr g L _ _ => F_4
 rename News g L _ _ => N_4
 refine x1_5 (⟨_, F_4, rfl, rfl, rfl, rfl⟩ : ∃ m_4, Fr g L _ m_4 /\ m_4 "cells" = some (.ref D) /\ m_4 "numbers" = some (.ref D_2) /\ m_4 "found" = some (.ref Fd) /\ m_4 "groups" = some (.ref G)) fun m_4 F_5 w1 w2 w3 w4 => ?_
 have F_6 := fr_know (x := "cells") (fr_know (x := "numbers") (fr_know (x := "found") (fr_know (x := "groups") F_5 w4) w3) w2) w1
 clear F_4 F_5 w1 w2 w3 w4
 refine evl_comp (h₀ := g) rfl (by decide) rfl (by decide) rfl (inV xt.cps.toList) (fun v y => y = v) ?_
 k_steps
 refine iter_str rfl F_6 N_4 (by decide +kernel) (by decide +kernel) fun itv h_7 S => ?_
 refine i4_3 _ _ _ _ S ⟨fun C i v s_3 m_3 E' hv_3 F_7 N_7 hm => ?_, fun C i v s_3 m_3 E' hv_3 hp_3 F_7 N_7 hm => ?_⟩ (fun A_1 h' tk' ys nA vs' F_8 N_8 neA hlen hP' hF => ?_)
 · refine x2_2 (sign_val hv_3) fun c u hcz2 hc => ?_
   cases hcz2
   refine tests_one (wpAny_mono (Q := fun ok s_4 => Hold (ok = (decide (c ∈ xt.cps.toList)) /\ Keeps s_3 s_4)) ?_ (fun _ _ z => z.out) fun _ _ z => z)
   have F_9 := fr_know F_7 hm
   clear F_7 F_6 N_4 S
   by_cases hcg : c ∈ xt.cps.toList
   · have e1 := occ_some (x := xt) (c := c) (y := ⟨#[c]⟩) rfl hcg
     k_steps
     refine ⟨⟨?_, ⟨_, _, rfl, fun _ _ e => e⟩⟩⟩
     rw [decide_eq_true hcg, e1]; rfl
   · have e1 := occ_none (x := xt) (c := c) (y := ⟨#[c]⟩) rfl hcg
     k_steps
     refine ⟨⟨?_, ⟨_, _, rfl, fun _ _ e => e⟩⟩⟩
     rw [decide_eq_false hcg, e1]; rfl
 · refine x2_2 (sign_val hv_3) fun c u hcz2 hc => ?_
   cases hcz2
   exact loc_X F_7 hm ⟨rfl, ⟨_, _, rfl, fun _ _ e => e⟩⟩ rfl rfl rfl (by decide)
 · dsimp only
   replace F_8 := (show Fr g L h' _ from F_8)
   replace N_8 := (show News g L h' _ from N_8)
   obtain ⟨k4, hvs, hk4⟩ := sign_list (x := Str.ofString "abcd") (vs := vs') (l := [97, 98, 99, 100]) (hlen.trans (by decide +kernel)) fun j v hj => by
     refine x2_2 (hP' j v hj) fun c u h1 h2 => ?_
     refine i2_2 c u ?_ h2
     rw [show (Str.ofString "abcd").cps = [97, 98, 99, 100].toArray by decide +kernel] at h1
     simpa using h1
   have hys := paired_eq (fun _ _ e => e) hF
   rw [hvs, leaves_vals] at hys
   refine x1_1 (⟨ys.toList, by simp⟩ : ∃ l : List Value, ys = l.toArray) fun ysl hcz1 => ?_
   cases hcz1
   simp only [List.toList_toArray] at hys
   subst hys
   have hkm := leaves_map k4 xt.cps.toList
   rw [hk4] at hkm
   have hkf := leaves_flat xt.cps.toList [97, 98, 99, 100]
   rw [<- hkm] at hkf
   have hj : joinS ((k4.filter fun q => decide (q.1.cps.getD 0 0 ∈ xt.cps.toList)).map (·.1)) = leavesIn xt := by unfold joinS leavesIn; rw [hkf]
   have hjl : (((k4.filter fun q => decide (q.1.cps.getD 0 0 ∈ xt.cps.toList)).map (·.1)).flatMap (·.cps.toList)).length <= 4 := by rw [hkf]; exact List.length_filter_le _ _
   generalize (k4.filter fun q => decide (q.1.cps.getD 0 0 ∈ xt.cps.toList)) = k5 at hj hjl N_8
   clear F_6 N_4 S hlen hP' hF hvs hk4 hkm hkf
   k_steps
   unfold Stop
   refine join_S (News.isList N_8 (n := nA) (d := none) (sl := #[]) (by k_mem)) (Nat.le_trans hjl (by decide)) fun t' k' => ?_
   rw [hj]
   have hlf : (leavesIn xt).length <= 4 := List.length_filter_le _ _
   refine x1_1 (⟨_, rfl⟩ : ∃ lf, leavesIn xt = lf) fun lf hlfe => ?_
   rw [hlfe] at hlf ⊢
   have d3' := D3.out
   have a1 : @Ne Nat it A_1 := neA (it, io) (by k_mem)
   have a2 : @Ne Nat Fd A_1 := neA (Fd, listOf vf.toArray nf) (by k_mem)
   have a3 : @Ne Nat D_2 A_1 := neA (D_2, listOf vs.toArray nD_2) (by k_mem)
   have a4 : @Ne Nat D A_1 := neA (D, listOf (strValues cl).toArray nD) (by k_mem)
   have a5 : @Ne Nat (L + 1 + 1 + 1) A_1 := neA (L + 1 + 1 + 1, o3) (by k_mem)
   have a6 : @Ne Nat (L + 1 + 1) A_1 := neA (L + 1 + 1, _) (by k_mem)
   clear neA
   k_steps
   unfold Stop
   rename Fr g L _ _ => F_9
   rename News g L _ _ => N_9
   refine evl_pair (h₀ := g) rfl (by decide) rfl (by decide) rfl rfl (by decide) rfl ?_
   k_steps
   have hglz : gl.length = gs.length := by rw [<- hgl]; simp
   refine iter_enum_list rfl F_9 N_9 (base_list F_9 hG) (by simp [strValues]; omega) fun itw h_10 S => ?_
   refine i5_5 _ _ _ _ (fun i ys => IntsAre ys (readTo gs lf i)) S .nil (fun i ys h => by rw [h.length]; exact readTo_len _ _ _) (fun C i v s_5 m_5 E' ys hi' hP_5 hI F_7 N_7 e1 e2 => ?_) (fun B h' tk' ys nB F_11 N_11 neB hI => ?_)
   · refine x2_2 (strVal hP_5) fun y u hcz2 hyu => ?_
     cases hcz2
     revert e1; intro hoq
     refine x1_1 (hoq) fun t5 e1 => ?_
     try clear hoq
     have hgy : gs.getD i ⟨#[]⟩ = y := by
       rw [<- hgl, List.getD_eq_getElem?_getD, List.getElem?_map]
       have h2 : (strValues gl)[i]? = some (Value.str y u) := by simpa using hP_5
       unfold strValues at h2
       rw [List.getElem?_map] at h2
       cases hq : gl[i]? with
       | none => rw [hq] at h2; cases h2
       | some q => rw [hq] at h2; cases h2; rfl
     have hyl : y.length <= 4 := hgy ▸ hg4 i
     refine tests_one (wpAny_mono (Q := fun ok s_4 => Hold (ok = decide (y = lf) /\ Keeps s_5 s_4)) ?_ (fun ok s_6 h => ?_) fun _ _ z => z)
     · have F_8 := fr_know (x := "k") (fr_know (x := "group") F_7 e2) e1
       clear F_7 F_9 N_9 S
       k_steps
       refine ⟨⟨?_, ⟨_, _, rfl, fun _ _ e => e⟩⟩⟩
       by_cases hy : y = lf
       · rw [decide_eq_true hy, hy]; exact beq_self_eq_true _
       · rw [decide_eq_false hy]; exact beq_eq_false_iff_ne.mpr hy
     · refine x0_2 (h.out) fun hcz0 hk => ?_
       cases hcz0
       refine ⟨hk, ?_⟩
       refine x2_2 (hk) fun h6 tk6 hcz2 hk6 => ?_
       try clear hk
       cases hcz2
       have er := readTo_succ gs lf i
       rw [hgy] at er
       by_cases hy : y = lf
       · rw [if_pos (decide_eq_true hy)]
         rw [if_pos hy] at er
         refine loc_X (F_7.keeps hk6) e1 ⟨⟨_, _, rfl, fun _ _ e => e⟩, by show IntsAre _ (readTo gs lf (i + 1)); rw [er]; exact hI.append (.cons _ _ .nil)⟩ rfl rfl rfl (by decide)
       · rw [if_neg (by simpa using hy)]
         rw [if_neg hy] at er
         show IntsAre _ (readTo gs lf (i + 1))
         rw [er]
         exact hI
   · clear F_9 N_9 S
     replace F_11 := (show Fr g L h' _ from F_11)
     replace N_11 := (show News g L h' _ from N_11)
     dsimp only
     k_steps
     unfold Stop
     have hgsz : (strValues gl).toArray.size = gs.length := by simp [strValues, hglz]
     replace hI : IntsAre ys (readTo gs lf (strValues gl).toArray.size) := hI
     rw [hgsz] at hI
     have hBl := hI.length
     have hBz := readTo_len gs lf gs.length
     have hfl := hif.length
     refine iadd_lists (N_11 (Fd, _) (by k_mem)).1 (N_11 (B, _) (by k_mem)).1 (by simp; omega) fun h_12 n_12 ho_12 hs_12 => ?_
     have b2 : @Ne Nat Fd B := neB (Fd, listOf vf.toArray nf) (by k_mem)
     refine x0_2 (news_put (o := listOf vf.toArray nf) F_11 N_11 (by k_upd) hs_12 ho_12) fun F_12 N_12 => ?_
     rw [List.append_toArray] at N_12
     clear F_11 N_11 hs_12 ho_12 neB
     dsimp only
     have hra : readAt gs cs b = readTo gs lf gs.length := by unfold readAt readTo; rw [<- List.map_drop, hxt, hlfe]
     k_steps
     rename Fr g L _ _ => F_13
     rename News g L _ _ => N_13
     refine x1_5 (⟨_, F_13, rfl, rfl, rfl, rfl⟩ : ∃ m_5, Fr g L _ m_5 /\ m_5 "cells" = some (.ref D) /\ m_5 "numbers" = some (.ref D_2) /\ m_5 "found" = some (.ref Fd) /\ m_5 "groups" = some (.ref G)) fun m_5 F_14 w1 w2 w3 w4 => ?_
     have F_15 := fr_know (x := "cells") (fr_know (x := "numbers") (fr_know (x := "found") (fr_know (x := "groups") F_14 w4) w3) w2) w1
     refine hQ _ m_5 _ _ _ _ _ _ F_15 (fun q hq => N_13 q (by
       refine (?_ : ∀ q ∈ _, q ∈ _) _ hq
       walk_at "sub")) (by assumption) (by assumption) ?_ os_3 ba_3
     rw [hra]
     exact hif.append hI
theorem main : Stm pC looseC mgC mbC w g s L it Fd D D_2 G io o2 o3 v2 v3 cl gl cs gs vs vf fs nf nD nD_2 b tb m Q := P1.2 ⟨fun a0 a1 a2 a3 a4 a5 a6 a7 a8 a9 a10 a11 a12 a13 a14 a15 a16 a17 a18 => pk_all (p := cx1) (by with_unfolding_all exact main_1) (((((a0, a1), a2), (a3, a4)), (((a5, a6), a7), (a8, a9))), ((((a10, a11), a12), (a13, a14)), ((a15, a16), (a17, a18))))⟩
end read_turnH
theorem read_turn {w g s L it Fd D D_2 G io o2 o3 v2 v3 cl gl cs gs vs vf fs nf nD nD_2 b tb m Q} : read_turnH.Stm p loose mg mb w g s L it Fd D D_2 G io o2 o3 v2 v3 cl gl cs gs vs vf fs nf nD nD_2 b tb m Q := pk_all (p := read_turnH.cx) (by with_unfolding_all exact read_turnH.main) (((((p, loose), (mg, mb)), ((w, g), (s, L))), (((it, Fd), (D, D_2)), ((G, io), (o2, o3)))), ((((v2, v3), (cl, gl)), ((cs, gs), (vs, vf))), (((fs, nf), (nD, nD_2)), ((b, tb), (m, Q)))))
end
end Mine
end
section
namespace Mine
noncomputable def OnLed (md : List (Addr × Obj)) : List Value -> List (List Int) -> Prop
 | [], [] => True
 | v :: vs, l :: ls => (∃ a ws n, v = .ref a /\ (a, listOf (List.toArray ws) n) ∈ md /\ IntsAre ws l) /\ OnLed md vs ls
 | _, _ => False
theorem OnLed.mono {md md' : List (Addr × Obj)} (hm : ∀ q ∈ md, q ∈ md') : ∀ {vs : List Value} {ls : List (List Int)}, OnLed md vs ls -> OnLed md' vs ls
 | [], [], _ => trivial
 | _ :: _, _ :: _, ⟨⟨a, ws, n, e, h, i⟩, r⟩ => ⟨⟨a, ws, n, e, hm _ h, i⟩, OnLed.mono hm r⟩
 | [], _ :: _, h => h.elim
 | _ :: _, [], h => h.elim
theorem OnLed.len {md : List (Addr × Obj)} : ∀ {vs : List Value} {ls : List (List Int)}, OnLed md vs ls -> vs.length = ls.length
 | [], [], _ => rfl
 | _ :: _, _ :: _, ⟨_, r⟩ => congrArg (· + 1) (OnLed.len r)
 | [], _ :: _, h => h.elim
 | _ :: _, [], h => h.elim
theorem OnLed.app {md : List (Addr × Obj)} : ∀ {vs vs' : List Value} {ls ls' : List (List Int)}, OnLed md vs ls -> OnLed md vs' ls' -> OnLed md (vs ++ vs') (ls ++ ls')
 | [], _, [], _, _, h => h
 | _ :: _, _, _ :: _, _, ⟨h1, r⟩, h => ⟨h1, OnLed.app r h⟩
 | [], _, _ :: _, _, h, _ => h.elim
 | _ :: _, _, [], _, h, _ => h.elim
noncomputable def sing (i : Nat) : List (List Int) := (List.range i).map fun k => [Int.ofNat k]
theorem sing_len (i : Nat) : (sing i).length = i := by simp [sing]
theorem sing_succ (i : Nat) : sing (i + 1) = sing i ++ [[Int.ofNat i]] := by simp [sing, List.range_succ]
theorem list_itemK {prog : Program} {w : World} {A : Around} {E : Value -> Shared -> Prop} {s : Shared} {value slice : PySem.Expr} {C : Addr} {items : Array Value} {k : Nat} {x : Value} {u : Tok} {Q : Value -> Shared -> Prop} (hl : s.heap.IsList C items) (hx : items[k]? = some x) (hk : k <= 10000) (h : Q x s)
   (hs : subscripted slice false (.ref C) (.int (k : Int) u) = operate [.ref C, .int (k : Int) u] (getItem (.ref C) (.int (k : Int) u)) := by with_unfolding_all rfl) : wpAny (model prog w) A (subscriptTail value slice (.ref C) (.int (k : Int) u)) Q E s :=
 tail_any hl.typeIs slot_list_getitem.lookup (wpAny_getItem_list hl (by omega) (by omega) (by simpa using hx) h) hs
theorem flat_len (X : List Nat) : ∀ l : List Nat, ((((X.map fun c => (⟨#[c]⟩ : Str)).filter fun y => decide (y.cps.getD 0 0 ∈ l))).flatMap (·.cps.toList)).length = (((X.map fun c => (⟨#[c]⟩ : Str)).filter fun y => decide (y.cps.getD 0 0 ∈ l))).length := by
 intro l
 rw [leaves_flat]
 induction X with
 | nil => rfl
 | cons c X ih =>
   have e : (⟨#[c]⟩ : Str).cps.getD 0 0 = c := rfl
   rw [List.map_cons, List.filter_cons, List.filter_cons, e]
   split
   · rw [List.length_cons, List.length_cons, ih]
   · exact ih
noncomputable def treeTest (gj gk : List Nat) : Bool := [(0 : Int), (gj.length : Int)].any fun x => x == (((gj.filter fun c => decide (c ∈ gk)).length : Nat) : Int)
theorem allLt_mem {d : Nat} {l : List (Addr × Obj)} (H : AllLt d l) : ∀ r ∈ l, @LT.lt Nat _ r.1 d := by
 induction l with
 | nil => intro r hr; cases hr
 | cons a l ih =>
   intro r hr
   refine x0_2 (H) fun h1 h2 => ?_
   try clear H
   rcases List.mem_cons.mp hr with rfl | hr
   · exact h1
   · exact ih h2 r hr
theorem ascii_leaves {gj : List Nat} (h : ∀ c ∈ gj, c < 128) : (leavesT gj).cps.all (· < 128) = true := by
 rw [Array.all_eq_true]
 intro i hi
 have hm : gj.toArray[i] ∈ gj := by simp
 exact decide_eq_true (h _ hm)
section
namespace trees_turnH
noncomputable def Stm (pC : Program) (looseC : List Str) (mgC mbC : Str -> Option Value) (w : World) (g : Heap) (s : Shared) (L TL G j k : Nat) (o1 : Obj) (gl : List (Str × Tok)) (gs : List (List Nat)) (gk : List Nat) (vs : List Value) (ls : List (List Int)) (md mo : List (Addr × Obj)) (n : Nat) (tg tj tkk : Tok) (m : Str -> Option Value) (Q : Flow -> Shared -> Prop) : Prop := ∀ {name qual : Str} {params : Arguments} {body : List Stmt} {scope : Scope} {dV kV doc pm cdv ct oc : Value} {an odd : Option Addr} {osl : Array (Option Value)} (T : TopRead pC looseC mgC mbC g) (X : (Mine.mk.heap_1 w.params).In g) (ho : (Mine.mk.heap_1 w.params).lookup 216 = some ⟨oc, odd, .func (fnOf name qual params body scope dV kV doc pm an cdv ct), osl⟩) (F : Fr g L s.heap (fun y => if y = "trees" then some (.ref TL) else if y = "groups" then some (.ref G) else if y = "k" then some (.int (k : Int) tkk) else if y = "j" then some (.int (j : Int) tj) else m y)) (N : News g L s.heap ((TL, listOf vs.toArray n) :: (L + 1, o1) :: md)) (d1 : o1.data = .cell (some (.str (leavesT gk) tg))) (hG : g.IsList G (strValues gl).toArray) (hgl : gl.map (·.1) = gs.map leavesT) (hgz : gs.length <= 10) (hg4 : ∀ g ∈ gs, g.length <= 4 /\ ∀ c ∈ g, c < 128) (hj : j < gs.length) (hgk : gk.length <= 4) (hvz : vs.length <= 500) (hmd : ∀ q ∈ md, @Ne Nat TL q.1 /\ @Ne Nat (L + 1) q.1) (hTL : @Ne Nat TL (L + 1)) (hO : OnLed mo vs ls) (hQ : ∀ s' (m' : Str -> Option Value) vs' n' ex, Fr g L s'.heap (fun y => if y = "trees" then some (.ref TL) else if y = "groups" then some (.ref G) else if y = "k" then some (.int (k : Int) tkk) else m' y) -> News g L s'.heap ((TL, listOf (List.toArray vs') n') :: (L + 1, o1) :: (ex ++ md)) ->
    (∀ q ∈ ex, @Ne Nat TL q.1 /\ @Ne Nat (L + 1) q.1 /\ ∀ r ∈ md, @Ne Nat r.1 q.1) -> OnLed (ex ++ mo) vs' (ls ++ if treeTest (gs.getD j []) gk = true then [[(j : Int), (k : Int)]] else []) -> s'.os = s.os -> (AllBare s.gens -> AllBare s'.gens) -> Q .next s'), wpAny (model Challenge.rw_kl0462_01.prog w) ((AL 3).deeper (envOfC qual scope L 216 cdv)) (execs (forBody (forBody body)) (envOfC qual scope L 216 cdv)) Q NF s
noncomputable def cx (v : ((((Program × (List Str)) × ((Str -> Option Value) × (Str -> Option Value))) × ((World × Heap) × Shared)) × (((Nat × Nat) × Nat) × ((Nat × Nat) × Obj))) × (((((List (Str × Tok)) × (List (List Nat))) × (List Nat × (List Value))) × (((List (List Int)) × (List (Addr × Obj))) × (List (Addr × Obj)))) × (((Nat × Tok) × Tok) × ((Tok × (Str -> Option Value)) × (Flow -> Shared -> Prop))))) : Prop := Stm v.1.1.1.1.1 v.1.1.1.1.2 v.1.1.1.2.1 v.1.1.1.2.2 v.1.1.2.1.1 v.1.1.2.1.2 v.1.1.2.2 v.1.2.1.1.1 v.1.2.1.1.2 v.1.2.1.2 v.1.2.2.1.1 v.1.2.2.1.2 v.1.2.2.2 v.2.1.1.1.1 v.2.1.1.1.2 v.2.1.1.2.1 v.2.1.1.2.2 v.2.1.2.1.1 v.2.1.2.1.2 v.2.1.2.2 v.2.2.1.1.1 v.2.2.1.1.2 v.2.2.1.2 v.2.2.2.1.1 v.2.2.2.1.2 v.2.2.2.2
noncomputable section
def tup := pk (by walk_at "ne") cx
@[irreducible]def pC:=tup.1.1.1.1.1
@[irreducible]def looseC:=tup.1.1.1.1.2
@[irreducible]def mgC:=tup.1.1.1.2.1
@[irreducible]def mbC:=tup.1.1.1.2.2
@[irreducible]def w:=tup.1.1.2.1.1
@[irreducible]def g:=tup.1.1.2.1.2
@[irreducible]def s:=tup.1.1.2.2
@[irreducible]def L:=tup.1.2.1.1.1
@[irreducible]def TL:=tup.1.2.1.1.2
@[irreducible]def G:=tup.1.2.1.2
@[irreducible]def j:=tup.1.2.2.1.1
@[irreducible]def k:=tup.1.2.2.1.2
@[irreducible]def o1:=tup.1.2.2.2
@[irreducible]def gl:=tup.2.1.1.1.1
@[irreducible]def gs:=tup.2.1.1.1.2
@[irreducible]def gk:=tup.2.1.1.2.1
@[irreducible]def vs:=tup.2.1.1.2.2
@[irreducible]def ls:=tup.2.1.2.1.1
@[irreducible]def md:=tup.2.1.2.1.2
@[irreducible]def mo:=tup.2.1.2.2
@[irreducible]def n:=tup.2.2.1.1.1
@[irreducible]def tg:=tup.2.2.1.1.2
@[irreducible]def tj:=tup.2.2.1.2
@[irreducible]def tkk:=tup.2.2.2.1.1
@[irreducible]def m:=tup.2.2.2.1.2
@[irreducible]def Q:=tup.2.2.2.2
end
theorem main : Stm pC looseC mgC mbC w g s L TL G j k o1 gl gs gk vs ls md mo n tg tj tkk m Q := by
 intro name qual params body scope dV kV doc pm cdv ct oc an odd osl T X ho F N d1 hG hgl hgz hg4 hj hgk hvz hmd hTL hO hQ
 have kS1 : KX := trivial
 have kSg : KG := trivial
 have kS2 : Key "eval ListComp" := trivial
 have kS3 : Key "call type:range" := trivial
 have kS4 : Key "binaryOp Add ref ref" := trivial
 have kS5 : Key "exec For" := trivial
 have kS6 : Key "call builtin:list.append" := trivial
 have kS7 : KeyL "call builtin:len" := trivial
 have kS8 : Key "subscriptTail Name Name ref int" := trivial
 revert X ho
 k_fill
 intro X ho
 have e := ho.symm.trans (by k_is)
 refine x0_3 (fnE e) fun hcz0 hcz1 hcz2 => ?_
 cases hcz0
 cases hcz1
 cases hcz2
 clear e
 clear ho
 dsimp only [forBody]
 have hgl' : gl.length = gs.length := by have := congrArg List.length hgl; simpa using this
 have HGL : Hold (gl.map (·.1) = gs.map leavesT) := ⟨hgl⟩
 have D1 : Hold (o1.data = .cell (some (.str (leavesT gk) tg))) := ⟨d1⟩
 clear hgl
 obtain ⟨gj, tq, hgj, hx⟩ : ∃ gj tq, gs[j]? = some gj /\ (strValues gl).toArray[j]? = some (.str (leavesT gj) tq) := by
   refine i2_2 (gs[j]) ((gl[j]'(by omega)).2) (List.getElem?_eq_getElem hj) ?_
   have h1 : (gl.map (·.1))[j]? = (gs.map leavesT)[j]? := by rw [HGL.out]
   rw [List.getElem?_map, List.getElem?_map, List.getElem?_eq_getElem hj, List.getElem?_eq_getElem (by omega)] at h1
   simp only [Option.map_some, Option.some.injEq] at h1
   simp only [strValues, List.getElem?_toArray, List.getElem?_map]
   rw [List.getElem?_eq_getElem (by omega), Option.map_some, h1]
 have hgm := hg4 gj (List.mem_of_getElem? hgj)
 k_steps
 unfold Stop
 refine evl_comp (h₀ := g) rfl (by decide) rfl (by decide) rfl (inV gk) (fun v y => y = v) ?_
 k_steps
 unfold Stop
 refine list_itemK (base_list F hG) hx (by omega) ?_
 refine iter_str rfl F N (ascii_leaves hgm.2) (Nat.le_trans hgm.1 (by decide)) fun itv h_7 S => ?_
 refine i4_3 _ _ _ _ S ⟨fun C i v s_3 m_3 E' hv_3 F_7 N_7 hm => ?_, fun C i v s_3 m_3 E' hv_3 hp_3 F_7 N_7 hm => ?_⟩ (fun A_1 h' tk' ys nA vs' F_8 N_8 neA hlen hP' hF => ?_)
 · refine x2_2 (sign_val hv_3) fun c u hcz2 hc => ?_
   cases hcz2
   refine tests_one (wpAny_mono (Q := fun ok s_4 => Hold (ok = (decide (c ∈ gk)) /\ Keeps s_3 s_4)) ?_ (fun _ _ z => z.out) fun _ _ z => z)
   have F_9 := fr_know F_7 hm
   have d1 := D1.out
   clear F_7 F N S
   have hl4 : (leavesT gk).length <= 4 := hgk
   by_cases hcg : c ∈ gk
   · have e1 := occ_some (x := leavesT gk) (c := c) (y := ⟨#[c]⟩) rfl hcg
     k_steps
     refine ⟨⟨?_, ⟨_, _, rfl, fun _ _ e => e⟩⟩⟩
     rw [decide_eq_true hcg, e1]; rfl
   · have e1 := occ_none (x := leavesT gk) (c := c) (y := ⟨#[c]⟩) rfl hcg
     k_steps
     refine ⟨⟨?_, ⟨_, _, rfl, fun _ _ e => e⟩⟩⟩
     rw [decide_eq_false hcg, e1]; rfl
 · refine x2_2 (sign_val hv_3) fun c u hcz2 hc => ?_
   cases hcz2
   exact loc_X F_7 hm ⟨rfl, ⟨_, _, rfl, fun _ _ e => e⟩⟩ rfl rfl rfl (by decide)
 · dsimp only
   replace F_8 := (show Fr g L h' _ from F_8)
   replace N_8 := (show News g L h' _ from N_8)
   obtain ⟨k4, hvs, hk4⟩ := sign_list (x := leavesT gj) (vs := vs') (l := gj) hlen fun j v hj => by
     refine x2_2 (hP' j v hj) fun c u h1 h2 => ?_
     exact i2_2 c u (by simpa [leavesT] using h1) h2
   have hys := paired_eq (fun _ _ e => e) hF
   rw [hvs, leaves_vals] at hys
   refine x1_1 (⟨ys.toList, by simp⟩ : ∃ l : List Value, ys = l.toArray) fun ysl hcz1 => ?_
   cases hcz1
   have hyn : ysl.length = (gj.filter fun c => decide (c ∈ gk)).length := by
     have e0 : ysl = strValues (k4.filter fun q => decide (q.1.cps.getD 0 0 ∈ gk)) := by simpa using hys
     have e1 := congrArg List.length (leaves_map k4 gk)
     rw [hk4] at e1
     have e2 := congrArg List.length (leaves_flat gk gj)
     rw [e0]
     simp only [strValues, List.length_map] at e1 ⊢
     rw [e1, <- e2]
     exact (flat_len gj gk).symm
   have hcn : (gj.filter fun c => decide (c ∈ gk)).length <= 4 := Nat.le_trans (List.length_filter_le _ _) hgm.1
   generalize hcc : (gj.filter fun c => decide (c ∈ gk)).length = cc at hyn hcn
   have hlA : Hold (h'.IsList A_1 ysl.toArray) := ⟨News.isList N_8 (n := nA) (d := none) (sl := #[]) List.mem_cons_self⟩
   clear F N S hys hvs hlen hP' hF
   refine (?_ : wpAny _ _ _ _ _ _)
   k_steps
   unfold Stop
   refine PyProof.Rows.len_list hlA.out (by simp; omega) ?_
   rw [show (ysl.toArray.size : Int) = (cc : Int) by simp [hyn]]
   rename Fr g L _ _ => F_9
   rename News g L _ _ => N_9
   have hgl4 : (leavesT gj).length <= 4 := hgm.1
   have hgl5 : ((leavesT gj).length : Int) = gj.length := rfl
   k_steps
   unfold Stop
   refine list_itemK (base_list F_9 hG) hx (by omega) ?_
   have hgd : gs.getD j [] = gj := by rw [List.getD_eq_getElem?_getD, hgj]; rfl
   rw [hgd] at hQ
   have htt : treeTest gj gk = ([(0 : Int), ((leavesT gj).length : Int)].any fun x => x == (cc : Int)) := by
     unfold treeTest
     rw [hcc]
     rfl
   k_steps
   · unfold Stop
     rename Fr g L _ _ => F_10
     rename News g L _ _ => N_10
     rename List.any _ _ = true => ha
     rename_i B hB lB
     have zT := N_10 (TL, listOf vs.toArray n) (by k_mem)
     refine wpAny_list_append_plain (hsz := by simp [sizeLine_eq]; omega) ⟨n, zT.1⟩ fun h_11 li_11 hs_11 => ?_
     refine x1_1 (li_11) fun n' hn' => ?_
     try clear li_11
     have lB3 : @LT.lt Nat _ TL B := lB.2.2.1
     have lB4 : @LT.lt Nat _ (L + 1) B := lB.2.2.2.1
     have F_11 := F_10.change hs_11 zT.2.1 zT.2.2
     have N_11 : News g L h_11 ((TL, listOf (vs ++ [Value.ref B]).toArray n') :: (L + 1, o1) :: (B, listOf ([Value.int (j : Int) tj, Value.int (k : Int) tkk] : List Value).toArray 0) :: md) := fun q hq => by
       rcases List.mem_cons.mp hq with rfl | hq
       · refine ⟨?_, zT.2⟩
         rw [List.push_toArray] at hn'
         exact hn'
       rcases List.mem_cons.mp hq with rfl | hq
       · have z := N_10 (L + 1, o1) (by k_mem)
         exact ⟨hs_11.extBut _ _ (Ne.symm hTL) z.1, z.2⟩
       rcases List.mem_cons.mp hq with rfl | hq
       · have z := N_10 _ List.mem_cons_self
         exact ⟨hs_11.extBut _ _ (Nat.ne_of_gt lB3) z.1, z.2⟩
       · have z := N_10 q (List.mem_cons_of_mem _ (List.mem_cons_of_mem _ (List.mem_cons_of_mem _ (List.mem_cons_of_mem _ (List.mem_cons_of_mem _ hq)))))
         exact ⟨hs_11.extBut _ _ (Ne.symm (hmd q hq).1) z.1, z.2⟩
     have t1 : treeTest gj gk = true := htt.trans ha
     rw [if_pos t1] at hQ
     dsimp only
     clear F_10 N_10
     k_steps
     refine hQ _ _ (vs ++ [Value.ref B]) n' [(B, listOf ([Value.int (j : Int) tj, Value.int (k : Int) tkk] : List Value).toArray 0)] F_11 N_11 (fun q hq => ?_) ?_ rfl id
     · rw [List.mem_singleton.mp hq]
       exact i0_3 (Nat.ne_of_lt lB3) (Nat.ne_of_lt lB4) (fun r hr => Nat.ne_of_lt (ltAll_mem lB.2.2.2.2 r hr))
     · exact OnLed.app (OnLed.mono (fun q hq => List.mem_cons_of_mem _ hq) hO) ⟨⟨B, [Value.int (j : Int) tj, Value.int (k : Int) tkk], 0, rfl, List.mem_cons_self, .cons _ _ (.cons _ _ .nil)⟩, trivial⟩
   · rename Fr g L _ _ => F_10
     rename News g L _ _ => N_10
     rename List.any _ _ = false => ha
     have t1 : ¬ treeTest gj gk = true := by rw [htt, ha]; decide
     rw [if_neg t1, List.append_nil] at hQ
     refine hQ _ _ vs n [] F_10 (fun q hq => N_10 q (List.mem_cons_of_mem _ (List.mem_cons_of_mem _ hq))) (fun q hq => (nomatch hq)) hO rfl id
end trees_turnH
theorem trees_turn {w g s L TL G j k o1 gl gs gk vs ls md mo n tg tj tkk m Q} : trees_turnH.Stm p loose mg mb w g s L TL G j k o1 gl gs gk vs ls md mo n tg tj tkk m Q := pk_all (p := trees_turnH.cx) (by with_unfolding_all exact trees_turnH.main) (((((p, loose), (mg, mb)), ((w, g), s)), (((L, TL), G), ((j, k), o1))), ((((gl, gs), (gk, vs)), ((ls, md), mo)), (((n, tg), tj), ((tkk, m), Q))))
end
end Mine
end
section
namespace Mine
noncomputable def pairsTo (gs : List (List Nat)) (gk : List Nat) (k i : Nat) : List (List Int) := ((List.range i).filter fun j => treeTest (gs.getD j []) gk).map fun (j : Nat) => [(j : Int), (k : Int)]
theorem pairsTo_succ (gs gk k i) : pairsTo gs gk k (i + 1) = pairsTo gs gk k i ++ if treeTest (gs.getD i []) gk = true then [[(i : Int), (k : Int)]] else [] := by
 unfold pairsTo
 rw [List.range_succ, List.filter_append, List.map_append, List.filter_cons]
 split <;> rfl
theorem pairsTo_len (gs gk k i) : (pairsTo gs gk k i).length <= i := by
 unfold pairsTo
 rw [List.length_map]
 exact Nat.le_trans (List.length_filter_le _ _) (by simp)
section
theorem trees_inner {w : World} {g : Heap} {s : Shared} {L TL G k : Nat} {o1 : Obj} {gl : List (Str × Tok)} {gs : List (List Nat)} {gk : List Nat} {vs : List Value} {ls : List (List Int)} {md : List (Addr × Obj)} {n : Nat} {tg tkk : Tok} {m : Str -> Option Value} {Q : Flow -> Shared -> Prop}
  {name qual : Str} {params : Arguments} {body : List Stmt} {scope : Scope} {dV kV doc pm cdv ct oc : Value} {an odd : Option Addr} {osl : Array (Option Value)}
  (T : TopRead p loose mg mb g) (X : (Mine.mk.heap_1 w.params).In g)
  (ho : (Mine.mk.heap_1 w.params).lookup 216 = some ⟨oc, odd, .func (fnOf name qual params body scope dV kV doc pm an cdv ct), osl⟩)
  (F : Fr g L s.heap (fun y => if y = "trees" then some (.ref TL) else if y = "groups" then some (.ref G) else if y = "k" then some (.int (k : Int) tkk) else m y))
  (N : News g L s.heap ((TL, listOf vs.toArray n) :: (L + 1, o1) :: md)) (d1 : o1.data = .cell (some (.str (leavesT gk) tg)))
  (hG : g.IsList G (strValues gl).toArray) (hgl : gl.map (·.1) = gs.map leavesT) (hgz : gs.length <= 10) (hg4 : ∀ g ∈ gs, g.length <= 4 /\ ∀ c ∈ g, c < 128) (hk : k <= gs.length) (hgk : gk.length <= 4) (hlz : ls.length <= 400)
  (hmd : ∀ q ∈ md, @Ne Nat TL q.1 /\ @Ne Nat (L + 1) q.1) (hTL : @Ne Nat TL (L + 1)) (hO : OnLed md vs ls)
  (hQ : ∀ s' (m' : Str -> Option Value) vs' n' md', Fr g L s'.heap (fun y => if y = "trees" then some (.ref TL) else if y = "groups" then some (.ref G) else m' y) -> News g L s'.heap ((TL, listOf (List.toArray vs') n') :: (L + 1, o1) :: md') ->
    (∀ q ∈ md, q ∈ md') -> (∀ q ∈ md', @Ne Nat TL q.1 /\ @Ne Nat (L + 1) q.1) -> OnLed md' vs' (ls ++ pairsTo gs gk k k) -> s'.os = s.os -> (AllBare s.gens -> AllBare s'.gens) -> Q .next s') :
  wpAny (model Challenge.rw_kl0462_01.prog w) ((AL 3).deeper (envOfC qual scope L 216 cdv)) (execs (forBody body) (envOfC qual scope L 216 cdv)) Q NF s := by
 have kS1 : KX := trivial
 have kSg : KG := trivial
 have kS2 : Key "eval ListComp" := trivial
 have kS3 : Key "call type:range" := trivial
 have kS4 : Key "binaryOp Add ref ref" := trivial
 have kS5 : Key "exec For Name Call cons nil" := trivial
 have kS6 : Key "call builtin:list.append" := trivial
 have kS7 : KeyL "call builtin:len" := trivial
 have kS8 : Key "subscriptTail Name Name ref int" := trivial
 revert X ho
 k_fill
 intro X ho
 have e := ho.symm.trans (by k_is)
 refine x0_3 (fnE e) fun hcz0 hcz1 hcz2 => ?_
 cases hcz0
 cases hcz1
 cases hcz2
 clear e
 dsimp only [forBody]
 have HGL : Hold (gl.map (·.1) = gs.map leavesT) := ⟨hgl⟩
 have D1 : Hold (o1.data = .cell (some (.str (leavesT gk) tg))) := ⟨d1⟩
 clear hgl
 k_steps
 unfold Stop
 refine wpAny_For ?_
 k_steps
 unfold Stop
 refine range_iter1 F N (by omega) (by omega) fun it h_2 tk F_3 N_3 l3 hL hit => ?_
 have hvl := hO.len
 have itL : ∀ q ∈ (TL, listOf vs.toArray n) :: (L + 1, o1) :: md, @Ne Nat q.1 it := fun q hq => Nat.ne_of_lt (l3 q hq)
 refine forI k (fun i s' => ∀ Z : Prop, (∀ (m' : Str -> Option Value) (vs' : List Value) (n' : Nat) (md' : List (Addr × Obj)), Fr g L s'.heap (fun y => if y = "trees" then some (.ref TL) else if y = "groups" then some (.ref G) else if y = "k" then some (.int (k : Int) tkk) else m' y) -> News g L s'.heap ((TL, listOf (List.toArray vs') n') :: (L + 1, o1) :: (it, riObj (i : Int) ((k : Int) - i)) :: md') -> (∀ q ∈ md, q ∈ md') -> (∀ q ∈ md', @Ne Nat TL q.1 /\ @Ne Nat (L + 1) q.1 /\ @Ne Nat it q.1) -> OnLed md' vs' (ls ++ pairsTo gs gk k i) -> s'.os = s.os -> (AllBare s.gens -> AllBare s'.gens) -> Z) -> Z) ?stp ?done 0 (Nat.zero_le _) _ ?ini
 case ini => exact fun Zq kq => kq m vs n md F_3 (fun q hq => N_3 q (by
     rcases List.mem_cons.mp hq with rfl | hq
     · exact List.mem_cons_of_mem _ List.mem_cons_self
     rcases List.mem_cons.mp hq with rfl | hq
     · exact List.mem_cons_of_mem _ (List.mem_cons_of_mem _ List.mem_cons_self)
     rcases List.mem_cons.mp hq with rfl | hq
     · simp
     · exact List.mem_cons_of_mem _ (List.mem_cons_of_mem _ (List.mem_cons_of_mem _ hq)))) (fun q hq => hq) (fun q hq => ⟨(hmd q hq).1, (hmd q hq).2, Ne.symm (itL q (List.mem_cons_of_mem _ (List.mem_cons_of_mem _ hq)))⟩) (by simpa [pairsTo] using hO) rfl id
 case stp =>
   intro i s_5 hi' HIq
   refine HIq _ fun m' vs' n' md' F_6 N_6 hsub hne hO_6 os_6 ba_6 => ?_
   refine wpAny_pyNext_range_item (it := it) (N_6 (it, _) (by k_mem)).1 (by omega) fun h_6 hit_6 hs_6 => ⟨_, rfl, ?_⟩
   have zit := N_6 (it, riObj (i : Int) ((k : Int) - i)) (by k_mem)
   have i1 : @Ne Nat TL it := itL (TL, _) List.mem_cons_self
   have i2 : @Ne Nat (L + 1) it := itL (L + 1, _) (by k_mem)
   have F_7 := F_6.change hs_6 zit.2.1 zit.2.2
   have N_7 : News g L h_6 ((TL, listOf (List.toArray vs') n') :: (L + 1, o1) :: (it, riObj ((i : Int) + 1) ((k : Int) - i - 1)) :: md') := fun q hq => by
     rcases List.mem_cons.mp hq with rfl | hq
     · have z := N_6 (TL, _) List.mem_cons_self
       exact ⟨hs_6.extBut _ _ i1 z.1, z.2⟩
     rcases List.mem_cons.mp hq with rfl | hq
     · have z := N_6 (L + 1, o1) (by k_mem)
       exact ⟨hs_6.extBut _ _ i2 z.1, z.2⟩
     rcases List.mem_cons.mp hq with rfl | hq
     · exact ⟨hit_6, zit.2⟩
     · have z := N_6 q (List.mem_cons_of_mem _ (List.mem_cons_of_mem _ (List.mem_cons_of_mem _ hq)))
       exact ⟨hs_6.extBut _ _ (Ne.symm (hne q hq).2.2) z.1, z.2⟩
   refine wpAny_of_eq (rfl : letOwnedTupleGo (.Name _ _) _ _ = pure ()) ?_
   refine wpAny_assign_Name (wpAny_storeName_local rfl F_7.ns (fun h_7 hn_7 hs_7 => ?_) rfl)
   have F_8 := F_7.set hn_7 hs_7
   have N_8 : News g L h_7 ((TL, listOf (List.toArray vs') n') :: (L + 1, o1) :: (it, riObj ((i : Int) + 1) ((k : Int) - i - 1)) :: md') := fun q hq => ⟨hs_7.extBut _ _ (N_7 q hq).2.1 (N_7 q hq).1, (N_7 q hq).2⟩
   refine x2_5 (⟨_, _, F_8, rfl, rfl, rfl, rfl⟩ : ∃ tb m_2, Fr g L h_7 m_2 /\ m_2 "trees" = some (.ref TL) /\ m_2 "groups" = some (.ref G) /\ m_2 "k" = some (.int (k : Int) tkk) /\ m_2 "j" = some (.int (i : Int) tb)) fun tb m_2 F_9 w1 w2 w3 w4 => ?_
   have F_10 := fr_know (x := "trees") (fr_know (x := "groups") (fr_know (x := "k") (fr_know (x := "j") F_9 w4) w3) w2) w1
   have hvl_6 := hO_6.len
   have hpl := pairsTo_len gs gk k i
   rw [List.length_append] at hvl_6
   refine trees_turn (p := p) (loose := loose) (mg := mg) (mb := mb) T X ho F_10 N_8 D1.out hG HGL.out hgz hg4 (by omega) hgk (by omega) (fun q hq => ?_) hTL hO_6 fun s_9 m_9 vs_9 n_9 ex F_11 N_11 hex hO_9 os_9 ba_9 => ?_
   · rcases List.mem_cons.mp hq with rfl | hq
     · exact ⟨i1, i2⟩
     · exact ⟨(hne q hq).1, (hne q hq).2.1⟩
   · refine fun Zq kq => kq m_9 vs_9 n_9 (ex ++ md') F_11 (fun q hq => N_11 q ?_) (fun q hq => List.mem_append_right _ (hsub q hq)) (fun q hq => ?_) ?_ (os_9.trans os_6) (fun z => ba_9 (ba_6 z))
     · rcases List.mem_cons.mp hq with rfl | hq
       · exact List.mem_cons_self
       rcases List.mem_cons.mp hq with rfl | hq
       · exact List.mem_cons_of_mem _ List.mem_cons_self
       refine List.mem_cons_of_mem _ (List.mem_cons_of_mem _ ?_)
       rcases List.mem_cons.mp hq with rfl | hq
       · have e1 : ((i + 1 : Nat) : Int) = (i : Int) + 1 := by omega
         have e2 : (k : Int) - ((i : Int) + 1) = (k : Int) - (i : Int) - 1 := by omega
         rw [e1, e2]
         exact List.mem_append_right _ List.mem_cons_self
       rcases List.mem_append.mp hq with hq | hq
       · exact List.mem_append_left _ hq
       · exact List.mem_append_right _ (List.mem_cons_of_mem _ hq)
     · rcases List.mem_append.mp hq with hq | hq
       · exact i0_3 ((hex q hq).1) ((hex q hq).2.1) ((hex q hq).2.2 _ List.mem_cons_self)
       · exact hne q hq
     · rw [pairsTo_succ, <- List.append_assoc]
       exact hO_9
 case done =>
   intro s_5 HIq
   refine HIq _ fun m' vs' n' md' F_6 N_6 hsub hne hO_6 os_6 ba_6 => ?_
   have zit := N_6 (it, riObj (k : Int) ((k : Int) - k)) (by k_mem)
   have i1 : @Ne Nat TL it := itL (TL, _) List.mem_cons_self
   have i2 : @Ne Nat (L + 1) it := itL (L + 1, _) (by k_mem)
   refine wpAny_pyNext_range_end (it := it) rfl zit.1 (by omega) fun h_6 he => ⟨rfl, ?_⟩
   have F_7 : Fr g L h_6 _ := fr_at F_6 (fun o e => he _ _ (Ne.symm zit.2.1) e) fun b o e => he _ _ (fun z => by rw [z, zit.2.2] at e; cases e) (F_6.keep _ _ e)
   dsimp only
   refine wpAny_of_eq (rfl : execs [] _ = pure Flow.next) ?_
   refine hQ { s_5 with heap := h_6 } (fun y => if y = "k" then some (.int (k : Int) tkk) else m' y) vs' n' md' F_7 (fun q hq => ?_) hsub (fun q hq => ⟨(hne q hq).1, (hne q hq).2.1⟩) hO_6 os_6 ba_6
   rcases List.mem_cons.mp hq with rfl | hq
   · have z := N_6 (TL, _) List.mem_cons_self
     exact ⟨he _ _ i1 z.1, z.2⟩
   rcases List.mem_cons.mp hq with rfl | hq
   · have z := N_6 (L + 1, o1) (by k_mem)
     exact ⟨he _ _ i2 z.1, z.2⟩
   · have z := N_6 q (List.mem_cons_of_mem _ (List.mem_cons_of_mem _ (List.mem_cons_of_mem _ hq)))
     exact ⟨he _ _ (Ne.symm (hne q hq).2.2) z.1, z.2⟩
end
end Mine
end
section
namespace Mine
theorem pair_nextC {prog : Program} {w : World} {A' : Around} {I : Addr} {fp wr : List Addr} {n i : Nat} {P : Nat -> Value -> Prop} {St : Nat -> Heap -> Prop} {Mid : Nat -> Addr -> Heap -> Prop} {cenv : Env} {x1 x2 : Str} {p1 p2 tp : Pos} {tk0 : Nat} {s : Shared} {m' : Str -> Option Value} {pc : Addr} {v₀ : Option Value} {Q : Shared -> Prop}
   (W : WalksT prog w A' I fp wr n (fun i vals => ∃ t x, P i x /\ vals = #[.int i t, x]) St Mid) (hh : A'.handled = none) (hx1 : cenv.kindOf x1 = some .local) (hx2 : cenv.kindOf x2 = some .cell) (hk : cenv.scope.kind = .function) (hpc : cenv.cells.lookup x2 = some pc)
   (hp : (cenv.scope.kind == .class || (cenv.scope.kind == .module && cenv.locals != cenv.globals)) = false) (hCf : cenv.locals ∉ fp) (hpf : pc ∉ fp) (hpC : pc ≠ cenv.locals) (hi : i < n) (hst : St i s.heap) (hn : s.heap.Ns cenv.locals m') (hv : s.heap.IsCell pc v₀)
   (h : ∀ h_5 tk t v, P i v -> St (i + 1) h_5 -> h_5.Ns cenv.locals (fun y => if y = x1 then some (.int i t) else m' y) -> h_5.IsCell pc (some v) -> (∀ b o, b ≠ cenv.locals -> b ≠ pc -> b ∉ wr -> s.heap.get? b = some o -> h_5.get? b = some o) -> Q { s with heap := h_5, toks := tk }) :
   wpAny (model prog w) A' (pyNext (.ref I)) (fun r s₁ => ∃ v, r = some v /\ wpAny (model prog w) A' (letOwnedTupleGo (.Tuple [.Name x1 p1, .Name x2 p2] tk0 tp) (.ref I) v) (fun _ s_1' => wpAny (model prog w) A' (assign (.Tuple [.Name x1 p1, .Name x2 p2] tk0 tp) cenv v) (fun _ s_2 => Q s_2) NF s_1') NF s₁) NF s := by
 have hCw : cenv.locals ∉ wr := fun z => hCf (W.sub _ z)
 have hpw : pc ∉ wr := fun z => hpf (W.sub _ z)
 refine W.item i s _ _ hi hst fun T vals h_1 tk_1 hPt hTn hT hMid hk_1 => ⟨_, rfl, ?_⟩
 refine x2_2 (hPt) fun t v hPv hcz3 => ?_
 try clear hPt
 cases hcz3
 have hTw := W.apart i T h_1 hMid
 refine W.go _ _ _ i T _ _ _ hMid fun h_2 hst_2 hk_2 => ?_
 have hT_2 : h_2.IsTuple T #[.int i t, v] := let ⟨o, ho, r⟩ := hT; ⟨o, hk_2 T o hTw ho, r⟩
 have up_2 : ∀ b o, b ∉ wr -> s.heap.get? b = some o -> h_2.get? b = some o := fun b o hb q => hk_2 b o hb (hk_1 b o hb q)
 have hn_2 : h_2.Ns cenv.locals m' := hn.at' fun o q => up_2 _ o hCw q
 have hv_2 : h_2.IsCell pc v₀ := let ⟨o, ho, r⟩ := hv; ⟨o, up_2 _ o hpw ho, r⟩
 refine wpAny_assign_Tuple hh (s := { s with heap := h_2, toks := tk_1 }) hT_2 rfl rfl fun h_3 hx_3 => ?_
 have lt_2 : ∀ b o, h_2.get? b = some o -> h_3.get? b = some o := fun b o q => hx_3 b o (Nat.ne_of_lt (Heap.lt_size q)) q
 have hn_3 := hn_2.keeps lt_2
 refine wpAny_assignInOrder_more (wpAny_assign_Name (wpAny_storeName_local (s := { s with heap := h_3, toks := tk_1 }) hx1 hn_3 (fun h_4 hn_4 hs_4 => ?_) hp))
 have hv_4 : h_4.IsCell pc v₀ := let ⟨o, ho, r⟩ := hv_2; ⟨o, hs_4.extBut _ o hpC (lt_2 _ o ho), r⟩
 refine wpAny_assignInOrder_more (wpAny_assign_Name (wpAny_storeName_cell (v₀ := v₀) hk hx2 hpc hv_4 fun h_5 hc_5 hs_5 => ?_))
 refine wpAny_assignInOrder_none ?_
 have up_5 : ∀ b o, b ≠ cenv.locals -> b ≠ pc -> h_2.get? b = some o -> h_5.get? b = some o := fun b o hb hb' q => hs_5.extBut b o hb' (hs_4.extBut b o hb (lt_2 b o q))
 exact h h_5 _ t v hPv (W.frame _ _ _ hst_2 fun b hb o q => up_5 b o (fun z => hCf (z ▸ hb)) (fun z => hpf (z ▸ hb)) q) (hn_4.sameBut hs_5 (Ne.symm hpC)) hc_5 fun b o hb hb' hw q => up_5 b o hb hb' (up_2 b o hw q)
theorem OnLed.filter {h₀ h : Heap} {L : Addr} {e : Addr} {oe : Obj} {md : List (Addr × Obj)} (N : News h₀ L h md) (he : h.get? e = some oe) (hc : oe.cls ≠ .type "list") : ∀ {vs : List Value} {ls : List (List Int)}, OnLed md vs ls -> OnLed (md.filter fun q => decide (q.1 ≠ e)) vs ls
 | [], [], _ => trivial
 | _ :: _, _ :: _, ⟨⟨a, ws, n, e1, h1, i⟩, r⟩ => ⟨⟨a, ws, n, e1, List.mem_filter.mpr ⟨h1, decide_eq_true fun z => hc (by
     have z1 := (N _ h1).1
     rw [show ((a, listOf (List.toArray ws) n) : Addr × Obj).1 = e from z, he] at z1
     rw [Option.some.inj z1])⟩, i⟩, OnLed.filter N he hc r⟩
 | [], _ :: _, h => h.elim
 | _ :: _, [], h => h.elim
theorem enum_start {h₀ hx : Heap} {L G : Addr} {m : Str -> Option Value} {news : List (Addr × Obj)} {items : Array Value} (F : Fr h₀ L hx m) (N : News h₀ L hx news) (hl : hx.IsList G items) :
   (∀ q ∈ news, @LT.lt Nat _ q.1 hx.objs.size) /\ @LT.lt Nat _ L hx.objs.size /\ @LT.lt Nat _ G hx.objs.size /\ ∀ b, @LE.le Nat _ hx.objs.size b -> h₀.get? b = none :=
 ⟨fun q hq => Heap.lt_size (N q hq).1, F.ns.lt, let ⟨_, e, _⟩ := hl; Heap.lt_size e, fun b hb => Heap.get?_none_of_le (Nat.le_trans F.above (Nat.le_trans (Nat.le_of_lt F.ns.lt) hb))⟩
noncomputable def pairsAll (gs : List (List Nat)) (i : Nat) : List (List Int) := (List.range i).flatMap fun k => pairsTo gs (gs.getD k []) k k
theorem pairsAll_succ (gs i) : pairsAll gs (i + 1) = pairsAll gs i ++ pairsTo gs (gs.getD i []) i i := by
 unfold pairsAll
 rw [List.range_succ, List.flatMap_append]
 simp
theorem pairsAll_len (gs) : ∀ i, (pairsAll gs i).length <= i * i
 | 0 => Nat.le_refl _
 | i + 1 => by
   rw [pairsAll_succ, List.length_append]
   have := pairsAll_len gs i
   have h2 := pairsTo_len gs (gs.getD i []) i i
   rw [show (i + 1) * (i + 1) = i * i + i + (i + 1) by rw [Nat.add_mul, Nat.mul_add]; omega]
   omega
noncomputable def treesP (gs : List (List Nat)) : List (List Int) := [] :: sing gs.length ++ pairsAll gs gs.length
section
local macro_rules | `(tactic| walk_at "callWith type:enumerate") => mGo "all Pv.callWith_type1 ?_"
local macro_rules | `(tactic| walk_at "call builtin:len") => mGo "h ; ref PyProof.Rows.len_list ( Mine.base_list ?F ?h ) ?z ?_ | F:k h:a z:lenz"
namespace c_treesH
noncomputable def Stm (pC : Program) (looseC : List Str) (mgC mbC : Str -> Option Value) (w : World) (s : Shared) (G : Nat) (gl : List (Str × Tok)) (gs : List (List Nat)) (R : Result -> Shared -> Prop) : Prop := ∀  (T : TopRead pC looseC mgC mbC s.heap) (X : (Mine.mk.heap_1 w.params).In s.heap) (hG : s.heap.IsList G (strValues gl).toArray) (hgl : gl.map (·.1) = gs.map leavesT) (hgz : gs.length <= 10) (hg4 : ∀ g ∈ gs, g.length <= 4 /\ ∀ c ∈ g, c < 128) (hR : ∀ s' (D : Nat) vs n md, Kp s s' -> s'.heap.get? D = some (listOf (List.toArray vs) n) -> s.heap.get? D = none -> (∀ q ∈ md, s'.heap.get? q.1 = some q.2 /\ s.heap.get? q.1 = none /\ @Ne Nat D q.1) -> OnLed md vs (treesP gs) -> R (.ok (.ret (.ref D))) s'), codeAny (model Challenge.rw_kl0462_01.prog w) (AL 3) (.call (.ref 216) ⟨[.ref G], []⟩) R s
noncomputable def cx (v : (((Program × (List Str)) × (Str -> Option Value)) × ((Str -> Option Value) × World)) × (((Shared × Nat) × (List (Str × Tok))) × ((List (List Nat)) × (Result -> Shared -> Prop)))) : Prop := Stm v.1.1.1.1 v.1.1.1.2 v.1.1.2 v.1.2.1 v.1.2.2 v.2.1.1.1 v.2.1.1.2 v.2.1.2 v.2.2.1 v.2.2.2
noncomputable section
def tup := pk (by walk_at "ne") cx
@[irreducible]def pC:=tup.1.1.1.1
@[irreducible]def looseC:=tup.1.1.1.2
@[irreducible]def mgC:=tup.1.1.2
@[irreducible]def mbC:=tup.1.2.1
@[irreducible]def w:=tup.1.2.2
@[irreducible]def s:=tup.2.1.1.1
@[irreducible]def G:=tup.2.1.1.2
@[irreducible]def gl:=tup.2.1.2
@[irreducible]def gs:=tup.2.2.1
@[irreducible]def R:=tup.2.2.2
end
noncomputable def P1 : {PQ : Nat -> Heap -> Nat -> Obj -> Addr -> Heap -> Addr -> Heap -> Nat -> Heap -> Nat -> Nat -> Heap -> Nat -> (List Value) -> Nat -> (List (Addr × Obj)) -> Prop // Hold (∀ a0 a1 a2 a3 a4 a5 a6 a7 a8 a9 a10 a11 a12 a13 a14 a15 a16, PQ a0 a1 a2 a3 a4 a5 a6 a7 a8 a9 a10 a11 a12 a13 a14 a15 a16) -> Stm pC looseC mgC mbC w s G gl gs R} := ⟨_, by
 intro hPk
 intro T X hG hgl hgz hg4 hR
 have kS1 : KX := trivial
 have kSg : KG := trivial
 have kS2 : Key "eval ListComp" := trivial
 have kS3 : Key "call type:range" := trivial
 have kS4 : Key "binaryOp Add ref ref" := trivial
 have kS5 : Key "exec For" := trivial
 have kS6 : Key "call type:enumerate" := trivial
 revert X
 k_fill
 intro X
 refine' callCW (g := s.heap) (cl := []) (binds := [("groups", .ref G)]) ⟨fun _ _ e => e, Nat.le_refl _, fun _ h => nomatch h⟩ X T.nolimit ?ho ?hcd (by decide) ?bi ?lo ?nd ?_ ?c1 ?c2 ?c3
 case ho => k_is
 case hcd => k_is
 case bi => exact BindsTo.of_eq rfl
 case lo => rfl
 case nd => decide +kernel
 case c1 => rfl
 case c2 => rfl
 case c3 => rfl
 intro L h_1 tk cells F N Y eL lL
 k_cells Y
 simp only [List.cons_append, List.nil_append] at N
 have HGL : Hold (gl.map (·.1) = gs.map leavesT) := ⟨hgl⟩
 have hgl' : gl.length = gs.length := by have := congrArg List.length hgl; simpa using this
 clear hgl
 k_steps
 unfold Stop
 rename Fr s.heap L _ _ => F_1
 rename News s.heap L _ _ => N_1
 rename_i A_0 _ l1 A_1 _ l2
 have q1 : @LT.lt Nat _ (L + 1) A_0 := by omega
 have q2 : @LT.lt Nat _ A_0 A_1 := l2.1
 clear l1 l2
 refine evl_new (h₀ := s.heap) rfl (by decide) rfl (by decide) rfl rfl ?_
 k_steps
 unfold Stop
 rw [show ((strValues gl).toArray.size : Int) = gs.length by simp [strValues, hgl']]
 rename Fr s.heap L _ _ => F_2
 rename News s.heap L _ _ => N_2
 refine range_iter1 F_2 N_2 (by omega) (by omega) fun it h_2 tk F_3 N_3 l3 hL hit => ?_
 refine ⟨it, _, _, gs.length, 0, fun i ys md => OnLed md ys (sing i), rfl, by omega, F_3, N_3, l3, hL, hit, trivial, fun i ys md h => by rw [OnLed.len h, sing_len]; exact Nat.le_refl _, fun C i t s_3 m_3 E' ys md news' hi' hI F_4 N_4 hsub hm => ?_, fun D h' tk' ys nD md F_4 N_4 neD nem hI => ?_⟩
 · have F_5 := fr_know F_4 hm
   have N_5 : Hold (News s.heap C s_3.heap news') := ⟨N_4⟩
   clear F_2 F_3 N_2 N_3 F_4
   have zB : s.heap.get? s_3.heap.objs.size = none := Heap.get?_none_of_le (Nat.le_trans F_5.above (Nat.le_of_lt F_5.ns.lt))
   refine List_ (spliced_more (loc_X F_5 rfl (spliced_none (wpAny_newList ?_)) rfl rfl rfl (by decide)))
   refine ⟨⟨_, _, rfl, fun _ _ e => Heap.get?_push_of_some _ e⟩, [(s_3.heap.objs.size, listOf #[.int (0 + (i : Int)) t] 0)], fun q hq => ?_, ?_⟩
   · rw [List.mem_singleton.mp hq]
     exact i0_4 (Heap.get?_push_size _ rfl) zB (Nat.ne_of_gt F_5.ns.lt) (fun r hr => Nat.ne_of_lt (Heap.lt_size (N_5.out r hr).1))
   · show OnLed _ _ (sing (i + 1))
     rw [sing_succ]
     refine OnLed.app (OnLed.mono (fun q hq => List.mem_append_left _ hq) hI) ⟨⟨s_3.heap.objs.size, [.int (0 + (i : Int)) t], 0, rfl, List.mem_append_right _ List.mem_cons_self, ?_⟩, trivial⟩
     rw [Int.zero_add]
     exact .cons _ _ .nil
 · replace F_4 := (show Fr s.heap L h' _ from F_4)
   replace N_4 := (show News s.heap L h' _ from N_4)
   clear F_2 F_3 N_2 N_3
   rename_i zi1 zi2 zi3 zi4 zi5
   repeat (rename (_ : Prop) => hZ; revert hZ)
   intro hPk
   apply hPk.out L h_1 zi1 zi2 A_0 zi4 A_1 zi5 it h_2 tk D h' tk' ys nD md
 ⟩
noncomputable def cx1 (v : ((((Nat × Heap) × Nat) × (Obj × Addr)) × ((Heap × Addr) × (Heap × Nat))) × (((Heap × Nat) × (Nat × Heap)) × ((Nat × (List Value)) × (Nat × (List (Addr × Obj)))))) : Prop := P1.1 v.1.1.1.1.1 v.1.1.1.1.2 v.1.1.1.2 v.1.1.2.1 v.1.1.2.2 v.1.2.1.1 v.1.2.1.2 v.1.2.2.1 v.1.2.2.2 v.2.1.1.1 v.2.1.1.2 v.2.1.2.1 v.2.1.2.2 v.2.2.1.1 v.2.2.1.2 v.2.2.2.1 v.2.2.2.2
noncomputable section
def tup1 := pk (by walk_at "ne") cx1
@[irreducible]def L:=tup1.1.1.1.1.1
@[irreducible]def h_1:=tup1.1.1.1.1.2
@[irreducible]def zi1:=tup1.1.1.1.2
@[irreducible]def zi2:=tup1.1.1.2.1
@[irreducible]def A_0:=tup1.1.1.2.2
@[irreducible]def zi4:=tup1.1.2.1.1
@[irreducible]def A_1:=tup1.1.2.1.2
@[irreducible]def zi5:=tup1.1.2.2.1
@[irreducible]def it:=tup1.1.2.2.2
@[irreducible]def h_2:=tup1.2.1.1.1
@[irreducible]def tk:=tup1.2.1.1.2
@[irreducible]def D:=tup1.2.1.2.1
@[irreducible]def h':=tup1.2.1.2.2
@[irreducible]def tk':=tup1.2.2.1.1
@[irreducible]def ys:=tup1.2.2.1.2
@[irreducible]def nD:=tup1.2.2.2.1
@[irreducible]def md:=tup1.2.2.2.2
end
theorem main_1 : P1.1 L h_1 zi1 zi2 A_0 zi4 A_1 zi5 it h_2 tk D h' tk' ys nD md := by
   intro T hG hgz hg4 hR kS1 kSg kS2 kS3 kS4 kS5 kS6 X eL lL _ HGL hgl' q1 q2 l3 hL hit neD nem hI F_4 N_4
   dsimp only
   have hI : OnLed md ys (sing gs.length) := hI
   have hyl : ys.length = gs.length := by rw [hI.len, sing_len]
   have hA : News s.heap L h' [(A_1, listOf ([Value.ref A_0] : List Value).toArray 0), (D, listOf ys.toArray nD)] := fun q hq => N_4 q (by
     simp only [List.mem_cons, List.not_mem_nil, or_false] at hq
     rcases hq with rfl | rfl
     · exact List.mem_cons_of_mem _ (List.mem_append_right _ List.mem_cons_self)
     · exact List.mem_cons_self)
   refine add_lists F_4 N_4 (vs := [Value.ref A_0]) (ws := ys) (News.isList hA List.mem_cons_self) (News.isList hA (List.mem_cons_of_mem _ List.mem_cons_self)) (fun h_5 F_5 N_5 => ?_) (by simp [sizeLine_eq]; omega)
   have hA0 : OnLed ((A_0, listOf (([] : List Value).toArray) 0) :: md) ([Value.ref A_0] ++ ys) ([] :: sing gs.length) := ⟨⟨A_0, [], 0, rfl, List.mem_cons_self, .nil⟩, OnLed.mono (fun q hq => List.mem_cons_of_mem _ hq) hI⟩
   have ltL : @LT.lt Nat _ (L + 1) h'.objs.size := Heap.lt_size (N_4 (L + 1, _) (List.mem_cons_of_mem _ (List.mem_append_right _ (by k_mem)))).1
   obtain ⟨o1, N_6, e1⟩ : ∃ o1, News s.heap L h_5 ((h'.objs.size, listOf ([Value.ref A_0] ++ ys).toArray 0) :: (L + 1, o1) :: ((A_0, listOf (([] : List Value).toArray) 0) :: md)) /\ ∃ v, o1.data = .cell v := ⟨_, fun q hq => N_5 q (by
     rcases List.mem_cons.mp hq with rfl | hq
     · exact List.mem_cons_self
     refine List.mem_cons_of_mem _ (List.mem_cons_of_mem _ ?_)
     rcases List.mem_cons.mp hq with rfl | hq
     · exact List.mem_append_right _ (by k_mem)
     rcases List.mem_cons.mp hq with rfl | hq
     · exact List.mem_append_right _ (by k_mem)
     · exact List.mem_append_left _ hq), ⟨_, by assumption⟩⟩
   have ap : ∀ q ∈ (L + 1, o1) :: ((A_0, listOf (([] : List Value).toArray) 0) :: md), @LT.lt Nat _ q.1 h'.objs.size := fun q hq => by
     rcases List.mem_cons.mp hq with rfl | hq
     · exact ltL
     rcases List.mem_cons.mp hq with rfl | hq
     · exact Heap.lt_size (N_4 (A_0, _) (List.mem_cons_of_mem _ (List.mem_append_right _ (by k_mem)))).1
     · exact Heap.lt_size (N_4 q (List.mem_cons_of_mem _ (List.mem_append_left _ hq))).1
   have ap2 : ∀ q ∈ md, @Ne Nat (L + 1) q.1 := fun q hq => nem q hq (L + 1, _) (by k_mem)
   have ap3 : ∀ q ∈ ((A_0, listOf (([] : List Value).toArray) 0) :: md), @Ne Nat (L + 1) q.1 := fun q hq => by
     rcases List.mem_cons.mp hq with rfl | hq
     · exact Nat.ne_of_lt q1
     · exact ap2 q hq
   generalize h'.objs.size = TL at N_6 ap ⊢
   generalize ((A_0, listOf (([] : List Value).toArray) 0) :: md) = mdd at hA0 N_6 ap ap3
   clear N_5 F_4 N_4 hA neD nem
   have ho := Eq.trans (rfl : (Mine.mk.heap_1 w.params).lookup 216 = (Mine.mk.heap_1 w.params).lookup 216) (by k_is)
   refine x1_2 (⟨_, F_5, rfl⟩ : ∃ m1, Fr s.heap L h_5 m1 /\ m1 "groups" = some (.ref G)) fun m1 F_7 w2 => ?_
   have F_8 := fr_know (x := "groups") F_7 w2
   clear F_5 F_7 w2
   k_steps
   unfold Stop
   refine wpAny_For ?_
   k_steps
   unfold Stop
   rename Fr s.heap L _ _ => F_9
   rename News s.heap L _ _ => N_9
   refine call_enumerate_list (base_list F_9 hG) fun h_10 he hi hz hk => wpAny_pyIter_enum he ?_
   have F_10 := fr_keeps F_9 hk
   have N_10 : News s.heap L h_10 ((TL, listOf ([Value.ref A_0] ++ ys).toArray 0) :: (L + 1, o1) :: mdd) := fun q hq => ⟨hk _ _ (N_9 q hq).1, (N_9 q hq).2⟩
   refine x0_4 (enum_start F_9 N_9 (base_list F_9 hG)) fun itl itL itG its => ?_
   clear F_9 N_9 hk hz
   dsimp only at he hi itl itL itG its ⊢
   generalize Array.size (Heap.objs _) = it at he hi itl itL itG its ⊢
   have st0 := base_list F_10 hG
   have nin : it + 1 ∉ [it, G] := by
     intro q
     rcases List.mem_cons.mp q with q | q
     · exact Nat.succ_ne_self _ q
     · rw [<- List.mem_singleton.mp q] at itG; exact absurd itG (Nat.not_lt.mpr (Nat.le_succ _))
   have W : ∀ A' : Around, A'.handled = none -> _ := fun A' hA => WalksT.enumerateD (prog := Challenge.rw_kl0462_01.prog) (w := w) (A := A') (Draws.list (A := A'.in1) hA it G (Nat.ne_of_lt itG) (strValues gl).toArray) (it + 1) (Nat.succ_ne_self _) nin (List.mem_cons_self ..)
   have hsz : (strValues gl).toArray.size = gs.length := by simp [strValues, hgl']
   obtain ⟨oG, hoG, _⟩ := id hG
   have gL : @LT.lt Nat _ G L := Nat.lt_of_lt_of_le (Heap.lt_size hoG) F_10.above
   have i1 : @LT.lt Nat _ TL it := itl (TL, _) List.mem_cons_self
   have i2 : @LT.lt Nat _ (L + 1) it := itl (L + 1, o1) (List.mem_cons_of_mem _ List.mem_cons_self)
   have tl1 : @LT.lt Nat _ (L + 1) TL := ap (L + 1, o1) List.mem_cons_self
   have base1 : ∀ b o, s.heap.get? b = some o -> @LT.lt Nat _ b L := fun b o e => Nat.lt_of_lt_of_le (Heap.lt_size e) F_10.above
   have nL : L ∉ (it + 1) :: [it, G] := by
     simp only [List.mem_cons, List.not_mem_nil, or_false]; omega
   have nL1 : L + 1 ∉ (it + 1) :: [it, G] := by
     simp only [List.mem_cons, List.not_mem_nil, or_false]; omega
   have nw : ∀ b : Nat, @Ne Nat b (it + 1) -> @Ne Nat b it -> (b : Addr) ∉ ([it + 1, it] : List Addr) := fun b h1 h2 h => by
     rcases List.mem_cons.mp h with h | h
     · exact h1 h
     · exact h2 (List.mem_singleton.mp h)
   revert e1; intro hoq
   refine x1_1 (hoq) fun vc e1 => ?_
   try clear hoq
   refine forI gs.length (fun i s' => ∀ Z : Prop, (∀ (m' : Str -> Option Value) (vs' : List Value) (n' : Nat) (md' : List (Addr × Obj)) (o' : Obj) (v' : Option Value) (old : Value), Fr s.heap L s'.heap (fun y => if y = "trees" then some (.ref TL) else if y = "groups" then some (.ref G) else m' y) -> News s.heap L s'.heap ((TL, listOf (List.toArray vs') n') :: (L + 1, o') :: md') -> o'.data = .cell v' -> (∀ q ∈ md', @Ne Nat TL q.1 /\ @Ne Nat (L + 1) q.1 /\ @Ne Nat (it + 1) q.1 /\ @Ne Nat it q.1) -> OnLed md' vs' ([] :: sing gs.length ++ pairsAll gs i) -> IsEnum s'.heap (it + 1) it ((i : Nat) : Int) old -> s'.heap.IsListIter it G i -> s'.os = s.os -> (AllBare s.gens -> AllBare s'.gens) -> Z) -> Z) ?stp ?done 0 (Nat.zero_le _) _ ?ini
   case ini =>
     refine fun Zq kq => kq m1 ([Value.ref A_0] ++ ys) 0 mdd o1 _ _ F_10 N_10 e1 (fun q hq => ?_) ?_ he hi rfl id
     · have h1 : @LT.lt Nat _ q.1 TL := ap q (List.mem_cons_of_mem _ hq)
       have h2 : @LT.lt Nat _ q.1 it := itl q (List.mem_cons_of_mem _ (List.mem_cons_of_mem _ hq))
       exact i0_4 (Nat.ne_of_gt h1) (ap3 q hq) (Nat.ne_of_gt (Nat.lt_succ_of_lt h2)) (Nat.ne_of_gt h2)
     · show OnLed _ _ (_ ++ [])
       rw [List.append_nil]
       exact hA0
   case stp =>
     intro i s_5 hi' HIq
     refine HIq _ fun m' vs' n' md' o' v' old F_11 N_11 d' hne hO he_1 hi_1 os_5 ba_5 => ?_
     refine pair_nextC (v₀ := v') (pc := L + 1) (m' := _) (W _ rfl) rfl rfl rfl rfl rfl rfl nL nL1 (Nat.succ_ne_self _) (by rw [hsz]; exact hi') ⟨⟨_, he_1⟩, hi_1, base_list F_11 hG⟩ F_11.ns ⟨o', (N_11 (L + 1, o') (by k_mem)).1, d'⟩ fun h_5 tk t v hv hst hn_5 hc_5 hk_5 => ?_
     obtain ⟨⟨old_5, he_5⟩, hi_5, hl_5⟩ := hst
     refine x1_2 (hc_5) fun o_5 ho_5 d_5 => ?_
     try clear hc_5
     refine x1_3 (id hi_5) fun oi hoi hoi1 hoi2 => ?_
     obtain ⟨gk, tq, hgj, (rfl)⟩ : ∃ gk tq, gs[i]? = some gk /\ v = .str (leavesT gk) tq := by
       refine i2_2 (gs[i]) ((gl[i]'(by omega)).2) (List.getElem?_eq_getElem hi') ?_
       have h1 : (gl.map (·.1))[i]? = (gs.map leavesT)[i]? := by rw [HGL.out]
       rw [List.getElem?_map, List.getElem?_map, List.getElem?_eq_getElem hi', List.getElem?_eq_getElem (by omega)] at h1
       simp only [Option.map_some, Option.some.injEq] at h1
       simp only [strValues, List.getElem?_toArray, List.getElem?_map] at hv
       rw [List.getElem?_eq_getElem (by omega), Option.map_some, h1] at hv
       exact (Option.some.inj hv).symm
     have hgm := hg4 gk (List.mem_of_getElem? hgj)
     have hgd : gs.getD i [] = gk := by rw [List.getD_eq_getElem?_getD, hgj]; rfl
     have up : ∀ b o, b ≠ L -> b ≠ L + 1 -> b ∉ [it + 1, it] -> s_5.heap.get? b = some o -> h_5.get? b = some o := hk_5
     have F_12 : Fr s.heap L h_5 _ := ⟨hn_5, fun b o e => up b o (Nat.ne_of_lt (base1 b o e)) (Nat.ne_of_lt (Nat.lt_succ_of_lt (base1 b o e))) (by
       have := base1 b o e
       simp only [List.mem_cons, List.not_mem_nil, or_false]; omega) (F_11.keep b o e), F_11.above⟩
     have N_12 : News s.heap L h_5 ((TL, listOf (List.toArray vs') n') :: (L + 1, o_5) :: (it + 1, _) :: (it, oi) :: md') := fun q hq => by
       rcases List.mem_cons.mp hq with rfl | hq
       · have z := N_11 (TL, _) List.mem_cons_self
         exact ⟨up _ _ (by show TL ≠ L; omega) (by show TL ≠ L + 1; omega) (by simp only [List.mem_cons, List.not_mem_nil, or_false]; omega) z.1, z.2⟩
       rcases List.mem_cons.mp hq with rfl | hq
       · exact ⟨ho_5, (N_11 (L + 1, o') (by k_mem)).2⟩
       rcases List.mem_cons.mp hq with rfl | hq
       · exact i0_3 he_5 (by show it + 1 ≠ L; omega) (its _ (Nat.le_succ _))
       rcases List.mem_cons.mp hq with rfl | hq
       · exact i0_3 hoi (by show it ≠ L; omega) (its _ (Nat.le_refl _))
       · have z := N_11 q (List.mem_cons_of_mem _ (List.mem_cons_of_mem _ hq))
         refine x0_4 (hne q hq) fun e1 e2 e3 e4 => ?_
         exact ⟨up _ _ z.2.1 (Ne.symm e2) (by simp only [List.mem_cons, List.not_mem_nil, or_false]; exact fun y => y.elim (Ne.symm e3) (Ne.symm e4)) z.1, z.2⟩
     refine x2_4 (⟨_, _, F_12, rfl, rfl, rfl⟩ : ∃ tb m_2, Fr s.heap L h_5 m_2 /\ m_2 "trees" = some (.ref TL) /\ m_2 "groups" = some (.ref G) /\ m_2 "k" = some (.int (i : Int) tb)) fun tb m_2 F_13 w1 w2 w3 => ?_
     have F_14 := fr_know (x := "trees") (fr_know (x := "groups") (fr_know (x := "k") F_13 w3) w2) w1
     have hpa := pairsAll_len gs i
     have hii : i * i <= 10 * 10 := Nat.mul_le_mul (by omega) (by omega)
     refine trees_inner (p := pC) (loose := looseC) (mg := mgC) (mb := mbC) T X ho F_14 N_12 d_5 hG HGL.out hgz hg4 (Nat.le_of_lt hi') hgm.1 (ls := [] :: sing gs.length ++ pairsAll gs i) (by simp only [List.length_append, List.length_cons, sing_len]; omega) (fun q hq => ?_) (by show TL ≠ L + 1; omega) (OnLed.mono (fun q hq => List.mem_cons_of_mem _ (List.mem_cons_of_mem _ hq)) hO) fun s_9 m_9 vs_9 n_9 md_9 F_9 N_9 hsub hne_9 hO_9 os_9 ba_9 => ?_
     · rcases List.mem_cons.mp hq with rfl | hq
       · exact ⟨by show TL ≠ it + 1; omega, by show L + 1 ≠ it + 1; omega⟩
       rcases List.mem_cons.mp hq with rfl | hq
       · exact ⟨by show TL ≠ it; omega, by show L + 1 ≠ it; omega⟩
       · exact ⟨(hne q hq).1, (hne q hq).2.1⟩
     · have Nm : News s.heap L s_9.heap md_9 := fun q hq => N_9 q (List.mem_cons_of_mem _ (List.mem_cons_of_mem _ hq))
       have ze := Nm _ (hsub _ List.mem_cons_self)
       have zi := Nm _ (hsub _ (List.mem_cons_of_mem _ List.mem_cons_self))
       have o1 := OnLed.filter Nm ze.1 (by simp) hO_9
       have Nm2 : News s.heap L s_9.heap (md_9.filter fun q => decide (q.1 ≠ it + 1)) := fun q hq => Nm q (List.mem_filter.mp hq).1
       have o2 := OnLed.filter Nm2 zi.1 (by rw [hoi1]; simp) o1
       refine fun Zq kq => kq m_9 vs_9 n_9 ((md_9.filter fun q => decide (q.1 ≠ it + 1)).filter fun q => decide (q.1 ≠ it)) o_5 _ old_5 F_9 (fun q hq => N_9 q ?_) d_5 (fun q hq => ?_) ?_ ze.1 ⟨oi, zi.1, hoi1, hoi2⟩ (os_9.trans os_5) (fun z => ba_9 (ba_5 z))
       rotate_left 2
       · rw [pairsAll_succ, hgd, <- List.append_assoc]
         exact o2
       · rcases List.mem_cons.mp hq with rfl | hq
         · exact List.mem_cons_self
         rcases List.mem_cons.mp hq with rfl | hq
         · exact List.mem_cons_of_mem _ List.mem_cons_self
         · exact List.mem_cons_of_mem _ (List.mem_cons_of_mem _ (List.mem_filter.mp (List.mem_filter.mp hq).1).1)
       · have f1 := List.mem_filter.mp hq
         have f2 := List.mem_filter.mp f1.1
         exact i0_4 ((hne_9 q f2.1).1) ((hne_9 q f2.1).2) (Ne.symm (of_decide_eq_true f2.2)) (Ne.symm (of_decide_eq_true f1.2))
   case done =>
     intro s_5 HIq
     refine HIq _ fun m' vs' n' md' o' v' old F_11 N_11 d' hne hO he_1 hi_1 os_5 ba_5 => ?_
     rw [<- hsz] at he_1 hi_1
     refine (W _ rfl).done s_5 _ _ ⟨⟨_, he_1⟩, hi_1, base_list F_11 hG⟩ fun h_6 tk hk_6 => ⟨rfl, ?_⟩
     have F_12 : Fr s.heap L h_6 _ := ⟨F_11.ns.at' fun o q => hk_6 _ o (nw L (by omega) (by omega)) q, fun b o e => hk_6 b o (nw b (by have := base1 b o e; omega) (by have := base1 b o e; omega)) (F_11.keep b o e), F_11.above⟩
     have N_12 : News s.heap L h_6 ((TL, listOf (List.toArray vs') n') :: (L + 1, o') :: md') := fun q hq => by
       refine ⟨hk_6 _ _ ?_ (N_11 q hq).1, (N_11 q hq).2⟩
       rcases List.mem_cons.mp hq with rfl | hq
       · exact nw TL (by omega) (by omega)
       rcases List.mem_cons.mp hq with rfl | hq
       · exact nw (L + 1) (by omega) (by omega)
       · refine x0_4 (hne q hq) fun e1 e2 e3 e4 => ?_
         exact nw q.1 (Ne.symm e3) (Ne.symm e4)
     dsimp only
     have hOo : Hold (OnLed md' vs' (treesP gs)) := ⟨hO⟩
     have hnn : Hold (∀ q ∈ md', @Ne Nat TL q.1) := ⟨fun q hq => (hne q hq).1⟩
     clear F_10 N_10 F_11 N_11 hO hne he hi he_1 hi_1 hk_6
     k_steps
     rename Fr s.heap L _ _ => F_13
     rename News s.heap L _ _ => N_13
     exact hR _ TL vs' n' md' ⟨F_13.keep, os_5, ba_5⟩ (N_13 (TL, _) List.mem_cons_self).1 (N_13 (TL, _) List.mem_cons_self).2.2 (fun q hq => ⟨(N_13 q (List.mem_cons_of_mem _ (List.mem_cons_of_mem _ hq))).1, (N_13 q (List.mem_cons_of_mem _ (List.mem_cons_of_mem _ hq))).2.2, hnn.out q hq⟩) hOo.out
theorem main : Stm pC looseC mgC mbC w s G gl gs R := P1.2 ⟨fun a0 a1 a2 a3 a4 a5 a6 a7 a8 a9 a10 a11 a12 a13 a14 a15 a16 => pk_all (p := cx1) (by with_unfolding_all exact main_1) (((((a0, a1), a2), (a3, a4)), ((a5, a6), (a7, a8))), (((a9, a10), (a11, a12)), ((a13, a14), (a15, a16))))⟩
end c_treesH
theorem c_trees {w s G gl gs R} : c_treesH.Stm p loose mg mb w s G gl gs R := pk_all (p := c_treesH.cx) (by with_unfolding_all exact c_treesH.main) ((((p, loose), mg), (mb, w)), (((s, G), gl), (gs, R)))
end
end Mine
end
section
namespace Mine
section
local macro_rules | `(tactic| walk_at "eval Dict") => mGo "h ; ref Mine.dict2 ?F ?N ?ne ?_ | F:k N:k ne:D ; intro d' h' o' tk' t1' t2' F' hs' N' l1 ; klt l1"
namespace c_readH
noncomputable def Stm (pC : Program) (looseC : List Str) (mgC mbC : Str -> Option Value) (w : World) (s : Shared) (P G : Nat) (ps : List (Str × Tok)) (ys : List Str) (gl : List (Str × Tok)) (gs : List Str) (R : Result -> Shared -> Prop) : Prop := ∀  (T : TopRead pC looseC mgC mbC s.heap) (X : (Mine.mk.heap_1 w.params).In s.heap) (hP : s.heap.IsList P (strValues ps).toArray) (hG : s.heap.IsList G (strValues gl).toArray) (hps : ps.map (·.1) = ys) (hok : ∀ y ∈ ys, PieceOk y) (hpz : ys.length <= 500) (hgl : gl.map (·.1) = gs) (hgz : gs.length <= 10) (hg4 : ∀ i, (gs.getD i ⟨#[]⟩).length <= 4) (hgood : ∀ b, Good (joinS ((readCs ys).drop b))) (hfz : (readP gs (readCs ys)).length < 64) (hR : ∀ s' (D : Nat) vs ns n, Kp s s' -> s'.heap.get? D = some (listOf (List.toArray vs) n) -> s.heap.get? D = none -> IntsAre vs ns -> List.Perm ns (readP gs (readCs ys)) -> ns.Pairwise (· <= ·) -> R (.ok (.ret (.ref D))) s'), codeAny (model Challenge.rw_kl0462_01.prog w) (AL 5) (.call (.ref 238) ⟨[.ref P, .ref G], []⟩) R s
noncomputable def cx (v : (((Program × (List Str)) × ((Str -> Option Value) × (Str -> Option Value))) × ((World × Shared) × Nat)) × (((Nat × (List (Str × Tok))) × (List Str)) × (((List (Str × Tok)) × (List Str)) × (Result -> Shared -> Prop)))) : Prop := Stm v.1.1.1.1 v.1.1.1.2 v.1.1.2.1 v.1.1.2.2 v.1.2.1.1 v.1.2.1.2 v.1.2.2 v.2.1.1.1 v.2.1.1.2 v.2.1.2 v.2.2.1.1 v.2.2.1.2 v.2.2.2
noncomputable section
def tup := pk (by walk_at "ne") cx
@[irreducible]def pC:=tup.1.1.1.1
@[irreducible]def looseC:=tup.1.1.1.2
@[irreducible]def mgC:=tup.1.1.2.1
@[irreducible]def mbC:=tup.1.1.2.2
@[irreducible]def w:=tup.1.2.1.1
@[irreducible]def s:=tup.1.2.1.2
@[irreducible]def P:=tup.1.2.2
@[irreducible]def G:=tup.2.1.1.1
@[irreducible]def ps:=tup.2.1.1.2
@[irreducible]def ys:=tup.2.1.2
@[irreducible]def gl:=tup.2.2.1.1
@[irreducible]def gs:=tup.2.2.1.2
@[irreducible]def R:=tup.2.2.2
end
noncomputable def P1 : {PQ : Nat -> Heap -> Nat -> Obj -> Obj -> Obj -> Prop // Hold (∀ a0 a1 a2 a3 a4 a5, PQ a0 a1 a2 a3 a4 a5) -> Stm pC looseC mgC mbC w s P G ps ys gl gs R} := ⟨_, by
 intro hPk
 intro T X hP hG hps hok hpz hgl hgz hg4 hgood hfz hR
 have kS1 : Key "exec Assign cons ListComp" := trivial
 have kS2 : Key "exec For Name Call cons nil" := trivial
 have kS3 : Key "call type:range" := trivial
 have kS4 : Key "call ref" := trivial
 have kS5 : KX := trivial
 have kSg : KG := trivial
 have kS6 : Key "call builtin:sorted" := trivial
 have kS7 : Key "call builtin:dict.get" := trivial
 revert X
 k_fill
 intro X
 refine' callCW (g := s.heap) (cl := []) (binds := [("pieces", .ref P), ("groups", .ref G)]) ⟨fun _ _ e => e, Nat.le_refl _, fun _ h => nomatch h⟩ X T.nolimit ?ho ?hcd (by decide) ?bi ?lo ?nd ?_ ?c1 ?c2 ?c3
 case ho => k_is
 case hcd => k_is
 case bi => exact BindsTo.of_eq rfl
 case lo => rfl
 case nd => decide +kernel
 case c1 => rfl
 case c2 => rfl
 case c3 => rfl
 intro L h_1 tk cells F N Y eL lL
 k_cells Y
 simp only [List.cons_append, List.nil_append] at N
 have HGL : Hold (gl.map (·.1) = gs) := ⟨hgl⟩
 clear hgl
 have h243 : 243 < L := by rw [eL]; exact Heap.lt_size (X 243 _ (by k_is))
 rename_i zi1 zi2 zi3 zi4 zi5 zi6
 repeat (rename (_ : Prop) => hZ; revert hZ)
 intro hPk
 apply hPk.out L h_1 tk zi1 zi2 zi3
 ⟩
noncomputable def cx1 (v : ((Nat × Heap) × Nat) × ((Obj × Obj) × Obj)) : Prop := P1.1 v.1.1.1 v.1.1.2 v.1.2 v.2.1.1 v.2.1.2 v.2.2
noncomputable section
def tup1 := pk (by walk_at "ne") cx1
@[irreducible]def L:=tup1.1.1.1
@[irreducible]def h_1:=tup1.1.1.2
@[irreducible]def tk:=tup1.1.2
@[irreducible]def zi1:=tup1.2.1.1
@[irreducible]def zi2:=tup1.2.1.2
@[irreducible]def zi3:=tup1.2.2
end
theorem main_1 : P1.1 L h_1 tk zi1 zi2 zi3 := by
 intro T hP hG hps hok hpz hgz hg4 hgood hfz hR kS1 kS2 kS3 kS4 kS5 kSg kS6 kS7 X F eL lL _ _ _ N HGL h243
 k_steps
 unfold Stop
 rename Fr s.heap L _ _ => F_1
 rename News s.heap L _ _ => N_1
 refine asg_comp (h₀ := s.heap) (by with_unfolding_all rfl) rfl (by decide) rfl (by decide) rfl rfl rfl keepV (fun v y => ∃ z u t, v = .str z u /\ y = .str (cellOf z) t) ?_
 k_steps
 have hpl : ps.length = ys.length := by rw [<- hps]; simp
 refine iter_list rfl F_1 N_1 (base_list F_1 hP) (by simp [strValues, sizeLine_eq]; omega) fun itv h_2 S => ?_
 refine i4_3 _ _ _ _ S ⟨fun C i v s_3 m_3 E' hv_3 F_3 N_3 hm => ?_, fun C i v s_3 m_3 E' hv_3 hp_3 F_3 N_3 hm => ?_⟩ (fun D h' tk' ys' nD vs F_4 N_4 neD hlen hP' hF => ?_)
 · refine x2_2 (strVal hv_3) fun y u hcz2 hyu => ?_
   cases hcz2
   refine tests_one (wpAny_mono (Q := fun ok s_4 => Hold (ok = (!decide (y = Str.ofString ">")) /\ Keeps s_3 s_4)) ?_ (fun _ _ z => z.out) fun _ _ z => z)
   have F_5 := fr_know F_3 hm
   clear F_3 N_3 S F_1 N_1
   k_steps
   refine ⟨?_, ⟨_, _, rfl, fun _ _ e => e⟩⟩
   by_cases h : y = Str.ofString ">"
   · subst h; decide +kernel
   · rw [decide_eq_false h, bne_eq]; simp [h]
 · refine x2_2 (strVal hv_3) fun y u hcz2 hyu => ?_
   cases hcz2
   refine wpAny_mono (Q := fun z s_4 => Hold ((∃ t, z = .str (cellOf y) t) /\ Keeps s_3 s_4)) ?_ (fun z s_4 h => ?_) fun _ _ z => z
   · have F_5 := fr_know F_3 hm
     clear F_3 S F_1 N_1
     k_steps
     unfold Stop
     refine kdg_get2 (knd := PySem.strKind _ _) N_3 (by k_mem) (by assumption) ?_ (strKind_is _ _ _ _) _ rfl ?_
     · refine beq_eq_false_iff_ne.mpr fun e => ?_
       have e' : _ = (1 : Nat) := e
       omega
     obtain ⟨t, et⟩ := (tags_value y _ _ u)
     rw [et]
     exact ⟨⟨t, rfl⟩, ⟨_, _, rfl, fun _ _ e => e⟩⟩
   · obtain ⟨⟨t, (rfl)⟩, k⟩ := h.out
     exact ⟨⟨y, u, t, rfl, rfl⟩, k⟩
 · have hvs := vs_list (by simpa using hlen) hP'
   rw [hvs, show (strValues ps).toArray.toList = strValues ps from rfl, keep_vals] at hF
   refine x1_2 (paired_map hF) fun cl hcl hcm => ?_
   rw [keep_map, hps] at hcm
   refine x1_1 (⟨ys'.toList, by simp⟩ : ∃ l : List Value, ys' = l.toArray) fun ysl hcz1 => ?_
   cases hcz1
   simp only [List.toList_toArray] at hcl
   subst hcl
   have hcs : cl.map (·.1) = readCs ys := hcm
   have HCS : Hold (cl.map (·.1) = readCs ys) := ⟨hcs⟩
   clear hcs hcm hF hvs hlen hP' F_1 N_1 S vs
   k_steps
   unfold Stop
   rename Fr s.heap L _ _ => F_1
   rename News s.heap L _ _ => N_1
   have hcz : cl.length <= 500 := by
     have h1 : cl.length = (readCs ys).length := by rw [<- HCS.out]; simp
     have h2 : (readCs ys).length <= ys.length := by unfold readCs; rw [List.length_map]; exact List.length_filter_le _ _
     omega
   refine asg_comp (h₀ := s.heap) (by with_unfolding_all rfl) rfl (by decide) rfl (by decide) rfl rfl rfl (fun v => true) (fun v y => ∃ z u t, v = .str z u /\ y = .int (numOf z) t) ?_
   k_steps
   refine iter_list rfl F_1 N_1 (News.isList N_1 (by k_mem)) (by simp [strValues, sizeLine_eq]; omega) fun itv h_2 S => ?_
   refine i4_3 _ _ _ _ S ⟨fun C i v s_3 m_3 E' hv_3 F_3 N_3 hm => ?_, fun C i v s_3 m_3 E' hv_3 hp_3 F_3 N_3 hm => ?_⟩ (fun D_2 h' tk' ys' nD vs F_5 N_5 neD_2 hlen hP' hF => ?_)
   · exact wpAny_pure ⟨rfl, ⟨_, _, rfl, fun _ _ e => e⟩⟩
   · refine x2_2 (strVal hv_3) fun y u hcz2 hyu => ?_
     cases hcz2
     refine wpAny_mono (Q := fun z s_4 => Hold ((∃ t, z = .int (numOf y) t) /\ Keeps s_3 s_4)) ?_ (fun z s_4 h => ?_) fun _ _ z => z
     · have F_5 := fr_know F_3 hm
       clear F_3 S F_1 N_1
       k_steps
       unfold Stop
       obtain ⟨kvs, hD, ⟨t7, h7⟩, ⟨t8, h8⟩, hm7⟩ := et67_dict (prog := Challenge.rw_kl0462_01.prog) X
       have hD' : s_3.heap.DictOf (PySem.strKind Challenge.rw_kl0462_01.prog w) 67 kvs := hD.at fun o e => F_5.keep _ o e
       refine call_meetsIn PySem.F.slot_dict_get hD'.typeIs PySem.F.entry_dict_get (PySem.F.args_dict_get_3 _ _ _) (meets_dict_get_default (PySem.strKind Challenge.rw_kl0462_01.prog w) 67 (strKind_is _ _ _ _) (by decide) _) ⟨_, hD'.mapOf, ?_⟩
       refine ⟨?_, ⟨_, _, rfl, fun _ _ e => e⟩⟩
       rcases cell_ok (ys := ys) hok (by rw [<- HCS.out]; exact List.mem_map.mpr ⟨_, hyu, rfl⟩) with rfl | rfl | ⟨c, hc, hy⟩
       · rw [h7]; exact ⟨t7, rfl⟩
       · rw [h8]; exact ⟨t8, rfl⟩
       · rw [hm7 y c hc hy]
         refine ⟨?tt, ?h9⟩; case' h9 => skip
         rw [numOf_text hc hy]
         rfl
     · obtain ⟨⟨t, (rfl)⟩, k⟩ := h.out
       exact ⟨⟨y, u, t, rfl, rfl⟩, k⟩
   · have hvs := vs_list (by simpa using hlen) hP'
     rw [hvs, List.filter_eq_self.mpr (fun _ _ => rfl), show (strValues cl).toArray.toList = strValues cl from rfl] at hF
     have hi := paired_ints hF
     rw [HCS.out] at hi
     clear hF hvs hlen hP' F_1 N_1 S vs
     k_steps
     unfold Stop
     rename Fr s.heap L _ _ => F_1
     rename News s.heap L _ _ => N_1
     refine wpAny_For ?_
     k_steps
     unfold Stop
     rename Fr s.heap L _ _ => F_2
     rename News s.heap L _ _ => N_2
     rename_i _ _ Fd _ _ _ lF hF_2
     obtain ⟨nD_0, o3, o2, N_3, ⟨v3, e3⟩, ⟨v2, e2⟩⟩ : ∃ nD_0 o3 o2, News s.heap L hF_2 [(Fd, listOf ([] : List Value).toArray 0), (D_2, listOf ys'.toList.toArray nD), (D, listOf (strValues cl).toArray nD_0), (L + 1 + 1 + 1, o3), (L + 1 + 1, o2)] /\ (∃ v, o3.data = .cell v) /\ ∃ v, o2.data = .cell v := ⟨_, _, _, fun q hq => N_2 q (by
       refine (?_ : ∀ q ∈ _, q ∈ _) _ hq
       walk_at "sub"), ⟨_, by assumption⟩, ⟨_, by assumption⟩⟩
     have n1 : @Ne Nat (L + 1 + 1 + 1) D := neD (L + 1 + 1 + 1, _) (by k_mem)
     have n2 : @Ne Nat (L + 1 + 1) D := neD (L + 1 + 1, _) (by k_mem)
     have n3 : @Ne Nat D D_2 := neD_2 (D, _) (by k_mem)
     have n4 : @Ne Nat (L + 1 + 1 + 1) D_2 := neD_2 (L + 1 + 1 + 1, _) (by k_mem)
     have n5 : @Ne Nat (L + 1 + 1) D_2 := neD_2 (L + 1 + 1, _) (by k_mem)
     refine x1_5 (⟨_, F_2, rfl, rfl, rfl, rfl⟩ : ∃ m1, Fr s.heap L hF_2 m1 /\ m1 "cells" = some (.ref D) /\ m1 "numbers" = some (.ref D_2) /\ m1 "found" = some (.ref Fd) /\ m1 "groups" = some (.ref G)) fun m1 F_3 w1 w2 w3 w4 => ?_
     have F_4 := fr_know (x := "cells") (fr_know (x := "numbers") (fr_know (x := "found") (fr_know (x := "groups") F_3 w4) w3) w2) w1
     clear neD neD_2 F_2 N_2 F_3 w1 w2 w3 w4
     have ho := Eq.trans (rfl : (Mine.mk.heap_1 w.params).lookup 238 = (Mine.mk.heap_1 w.params).lookup 238) (by k_is)
     have hcs := HCS.out
     refine x1_1 (⟨_, rfl⟩ : ∃ cs, readCs ys = cs) fun cs ecs => ?_
     rw [ecs] at hcs hi hgood hfz hR
     have hcl : cl.length = cs.length := by rw [<- hcs]; simp
     rw [hcl]
     have hcz' : cs.length <= 500 := by omega
     have hpre : ∀ i, i <= cs.length - 1 -> ((List.range' 1 i).flatMap (readAt gs cs)).length < 64 := fun i hi' => by
       refine Nat.lt_of_le_of_lt ?_ hfz
       unfold readP
       have e : List.range' 1 (cs.length - 1) = List.range' 1 i ++ List.range' (1 + i) (cs.length - 1 - i) := by
         rw [List.range'_append_1]; congr 1; omega
       rw [e, List.flatMap_append, List.length_append]
       exact Nat.le_add_right _ _
     refine range_iter2 F_4 N_3 (by decide) (by decide) (by omega) (by omega) fun it h_2 tk F_5 N_5 l1 hL hit => ?_
     have en : ((cs.length : Int) - 1).toNat = cs.length - 1 := by omega
     rw [en] at N_5
     have l2 : @LT.lt Nat _ Fd it := l1 (Fd, _) (by k_mem)
     have l3 : @LT.lt Nat _ D it := l1 (D, _) (by k_mem)
     have l4 : @LT.lt Nat _ D_2 it := l1 (D_2, _) (by k_mem)
     have l5 : @LT.lt Nat _ (L + 1 + 1 + 1) it := l1 (L + 1 + 1 + 1, _) (by k_mem)
     have l6 : @LT.lt Nat _ D_2 Fd := lF.1
     have l7 : @LT.lt Nat _ D Fd := lF.2.1
     have l8 : @LT.lt Nat _ (L + 1 + 1 + 1) Fd := lF.2.2.2.1
     refine forI (cs.length - 1) (fun i s' => ∀ Z : Prop, (∀ (m' : Str -> Option Value) (o3 o2 : Obj) (v3 v2 : Option Value) (vf : List Value) (nf : Nat), Fr s.heap L s'.heap (fun y => if y = "cells" then some (.ref D) else if y = "numbers" then some (.ref D_2) else if y = "found" then some (.ref Fd) else if y = "groups" then some (.ref G) else m' y) -> News s.heap L s'.heap [(it, riObj (1 + (i : Int)) (((cs.length - 1 : Nat) : Int) - i)), (Fd, listOf vf.toArray nf), (D_2, listOf ys'.toList.toArray nD), (D, listOf (strValues cl).toArray nD_0), (L + 1 + 1 + 1, o3), (L + 1 + 1, o2)] -> o3.data = .cell v3 -> o2.data = .cell v2 -> IntsAre vf ((List.range' 1 i).flatMap (readAt gs cs)) -> s'.os = s.os -> (AllBare s.gens -> AllBare s'.gens) -> Z) -> Z) ?stp ?done 0 (Nat.zero_le _) _ ?ini
     case ini => exact fun Zq kq => kq m1 o3 o2 v3 v2 [] 0 F_5 (by simpa using N_5) e3 e2 .nil rfl id
     case stp =>
       intro i s_5 hi' HIq
       refine HIq _ fun m' o3 o2 v3 v2 vf nf F_6 N_6 d3 d2 hif os_6 ba_6 => ?_
       refine wpAny_pyNext_range_item (it := it) (N_6 _ List.mem_cons_self).1 (by omega) fun h_6 hit_6 hs_6 => ⟨_, rfl, ?_⟩
       refine x0_2 (news_put (o := riObj (1 + (i : Int)) (((cs.length - 1 : Nat) : Int) - i)) F_6 N_6 (by k_upd) hs_6 hit_6) fun F_7 N_7 => ?_
       refine wpAny_of_eq (rfl : letOwnedTupleGo (.Name _ _) _ _ = pure ()) ?_
       refine wpAny_assign_Name (wpAny_storeName_local rfl F_7.ns (fun h_7 hn_7 hs_7 => ?_) rfl)
       have F_8 := F_7.set hn_7 hs_7
       have N_8 : News s.heap L h_7 [(it, riObj (1 + (i : Int) + 1) (((cs.length - 1 : Nat) : Int) - i - 1)), (Fd, listOf vf.toArray nf), (D_2, listOf ys'.toList.toArray nD), (D, listOf (strValues cl).toArray nD_0), (L + 1 + 1 + 1, o3), (L + 1 + 1, o2)] := fun q hq => ⟨hs_7.extBut _ _ (N_7 q hq).2.1 (N_7 q hq).1, (N_7 q hq).2⟩
       refine x2_6 (⟨_, _, F_8, rfl, rfl, rfl, rfl, rfl⟩ : ∃ tb m_2, Fr s.heap L h_7 m_2 /\ m_2 "cells" = some (.ref D) /\ m_2 "numbers" = some (.ref D_2) /\ m_2 "found" = some (.ref Fd) /\ m_2 "groups" = some (.ref G) /\ m_2 "begin" = some (.int ((1 + i : Nat) : Int) tb)) fun tb m_2 F_9 w1 w2 w3 w4 w5 => ?_
       have F_10 := fr_know (x := "cells") (fr_know (x := "numbers") (fr_know (x := "found") (fr_know (x := "groups") (fr_know (x := "begin") F_9 w5) w4) w3) w2) w1
       have hlt := hpre i (by omega)
       refine read_turn (p := pC) (loose := looseC) (mg := mgC) (mb := mbC) T X ho (b := 1 + i) ⟨n1, n2, n3, n4, n5, l7, l6, l8, l2⟩ F_10 N_8 d2 d3 hcs hi hif (by omega) hcz' (by omega) (hgood (1 + i)) hG HGL.out hgz hg4 fun s_9 m_9 o2' o3' v2' v3' vf' nf' F_11 N_11 d2' d3' hif' os_9 ba_9 => ?_
       refine fun Zq kq => kq m_9 o3' o2' v3' v2' vf' nf' F_11 ?_ d3' d2' ?_ (os_9.trans os_6) (fun z => ba_9 (ba_6 z))
       · have e1 : (1 : Int) + ((i + 1 : Nat) : Int) = 1 + (i : Int) + 1 := by omega
         have e2 : ((cs.length - 1 : Nat) : Int) - ((i + 1 : Nat) : Int) = ((cs.length - 1 : Nat) : Int) - (i : Int) - 1 := by omega
         rw [e1, e2]; exact N_11
       · rw [List.range'_1_concat, List.flatMap_append]
         simpa using hif'
     case done =>
       intro s_5 HIq
       refine HIq _ fun m' o3 o2 v3 v2 vf nf F_6 N_6 d3 d2 hif os_6 ba_6 => ?_
       refine wpAny_pyNext_range_end (it := it) rfl (N_6 _ List.mem_cons_self).1 (by omega) fun h_6 he => ⟨rfl, ?_⟩
       refine x0_2 (news_drop F_6 N_6 he (by k_all)) fun F_7 N_7 => ?_
       have hrp : (List.range' 1 (cs.length - 1)).flatMap (readAt gs cs) = readP gs cs := rfl
       rw [hrp] at hif
       clear F_4 F_5 N_3 N_5 F_6 N_6 l1
       dsimp only
       k_steps
       unfold Stop
       rename Fr s.heap L _ _ => F_8
       rename News s.heap L _ _ => N_8
       refine kso_sorted F_8 N_8 (News.isList (items := vf.toArray) (n := nf) (d := none) (sl := #[]) N_8 (by k_mem)) hif hfz fun B vs' ns' c h' F_9 N_9 l9 i9 _ p9 o9 _ => ?_
       refine hR _ B vs' ns' c ⟨F_9.keep, os_6, ba_6⟩ (N_9 (B, _) List.mem_cons_self).1 (N_9 (B, _) List.mem_cons_self).2.2 i9 p9 o9
theorem main : Stm pC looseC mgC mbC w s P G ps ys gl gs R := P1.2 ⟨fun a0 a1 a2 a3 a4 a5 => pk_all (p := cx1) (by with_unfolding_all exact main_1) (((a0, a1), a2), ((a3, a4), a5))⟩
end c_readH
theorem c_read {w s P G ps ys gl gs R} : c_readH.Stm p loose mg mb w s P G ps ys gl gs R := pk_all (p := c_readH.cx) (by with_unfolding_all exact c_readH.main) ((((p, loose), (mg, mb)), ((w, s), P)), (((G, ps), ys), ((gl, gs), R)))
end
end Mine
end
section
namespace Mine
section
variable {w : World}
namespace c_told_stepH
noncomputable def Stm (pC : Program) (looseC : List Str) (mgC mbC : Str -> Option Value) (wC : World) : Prop := ∀  (n : Nat) (hn : n <= 3) (IH : ToldC pC looseC mgC mbC wC n), ToldC pC looseC mgC mbC wC (n + 1)
noncomputable def cx (v : ((Program × (List Str)) × (Str -> Option Value)) × ((Str -> Option Value) × World)) : Prop := Stm v.1.1.1 v.1.1.2 v.1.2 v.2.1 v.2.2
noncomputable section
def tup := pk (by walk_at "ne") cx
@[irreducible]def pC:=tup.1.1.1
@[irreducible]def looseC:=tup.1.1.2
@[irreducible]def mgC:=tup.1.2
@[irreducible]def mbC:=tup.2.1
@[irreducible]def wC:=tup.2.2
end
noncomputable def P1 : {PQ : Nat -> Heap -> Shared -> Nat -> Nat -> Nat -> Nat -> Nat -> Nat -> Nat -> Nat -> Nat -> Nat -> Nat -> Nat -> (Nat -> Tok) -> Bool -> Bool -> (Result -> Shared -> Prop) -> (Array Value) -> Nat -> Nat -> Nat -> Nat -> Nat -> Nat -> Nat -> (Array Value) -> (Array Value) -> (List (Str × Tok)) -> DS -> (List Str) -> Tok -> Tok -> Tok -> Nat -> Obj -> (Array Value) -> (List Nat) -> (List (Str × Tok)) -> (List (List Nat)) -> (Nat -> Nat) -> Prop // Hold (∀ a0 a1 a2 a3 a4 a5 a6 a7 a8 a9 a10 a11 a12 a13 a14 a15 a16 a17 a18 a19 a20 a21 a22 a23 a24 a25 a26 a27 a28 a29 a30 a31 a32 a33 a34 a35 a36 a37 a38 a39 a40 a41, PQ a0 a1 a2 a3 a4 a5 a6 a7 a8 a9 a10 a11 a12 a13 a14 a15 a16 a17 a18 a19 a20 a21 a22 a23 a24 a25 a26 a27 a28 a29 a30 a31 a32 a33 a34 a35 a36 a37 a38 a39 a40 a41) -> Stm pC looseC mgC mbC wC} := ⟨_, by
 intro hPk
 intro n hn IH
 have kS1 : Key "exec For" := trivial
 have kS2 : Key "call ref" := trivial
 intro g s x dx bm P data decl ns pmap pres t0 G Bh t root done R its nd nn npr np ndd k d nss ps l ds ys t1 t2 tl cd oc pst lv gl gs fg TB T X hb o1 hk0 hnz hpz hdd o2 W hl hd hdz hrt LS0 hv hp hlv hlvn hgl hgz hgs hG hB hR
 repeat (rename (_ : Prop) => hZ; revert hZ)
 intro hPk
 apply hPk.out n g s x dx bm P data decl ns pmap pres t0 G Bh t root done R its nd nn npr np ndd k d nss ps l ds ys t1 t2 tl cd oc pst lv gl gs fg
 ⟩
noncomputable def cx1 (v : (((((Nat × Heap) × Shared) × ((Nat × Nat) × Nat)) × (((Nat × Nat) × Nat) × (Nat × Nat))) × ((((Nat × Nat) × Nat) × (Nat × (Nat -> Tok))) × (((Bool × Bool) × (Result -> Shared -> Prop)) × ((Array Value) × Nat)))) × (((((Nat × Nat) × Nat) × ((Nat × Nat) × Nat)) × ((((Array Value) × (Array Value)) × (List (Str × Tok))) × (DS × (List Str)))) × ((((Tok × Tok) × Tok) × (Nat × Obj)) × ((((Array Value) × (List Nat)) × (List (Str × Tok))) × ((List (List Nat)) × (Nat -> Nat)))))) : Prop := P1.1 v.1.1.1.1.1.1 v.1.1.1.1.1.2 v.1.1.1.1.2 v.1.1.1.2.1.1 v.1.1.1.2.1.2 v.1.1.1.2.2 v.1.1.2.1.1.1 v.1.1.2.1.1.2 v.1.1.2.1.2 v.1.1.2.2.1 v.1.1.2.2.2 v.1.2.1.1.1.1 v.1.2.1.1.1.2 v.1.2.1.1.2 v.1.2.1.2.1 v.1.2.1.2.2 v.1.2.2.1.1.1 v.1.2.2.1.1.2 v.1.2.2.1.2 v.1.2.2.2.1 v.1.2.2.2.2 v.2.1.1.1.1.1 v.2.1.1.1.1.2 v.2.1.1.1.2 v.2.1.1.2.1.1 v.2.1.1.2.1.2 v.2.1.1.2.2 v.2.1.2.1.1.1 v.2.1.2.1.1.2 v.2.1.2.1.2 v.2.1.2.2.1 v.2.1.2.2.2 v.2.2.1.1.1.1 v.2.2.1.1.1.2 v.2.2.1.1.2 v.2.2.1.2.1 v.2.2.1.2.2 v.2.2.2.1.1.1 v.2.2.2.1.1.2 v.2.2.2.1.2 v.2.2.2.2.1 v.2.2.2.2.2
noncomputable section
def tup1 := pk (by walk_at "ne") cx1
@[irreducible]def n:=tup1.1.1.1.1.1.1
@[irreducible]def g:=tup1.1.1.1.1.1.2
@[irreducible]def s:=tup1.1.1.1.1.2
@[irreducible]def x:=tup1.1.1.1.2.1.1
@[irreducible]def dx:=tup1.1.1.1.2.1.2
@[irreducible]def bm:=tup1.1.1.1.2.2
@[irreducible]def P:=tup1.1.1.2.1.1.1
@[irreducible]def data:=tup1.1.1.2.1.1.2
@[irreducible]def decl:=tup1.1.1.2.1.2
@[irreducible]def ns:=tup1.1.1.2.2.1
@[irreducible]def pmap:=tup1.1.1.2.2.2
@[irreducible]def pres:=tup1.1.2.1.1.1.1
@[irreducible]def t0:=tup1.1.2.1.1.1.2
@[irreducible]def G:=tup1.1.2.1.1.2
@[irreducible]def Bh:=tup1.1.2.1.2.1
@[irreducible]def t:=tup1.1.2.1.2.2
@[irreducible]def root:=tup1.1.2.2.1.1.1
@[irreducible]def done:=tup1.1.2.2.1.1.2
@[irreducible]def R:=tup1.1.2.2.1.2
@[irreducible]def its:=tup1.1.2.2.2.1
@[irreducible]def nd:=tup1.1.2.2.2.2
@[irreducible]def nn:=tup1.2.1.1.1.1.1
@[irreducible]def npr:=tup1.2.1.1.1.1.2
@[irreducible]def np:=tup1.2.1.1.1.2
@[irreducible]def ndd:=tup1.2.1.1.2.1.1
@[irreducible]def k:=tup1.2.1.1.2.1.2
@[irreducible]def d:=tup1.2.1.1.2.2
@[irreducible]def nss:=tup1.2.1.2.1.1.1
@[irreducible]def ps:=tup1.2.1.2.1.1.2
@[irreducible]def l:=tup1.2.1.2.1.2
@[irreducible]def ds:=tup1.2.1.2.2.1
@[irreducible]def ys:=tup1.2.1.2.2.2
@[irreducible]def t1:=tup1.2.2.1.1.1.1
@[irreducible]def t2:=tup1.2.2.1.1.1.2
@[irreducible]def tl:=tup1.2.2.1.1.2
@[irreducible]def cd:=tup1.2.2.1.2.1
@[irreducible]def oc:=tup1.2.2.1.2.2
@[irreducible]def pst:=tup1.2.2.2.1.1.1
@[irreducible]def lv:=tup1.2.2.2.1.1.2
@[irreducible]def gl:=tup1.2.2.2.1.2
@[irreducible]def gs:=tup1.2.2.2.2.1
@[irreducible]def fg:=tup1.2.2.2.2.2
end
noncomputable def P2 : {PQ : Nat -> Heap -> Nat -> Obj -> Obj -> Addr -> Heap -> Nat -> (Str -> Option Value) -> Shared -> Nat -> Nat -> Nat -> Obj -> (Array Value) -> Nat -> Nat -> Nat -> Nat -> Nat -> Nat -> Heap -> Prop // Hold (∀ a0 a1 a2 a3 a4 a5 a6 a7 a8 a9 a10 a11 a12 a13 a14 a15 a16 a17 a18 a19 a20 a21, PQ a0 a1 a2 a3 a4 a5 a6 a7 a8 a9 a10 a11 a12 a13 a14 a15 a16 a17 a18 a19 a20 a21) -> P1.1 n g s x dx bm P data decl ns pmap pres t0 G Bh t root done R its nd nn npr np ndd k d nss ps l ds ys t1 t2 tl cd oc pst lv gl gs fg} := ⟨_, by
 intro hPk
 intro hn IH kS1 kS2 TB T X hb o1 hk0 hnz hpz hdd o2 W hl hd hdz hrt LS0 hv hp hlv hlvn hgl hgz hgs hG hB hR
 have oS : SrtF 161 [243, P, dx, x, data, t0, decl, ns, pres] := ⟨by decide, o1⟩
 revert X
 k_fill
 intro X
 refine' callCW (binds := [("writer", .ref x), ("leaves", .str (leavesT lv) tl), ("groups", .ref G), ("behind", .ref Bh)]) W X T.nolimit ?ho ?hcd ?room ?bi ?lo ?nd ?_ ?c1 ?c2 ?c3
 case ho => k_is
 case hcd => k_is
 case room => exact dp0 n
 case bi => exact BindsTo.of_eq rfl
 case lo => rfl
 case nd => decide +kernel
 case c1 => rfl
 case c2 => rfl
 case c3 => rfl
 intro L h_1 tk cells F N Y eL lL
 k_lt lL
 k_cells Y
 simp only [List.cons_append, List.nil_append] at N
 k_steps
 unfold Stop
 rename_i o1' o2' d1' d2' at' h_2 ob F_2 N_2 hlo hs hfs hhi hfi l1
 refine x1_1 (isDict_nil hs) fun na hcz1 => ?_
 cases hcz1
 clear hs hfs hhi hfi
 have d1 : o1'.data = .cell none := d1'
 have d2 : o2'.data = .cell (some (.str (leavesT lv) tl)) := d2'
 clear d1' d2'
 refine x1_4 (⟨_, F_2, rfl, rfl, rfl⟩ : ∃ m, Fr g L h_2 m /\ m "writer" = some (.ref x) /\ m "groups" = some (.ref G) /\ m "behind" = some (.ref Bh)) fun m F_2 m1 m2 m3 => ?_
 have N_3 : News g L h_2 ([(x, instObj 188 dx), (dx, dictOf (wEs wC.params t bm data decl ns pmap pres root done) 18), (data, listOf (strValues l).toArray ndd), (P, listOf ps np), (decl, listOf its nd), (ns, listOf nss nn), (pres, listOf (List.replicate (k + 1) (.bool false)).toArray npr), (t0, pairObj t1 t2), (at', dictOf [] na), (161, tabObj pst), (cd, oc)] ++ [(L + 1 + 1, o1'), (L + 1, o2')]) := fun q hq => by
   refine N_2 q ?_
   refine (?_ : ∀ q ∈ _, q ∈ _) _ hq
   walk_at "sub"
 have off : offLL [(x, instObj 188 dx), (dx, dictOf (wEs wC.params t bm data decl ns pmap pres root done) 18), (data, listOf (strValues l).toArray ndd), (P, listOf ps np), (decl, listOf its nd), (ns, listOf nss nn), (pres, listOf (List.replicate (k + 1) (.bool false)).toArray npr), (t0, pairObj t1 t2), (at', dictOf [] na), (161, tabObj pst), (cd, oc)] [(L + 1 + 1, o1'), (L + 1, o2')] := by
   simp only [offLL, offL, and_true]; omega
 refine x0_2 (base_of F_2 N_3) fun W_3 k_3 => ?_
 refine callC 3 (c_start (p := pC) (loose := looseC) (mg := mgC) (mb := mbC) (TB.keeps k_3) (T.keeps k_3) (Frag.In.keeps X k_3) (BoundAt.keeps hb k_3) (by omega) (by omega) (by omega) (by omega) (by omega) (W_3 _ rfl) hl hd hdz hrt hlo LS0 ((hv.keeps k_3).mono (by omega)) hp fun s_4 e0 av c' oc' ps' ndd' nd' nn' npr' np' ne PP hp' LS1 dis le0 => ?_) rfl
   (dp3 n) (un3 n)
 refine x0_2 (WP.back2 PP F_2 N_3 (offLL.mp off)) fun F_4 N_4 => ?_
 have ap := PP.apart N_3 off (c := c') (o := oc') (by k_mem)
 have ap2 := PP.apart N_3 off (c := e0) (o := listOf #[] ne) (by k_mem)
 replace ap := neAll_of ap; replace ap2 := neAll_of ap2; dsimp only [List.map] at ap ap2
 simp only [List.cons_append, List.nil_append] at N_4
 have os_4 := PP.os
 have ba_4 := PP.bare
 clear N_2 N_3 off W_3 k_3 PP
 dsimp only
 have F_5 := fr_know (x := "writer") (fr_know (x := "groups") (fr_know (x := "behind") F_4 m3) m2) m1
 clear F_2 F_4 m1 m2 m3
 have ho := Eq.trans (rfl : (Mine.mk.heap_1 wC.params).lookup 221 = (Mine.mk.heap_1 wC.params).lookup 221) (by k_is)
 k_steps
 unfold Stop
 refine wpAny_For ?_
 k_steps
 rename Fr g L _ _ => F_6
 rename News g L _ _ => N_6
 have hx8 : (leavesT lv).cps.all (· < 128) = true := by
   rw [Array.all_eq_true]
   intro i hi
   have hm : lv.toArray[i] ∈ lv := by simp
   have h4 := hlv _ hm
   generalize lv.toArray[i] = cc at h4
   simp only [List.mem_cons, List.not_mem_nil, or_false] at h4
   exact decide_eq_true (by omega)
 rename_i zi1
 repeat (rename (_ : Prop) => hZ; revert hZ)
 intro hPk
 apply hPk.out L h_1 tk o1' o2' at' h_2 na m s_4 e0 av c' oc' ps' ndd' nd' nn' npr' np' ne zi1
 ⟩
noncomputable def cx2 (v : ((((Nat × Heap) × Nat) × ((Obj × Obj) × Addr)) × (((Heap × Nat) × (Str -> Option Value)) × (Shared × Nat))) × ((((Nat × Nat) × Obj) × (((Array Value) × Nat) × Nat)) × (((Nat × Nat) × Nat) × (Nat × Heap)))) : Prop := P2.1 v.1.1.1.1.1 v.1.1.1.1.2 v.1.1.1.2 v.1.1.2.1.1 v.1.1.2.1.2 v.1.1.2.2 v.1.2.1.1.1 v.1.2.1.1.2 v.1.2.1.2 v.1.2.2.1 v.1.2.2.2 v.2.1.1.1.1 v.2.1.1.1.2 v.2.1.1.2 v.2.1.2.1.1 v.2.1.2.1.2 v.2.1.2.2 v.2.2.1.1.1 v.2.2.1.1.2 v.2.2.1.2 v.2.2.2.1 v.2.2.2.2
noncomputable section
def tup2 := pk (by walk_at "ne") cx2
@[irreducible]def L:=tup2.1.1.1.1.1
@[irreducible]def h_1:=tup2.1.1.1.1.2
@[irreducible]def tk:=tup2.1.1.1.2
@[irreducible]def o1':=tup2.1.1.2.1.1
@[irreducible]def o2':=tup2.1.1.2.1.2
@[irreducible]def at':=tup2.1.1.2.2
@[irreducible]def h_2:=tup2.1.2.1.1.1
@[irreducible]def na:=tup2.1.2.1.1.2
@[irreducible]def m:=tup2.1.2.1.2
@[irreducible]def s_4:=tup2.1.2.2.1
@[irreducible]def e0:=tup2.1.2.2.2
@[irreducible]def av:=tup2.2.1.1.1.1
@[irreducible]def c':=tup2.2.1.1.1.2
@[irreducible]def oc':=tup2.2.1.1.2
@[irreducible]def ps':=tup2.2.1.2.1.1
@[irreducible]def ndd':=tup2.2.1.2.1.2
@[irreducible]def nd':=tup2.2.1.2.2
@[irreducible]def nn':=tup2.2.2.1.1.1
@[irreducible]def npr':=tup2.2.2.1.1.2
@[irreducible]def np':=tup2.2.2.1.2
@[irreducible]def ne:=tup2.2.2.2.1
@[irreducible]def zi1:=tup2.2.2.2.2
end
theorem main_2 : P2.1 L h_1 tk o1' o2' at' h_2 na m s_4 e0 av c' oc' ps' ndd' nd' nn' npr' np' ne zi1 := by
 intro hn IH kS1 kS2 TB T hb o1 hk0 hnz hpz hdd o2 W hl hd hdz hrt LS0 hv hp hlv hlvn hgl hgz hgs hG hB hR oS X eL lL hlo l1 d1 d2 hp' LS1 dis le0 ap ap2 os_4 ba_4 ho F_6 N_6 hx8
 refine wpAny_pyIter_ascii hx8 ?_
 refine x2_5 (⟨_, _, F_6, rfl, rfl, rfl, rfl⟩ : ∃ m6 td6, Fr g L _ m6 /\ m6 "writer" = some (.ref x) /\ m6 "groups" = some (.ref G) /\ m6 "behind" = some (.ref Bh) /\ m6 "done" = some (.str (Str.ofString "") td6)) fun m6 td6 F_7 v1 v2 v3 v4 => ?_
 have F_8 := (fr_know (x := "writer") (fr_know (x := "groups") (fr_know (x := "behind") (fr_know (x := "done") F_7 v4) v3) v2) v1).push ⟨.type "str_ascii_iterator", none, .fields #[.str (leavesT lv) tl, .int 0 0], #[]⟩
 have N_8 := N_6.push F_6 ⟨.type "str_ascii_iterator", none, .fields #[.str (leavesT lv) tl, .int 0 0], #[]⟩
 have lit := news_lt N_6
 clear F_6 F_7 v1 v2 v3 v4 N_6
 dsimp only at F_8 N_8 lit ⊢
 generalize (Shared.heap _).push _ = h_8 at F_8 N_8 ⊢
 generalize (Heap.objs _).size = it at N_8 lit ⊢
 have lit0 : e0 < it := lit (e0, _) (by k_mem)
 have lit1 : c' < it := lit (c', oc') (by k_mem)
 have oS2 : SrtF 161 [243, P, dx, x, data, t0, decl, ns, pres, L, L + 1, L + 1 + 1, at', e0, it] := ⟨by decide, o1.1, o1.2.1, o1.2.2.1, o1.2.2.2.1, o1.2.2.2.2.1, o1.2.2.2.2.2.1, o1.2.2.2.2.2.2.1, o1.2.2.2.2.2.2.2, by omega, Nat.lt_succ_self _, Nat.lt_succ_self _, by omega, by omega, lit0⟩
 clear lit
 have tb : tB (n + 1) = 5 + 4 * tB n := rfl
 have hgl4 : ∀ g ∈ gs, g.length <= 4 := fun g hg => (hgs g hg).1
 have hgc : ∀ g ∈ gs, ∀ d ∈ g, d ∈ [97, 98, 99, 100] := fun g hg => (hgs g hg).2
 have hout : (ys ++ flushO ds ++ [Str.ofString "<t", Str.ofString ">"]).length <= ys.length + 3 := by
   have := flushO_len ds
   simp only [List.length_append, List.length_cons, List.length_nil]; omega
 have hatl : ∀ i, i <= lv.length -> (toldAt (told gs fg n) gs fg lv (ys ++ flushO ds ++ [Str.ofString "<t", Str.ofString ">"]) i).2.1.length <= ys.length + 3 + i * tB n := fun i hi => by
   have h1 := toldAt_len (rec := told gs fg n) (gs := gs) (fg := fg) (lv := lv) (out := (ys ++ flushO ds ++ [Str.ofString "<t", Str.ofString ">"])) (b := tB n) (fun g hg pC o => told_len hgl4 n g pC o (hgl4 g hg)) i hi
   omega
 have hdl : ∀ i, i <= lv.length -> (toldAt (told gs fg n) gs fg lv (ys ++ flushO ds ++ [Str.ofString "<t", Str.ofString ">"]) i).2.2.length <= 4 * i := by
   intro i
   induction i with
   | zero => intro _; rw [toldAt_zero]; exact Nat.le_refl _
   | succ i ih =>
     intro hi
     have hc : lv[i]? = some lv[i] := List.getElem?_eq_getElem hi
     rw [toldAt_succ hc]
     have := ih (by omega)
     unfold toldStep
     split
     · exact Nat.le_trans this (by omega)
     · split
       · rename_i g2 hq
         have := hgl4 g2 (List.mem_filter.mp (List.mem_of_getLast? hq)).1
         show (_ ++ g2).length <= _
         rw [List.length_append]; omega
       · exact Nat.le_trans this (by omega)
 refine forI lv.length (fun i s' => ∀ Z : Prop, (∀ (l' : List (Str × Tok)) (ps' : Array Value) (m' : Str -> Option Value) (dn : Str) (td : Tok) (c' : Nat) (oc' io o1 : Obj) (ndd' np' nd' nn' npr' : Nat) (done' : Bool), Fr g L s'.heap (fun y => if y = "writer" then some (.ref x) else if y = "groups" then some (.ref G) else if y = "behind" then some (.ref Bh) else if y = "done" then some (.str dn td) else m' y) -> News g L s'.heap [(it, io), (x, instObj 188 dx), (dx, dictOf (wEs wC.params t bm data decl ns pmap pres true done') 18), (data, listOf (strValues l').toArray ndd'), (P, listOf ps' np'), (decl, listOf (its.push (.ref e0)) nd'), (ns, listOf (nss.push (.ref av)) nn'), (pres, listOf (List.replicate (k + 1 + 1) (.bool false)).toArray npr'), (t0, pairObj t1 t2), (161, tabObj (lamTab lamPos c')), (c', oc'), (at', dictOf [] na), (e0, listOf #[] ne), (L + 1 + 1, o1), (L + 1, o2')] -> (io.cls = .type "str_ascii_iterator" /\ io.data = .fields #[.str (leavesT lv) tl, .int i 0]) -> (∃ v, o1.data = .cell v) -> l'.map (·.1) = (toldAt (told gs fg n) gs fg lv (ys ++ flushO ds ++ [Str.ofString "<t", Str.ofString ">"]) i).1.map leafT -> Pcs ps' (toldAt (told gs fg n) gs fg lv (ys ++ flushO ds ++ [Str.ofString "<t", Str.ofString ">"]) i).2.1 -> dn.cps.toList = (toldAt (told gs fg n) gs fg lv (ys ++ flushO ds ++ [Str.ofString "<t", Str.ofString ">"]) i).2.2 -> LS lamPos lamQual (lamTab lamPos c') c' oc' -> (P ≠ c' /\ dx ≠ c' /\ x ≠ c' /\ data ≠ c' /\ t0 ≠ c' /\ decl ≠ c' /\ ns ≠ c' /\ pres ≠ c' /\ 161 ≠ c' /\ @Ne Nat at' c' /\ e0 ≠ c' /\ it ≠ c' /\ L + 1 ≠ c' /\ L + 1 + 1 ≠ c') -> s'.os = s.os -> (AllBare s.gens -> AllBare s'.gens) -> Z) -> Z) ?step ?done 0 (Nat.zero_le _) _ ?init
 case init => exact fun Zq kq => kq [] ps' _ (Str.ofString "") td6 c' oc' _ o1' _ _ _ _ _ _ F_8 (fun q hq => N_8 q (by
     refine (?_ : ∀ q ∈ _, q ∈ _) _ hq
     walk_at "sub")) ⟨rfl, rfl⟩ ⟨_, d1⟩ rfl hp' rfl LS1 ⟨by omega, by omega, by omega, by omega, by omega, by omega, by omega, by omega, by omega, by omega, by omega, by omega, by omega, by omega⟩ os_4 ba_4
 case step =>
   intro i s_5 hi HIq
   refine HIq _ fun l' ps' m' dn td c' oc' io o1 ndd' np' nd' nn' npr' done' F_9 N_9 hcq17 hcq18 hl' hp' hdn LS0' dis' os_5 ba_5 => ?_
   refine x0_2 (hcq17) fun hi1 hi2 => ?_
   try clear hcq17
   refine x1_1 (hcq18) fun ov ho1 => ?_
   try clear hcq18
   have hc : lv[i]? = some lv[i] := List.getElem?_eq_getElem hi
   have hxc : (leavesT lv).cps[i]? = some lv[i] := by show lv.toArray[i]? = _; simp [hi]
   refine x0_3 (toldAt_ok (rec := told gs fg n) (fg := fg) (out := (ys ++ flushO ds ++ [Str.ofString "<t", Str.ofString ">"])) hlv hgc i (Nat.le_of_lt hi)) fun ok1 ok2 ok3 => ?_
   have hatl' := hatl i (Nat.le_of_lt hi)
   have hatm : i * tB n <= 3 * tB n := Nat.mul_le_mul_right _ (by omega)
   have hdl' := hdl i (Nat.le_of_lt hi)
   have hsucc := toldAt_succ (rec := told gs fg n) (gs := gs) (fg := fg) (out := (ys ++ flushO ds ++ [Str.ofString "<t", Str.ofString ">"])) hc
   generalize hst : toldAt (told gs fg n) gs fg lv (ys ++ flushO ds ++ [Str.ofString "<t", Str.ofString ">"]) i = st at hl' hp' hdn ok1 ok2 ok3 hatl' hdl' hsucc
   refine wpAny_pyNext_ascii_item (it := it) ⟨io, (N_9 (it, io) (by k_mem)).1, hi1, hi2⟩ hxc fun h_10 hit' hs' => ⟨_, rfl, ?_⟩
   refine x1_3 (hit') fun io' hio' c1 c2 => ?_
   try clear hit'
   refine x0_2 (news_put (o := io) (o' := io') F_9 N_9 (by k_upd) hs' hio') fun F_10 N_10 => ?_
   refine wpAny_of_eq (rfl : letOwnedTupleGo (.Name _ _) _ _ = pure ()) ?_
   refine wpAny_assign_Name (wpAny_storeName_cell (v₀ := ov) rfl rfl rfl ⟨o1, (N_10 (L + 1 + 1, o1) (by k_mem)).1, ho1⟩ fun h_11 hc_1 hs_1 => ?_)
   refine x1_2 (hc_1) fun o1n ho1n d1n => ?_
   try clear hc_1
   refine x0_2 (news_put (o := o1) (o' := o1n) F_10 N_10 (by k_upd) hs_1 ho1n) fun F_11 N_11 => ?_
   refine told_turn hn IH TB T X hb ho (c' := c') (oc' := oc') ⟨by omega, by omega, by omega, by omega, by omega, by omega, by omega, by omega, by omega, by omega, by omega, by omega⟩ (by omega) (by omega) (by omega) (by omega) dis' F_11 N_11 d1n d2 hl' ok1 (by omega) LS0' hv hp' hdn ok3 (by omega) (List.getElem_mem hi) hlv hlvn hgl hgz hgs hG hB fun s_6 c_2 oc_2 l_2 ps_2 m_2 dn_2 td_2 ndd_2 nd_2 nn_2 npr_2 np_2 done_2 F_12 N_12 hl_2 hp_2 hdn_2 LS_2 dis_2 os_6 ba_6 => ?_
   rw [<- hsucc] at hl_2 hp_2 hdn_2
   exact fun Zq kq => kq l_2 ps_2 m_2 dn_2 td_2 c_2 oc_2 io' o1n ndd_2 np_2 nd_2 nn_2 npr_2 done_2 F_12 N_12 ⟨c1, c2⟩ ⟨_, d1n⟩ hl_2 hp_2 hdn_2 LS_2 dis_2 (os_6.trans os_5) (fun z => ba_6 (ba_5 z))
 case done =>
   intro s_5 HIq
   refine HIq _ fun l' ps' m' dn td c' oc' io o1 ndd' np' nd' nn' npr' done' F_9 N_9 hcq17 hcq18 hl' hp' hdn LS0' dis' os_5 ba_5 => ?_
   refine x0_2 (hcq17) fun hi1 hi2 => ?_
   try clear hcq17
   refine x1_1 (hcq18) fun ov ho1 => ?_
   try clear hcq18
   refine wpAny_pyNext_ascii_end (it := it) rfl ⟨io, (N_9 (it, io) (by k_mem)).1, hi1, hi2⟩ (by show lv.toArray[lv.length]? = none; simp) fun h_10 he => ⟨rfl, ?_⟩
   refine x0_2 (news_drop F_9 N_9 he (by k_all)) fun F_10 N_10 => ?_
   dsimp only
   k_steps
   unfold Stop
   rename Fr g L _ _ => F_11
   rename News g L _ _ => N_11
   have N_12 : News g L _ ([(x, instObj 188 dx), (dx, dictOf (wEs wC.params t bm data decl ns pmap pres true done') 18), (data, listOf (strValues l').toArray ndd'), (P, listOf ps' np'), (decl, listOf (its.push (.ref e0)) nd'), (ns, listOf (nss.push (.ref av)) nn'), (pres, listOf (List.replicate (k + 1 + 1) (.bool false)).toArray npr'), (t0, pairObj t1 t2)] ++ [(161, tabObj (lamTab lamPos c')), (c', oc'), (e0, listOf #[] ne)]) := fun q hq => N_11 q (by
     refine (?_ : ∀ q ∈ _, q ∈ _) _ hq
     walk_at "sub")
   have off : offLL [(x, instObj 188 dx), (dx, dictOf (wEs wC.params t bm data decl ns pmap pres true done') 18), (data, listOf (strValues l').toArray ndd'), (P, listOf ps' np'), (decl, listOf (its.push (.ref e0)) nd'), (ns, listOf (nss.push (.ref av)) nn'), (pres, listOf (List.replicate (k + 1 + 1) (.bool false)).toArray npr'), (t0, pairObj t1 t2)] [(161, tabObj (lamTab lamPos c')), (c', oc'), (e0, listOf #[] ne)] := by
     simp only [offLL, offL, and_true]; omega
   refine x0_2 (base_of F_11 N_12) fun W_12 k_12 => ?_
   have he0 : (hideAll _ ([(x, instObj 188 dx), (dx, dictOf (wEs wC.params t bm data decl ns pmap pres true done') 18), (data, listOf (strValues l').toArray ndd'), (P, listOf ps' np'), (decl, listOf (its.push (.ref e0)) nd'), (ns, listOf (nss.push (.ref av)) nn'), (pres, listOf (List.replicate (k + 1 + 1) (.bool false)).toArray npr'), (t0, pairObj t1 t2)].map (·.1))).IsList e0 #[] := ⟨_, hideAll_get _ (N_12 (e0, listOf #[] ne) (by k_mem)).1 (offLL.mp off (e0, listOf #[] ne) (by k_mem)), rfl, _, rfl⟩
   refine x0_3 (toldAt_ok (rec := told gs fg n) (fg := fg) (out := (ys ++ flushO ds ++ [Str.ofString "<t", Str.ofString ">"])) hlv hgc lv.length (Nat.le_refl _)) fun ok1 ok2 ok3 => ?_
   have hatl' := hatl lv.length (Nat.le_refl _)
   have hatm : lv.length * tB n <= 4 * tB n := Nat.mul_le_mul_right _ (by omega)
   refine callC 3 (c_end (p := pC) (loose := looseC) (mg := mgC) (mb := mbC) (T.keeps k_12) (Frag.In.keeps X k_12) (BoundAt.keeps hb k_12) (by omega) (by omega) (by omega) (by omega) (W_12 _ rfl) hl' ok1 (by omega) ((hv.push k_12 he0).mono (by omega)) hp' fun s_13 ps_3 ndd_3 nd_3 nn_3 npr_3 np_3 done_3 PP hp_3 => ?_) rfl
     (dp3 n) (un3 n)
   refine x0_2 (WP.back2 PP F_11 N_12 (offLL.mp off)) fun F_13 N_13 => ?_
   have os_13 := PP.os
   have ba_13 := PP.bare
   dsimp only
   k_steps
   refine hR _ c' oc' ps_3 ndd_3 nd_3 nn_3 npr_3 np_3 done_3 ⟨F_13.keep, fun q hq => ?_, os_13.trans os_5, fun z => ba_13 (ba_5 z)⟩ ?_ LS0' (by omega)
   · have z := N_13 q (by
       refine (?_ : ∀ q ∈ _, q ∈ _) _ hq
       walk_at "sub")
     exact ⟨z.1, z.2.2⟩
   · rw [told_succ]; exact hp_3
theorem main_1 : P1.1 n g s x dx bm P data decl ns pmap pres t0 G Bh t root done R its nd nn npr np ndd k d nss ps l ds ys t1 t2 tl cd oc pst lv gl gs fg := P2.2 ⟨fun a0 a1 a2 a3 a4 a5 a6 a7 a8 a9 a10 a11 a12 a13 a14 a15 a16 a17 a18 a19 a20 a21 => pk_all (p := cx2) (by with_unfolding_all exact main_2) (((((a0, a1), a2), ((a3, a4), a5)), (((a6, a7), a8), (a9, a10))), ((((a11, a12), a13), ((a14, a15), a16)), (((a17, a18), a19), (a20, a21))))⟩
theorem main : Stm pC looseC mgC mbC wC := P1.2 ⟨fun a0 a1 a2 a3 a4 a5 a6 a7 a8 a9 a10 a11 a12 a13 a14 a15 a16 a17 a18 a19 a20 a21 a22 a23 a24 a25 a26 a27 a28 a29 a30 a31 a32 a33 a34 a35 a36 a37 a38 a39 a40 a41 => pk_all (p := cx1) (by with_unfolding_all exact main_1) ((((((a0, a1), a2), ((a3, a4), a5)), (((a6, a7), a8), (a9, a10))), ((((a11, a12), a13), (a14, a15)), (((a16, a17), a18), (a19, a20)))), (((((a21, a22), a23), ((a24, a25), a26)), (((a27, a28), a29), (a30, a31))), ((((a32, a33), a34), (a35, a36)), (((a37, a38), a39), (a40, a41)))))⟩
end c_told_stepH
theorem c_told_step  : c_told_stepH.Stm p loose mg mb w := pk_all (p := c_told_stepH.cx) (by with_unfolding_all exact c_told_stepH.main) (((p, loose), mg), (mb, w))
theorem c_told (n : Nat) (h : n <= 4) : ToldC p loose mg mb w n := by
 induction n with
 | zero =>
   clear h
   unfold ToldC
   intros
   rename 0 < List.length _ /\ _ => hv
   exact absurd (Nat.lt_of_lt_of_le hv.1 hv.2.2) (Nat.lt_irrefl 0)
 | succ n ih => exact c_told_step n (by omega) (ih (by omega))
end
end Mine
end
section
namespace Mine
noncomputable abbrev wE17 (P : Params) (t : Nat -> Tok) (bm data decl ns pmap pres : Nat) (root done : Bool) : List DictEntry :=
 [⟨PyData.keyHash P "_write", .str "_write" (t 0), .ref bm⟩, ⟨PyData.keyHash P "_data", .str "_data" (t 1), .ref data⟩,
  ⟨PyData.keyHash P "_with_comments", .str "_with_comments" (t 2), .bool false⟩, ⟨PyData.keyHash P "_strip_text", .str "_strip_text" (t 3), .bool false⟩,
  ⟨PyData.keyHash P "_exclude_attrs", .str "_exclude_attrs" (t 4), .none⟩, ⟨PyData.keyHash P "_exclude_tags", .str "_exclude_tags" (t 5), .none⟩,
  ⟨PyData.keyHash P "_rewrite_prefixes", .str "_rewrite_prefixes" (t 6), .bool false⟩, ⟨PyData.keyHash P "_qname_aware_tags", .str "_qname_aware_tags" (t 7), .none⟩,
  ⟨PyData.keyHash P "_find_qname_aware_attrs", .str "_find_qname_aware_attrs" (t 8), .none⟩, ⟨PyData.keyHash P "_declared_ns_stack", .str "_declared_ns_stack" (t 9), .ref decl⟩,
  ⟨PyData.keyHash P "_ns_stack", .str "_ns_stack" (t 10), .ref ns⟩, ⟨PyData.keyHash P "_prefix_map", .str "_prefix_map" (t 11), .ref pmap⟩,
  ⟨PyData.keyHash P "_preserve_space", .str "_preserve_space" (t 12), .ref pres⟩, ⟨PyData.keyHash P "_pending_start", .str "_pending_start" (t 13), .none⟩,
  ⟨PyData.keyHash P "_root_seen", .str "_root_seen" (t 14), .bool root⟩, ⟨PyData.keyHash P "_root_done", .str "_root_done" (t 15), .bool done⟩,
  ⟨PyData.keyHash P "_ignored_depth", .str "_ignored_depth" (t 16), .int 0 (t 17)⟩]
section
local macro_rules | `(tactic| walk_at "call builtin:dict.items") => mGo "h ; show wpAny _ _ ( call _ ( List.cons ( Value.ref 82 ) List.nil ) ) _ _ _ ; ref Mine.items_view ?p ?F ?N ?_ | p:a F:k N:k ; intro D' h' F' N' l1 ; klt l1"
local macro_rules | `(tactic| walk_at "call type:list") => mGo "h ; ref Mine.list_view ?r ?p ?F ?N ?hv ?_ | r:r p:a F:k N:k hv:m ; intro B' vs' c' h' tk' F' N' l1 ; klt l1"
local macro_rules | `(tactic| walk_at "getMethod ref") => mGo "h ; show wpAny _ _ ( getMethod ( Value.ref 82 ) ( Str.ofString \"items ) _ ) _ _ _ ; ref Mine.items_method name:=items ?p ?F ?_ | p:a F:k"
namespace c_initH
noncomputable def Stm (pC : Program) (looseC : List Str) (mgC mbC : Str -> Option Value) (w : World) (g : Heap) (s : Shared) (x dx bm : Nat) (R : Result -> Shared -> Prop) : Prop := ∀  (l1 : dx < x) (T : TopRead pC looseC mgC mbC g) (X : (Mine.mk.heap_1 w.params).In g) (W : WH g s [(x, instObj 188 dx), (dx, dictOf [] 0)]) (hR : ∀ s' (data t0 l0 decl ns B e pmap pres : Nat) (t : Nat -> Tok) t1 t2 vs nB n0 n1 n2 n3 n4 n5 n6, WP g s s' [(x, instObj 188 dx), (dx, dictOf (wE17 w.params t bm data decl ns pmap pres false false) 17), (data, listOf #[] n0), (t0, pairObj t1 t2), (l0, listOf #[.ref t0] n1), (decl, listOf #[.ref l0] n2), (ns, listOf #[.ref B, .ref e] n3), (B, listOf vs nB), (e, listOf #[] n4), (pmap, dictOf [] n5), (pres, listOf #[.bool false] n6)] ->
    x < data /\ data < t0 /\ t0 < l0 /\ l0 < decl /\ decl < ns /\ ns < B /\ B < e /\ e < pmap /\ pmap < pres -> R (.ok (.ret .none)) s'), codeAny (model Challenge.rw_kl0462_01.prog w) (AL 3) (.call (.ref 105) ⟨[.ref x, .ref bm], []⟩) R s
noncomputable def cx (v : (((Program × (List Str)) × (Str -> Option Value)) × (((Str -> Option Value) × World) × Heap)) × (((Shared × Nat) × Nat) × (Nat × (Result -> Shared -> Prop)))) : Prop := Stm v.1.1.1.1 v.1.1.1.2 v.1.1.2 v.1.2.1.1 v.1.2.1.2 v.1.2.2 v.2.1.1.1 v.2.1.1.2 v.2.1.2 v.2.2.1 v.2.2.2
noncomputable section
def tup := pk (by walk_at "ne") cx
@[irreducible]def pC:=tup.1.1.1.1
@[irreducible]def looseC:=tup.1.1.1.2
@[irreducible]def mgC:=tup.1.1.2
@[irreducible]def mbC:=tup.1.2.1.1
@[irreducible]def w:=tup.1.2.1.2
@[irreducible]def g:=tup.1.2.2
@[irreducible]def s:=tup.2.1.1.1
@[irreducible]def x:=tup.2.1.1.2
@[irreducible]def dx:=tup.2.1.2
@[irreducible]def bm:=tup.2.2.1
@[irreducible]def R:=tup.2.2.2
end
noncomputable def P1 : {PQ : Addr -> Heap -> Nat -> Heap -> Addr -> Heap -> Heap -> Nat -> Heap -> Heap -> Heap -> Heap -> Heap -> Prop // Hold (∀ a0 a1 a2 a3 a4 a5 a6 a7 a8 a9 a10 a11 a12, PQ a0 a1 a2 a3 a4 a5 a6 a7 a8 a9 a10 a11 a12) -> Stm pC looseC mgC mbC w g s x dx bm R} := ⟨_, by
 intro hPk
 intro l1 T X W hR
 have kS1 : Key "exec If" := trivial
 have kS2 : Key "call builtin:list.append" := trivial
 have kS3 : Key "eval Dict nil nil" := trivial
 revert X
 k_fill
 intro X
 refine' callW (binds := [("self", .ref x), ("write", .ref bm), ("with_comments", .bool false), ("strip_text", .bool false), ("rewrite_prefixes", .bool false), ("qname_aware_tags", .none), ("qname_aware_attrs", .none), ("exclude_attrs", .none), ("exclude_tags", .none)]) W X T.nolimit ?ho ?hcd (by decide) ?bi ?lo ?_ ?c1 ?c2 ?c3 ?c4
 case ho => k_is
 case hcd => k_is
 case bi => exact kp_binds (X.keeps W.keep) fun _ => rfl
 case lo => exact locs rfl
 case c1 => rfl
 case c2 => rfl
 case c3 => rfl
 case c4 => decide
 intro L h_1 F N eL up
 k_steps
 unfold Stop
 clear kS1
 rename_i zi1 zi2 zi3 zi4 zi5 zi6 zi7 zi8 zi9 zi10 zi11 zi12 zi13
 repeat (rename (_ : Prop) => hZ; revert hZ)
 intro hPk
 apply hPk.out L h_1 zi1 zi2 zi3 zi4 zi6 tk zi7 zi8 zi9 zi10 zi11
 ⟩
noncomputable def cx1 (v : (((Addr × Heap) × (Nat × Heap)) × ((Addr × Heap) × Heap)) × (((Nat × Heap) × Heap) × ((Heap × Heap) × Heap))) : Prop := P1.1 v.1.1.1.1 v.1.1.1.2 v.1.1.2.1 v.1.1.2.2 v.1.2.1.1 v.1.2.1.2 v.1.2.2 v.2.1.1.1 v.2.1.1.2 v.2.1.2 v.2.2.1.1 v.2.2.1.2 v.2.2.2
noncomputable section
def tup1 := pk (by walk_at "ne") cx1
@[irreducible]def L:=tup1.1.1.1.1
@[irreducible]def h_1:=tup1.1.1.1.2
@[irreducible]def zi1:=tup1.1.1.2.1
@[irreducible]def zi2:=tup1.1.1.2.2
@[irreducible]def zi3:=tup1.1.2.1.1
@[irreducible]def zi4:=tup1.1.2.1.2
@[irreducible]def zi6:=tup1.1.2.2
@[irreducible]def tk:=tup1.2.1.1.1
@[irreducible]def zi7:=tup1.2.1.1.2
@[irreducible]def zi8:=tup1.2.1.2
@[irreducible]def zi9:=tup1.2.2.1.1
@[irreducible]def zi10:=tup1.2.2.1.2
@[irreducible]def zi11:=tup1.2.2.2
end
noncomputable def P2 : {PQ : Nat -> Heap -> Nat -> Heap -> Addr -> Heap -> Addr -> Heap -> Addr -> Heap -> Heap -> Nat -> Addr -> Heap -> Heap -> Nat -> Nat -> Heap -> Nat -> (Array Value) -> Nat -> Heap -> Nat -> Prop // Hold (∀ a0 a1 a2 a3 a4 a5 a6 a7 a8 a9 a10 a11 a12 a13 a14 a15 a16 a17 a18 a19 a20 a21 a22, PQ a0 a1 a2 a3 a4 a5 a6 a7 a8 a9 a10 a11 a12 a13 a14 a15 a16 a17 a18 a19 a20 a21 a22) -> P1.1 L h_1 zi1 zi2 zi3 zi4 zi6 tk zi7 zi8 zi9 zi10 zi11} := ⟨_, by
 intro hPk
 intro l1 T W hR kS2 kS3 X eL up _ _ _
 k_steps
 unfold Stop
 clear kS2
 rename_i zi1 zi2 zi3 zi4 zi5 zi6 zi7 zi8 zi9 zi10 zi11 zi12 zi13 zi14 zi15 zi16 zi17 zi18 zi19 zi20 zi21 zi22 zi23 zi24 zi25 zi26 zi27 zi28 zi29 zi30 zi31 zi32 zi33 zi34 zi35
 repeat (rename (_ : Prop) => hZ; revert hZ)
 intro hPk
 apply hPk.out zi2 zi3 zi4 zi5 zi6 zi7 zi9 zi10 zi12 zi13 zi15 zi16 zi17 zi18 zi20 tk zi23 zi24 zi28 zi29 zi30 zi31 zi32
 ⟩
noncomputable def cx2 (v : ((((Nat × Heap) × Nat) × ((Heap × Addr) × Heap)) × (((Addr × Heap) × Addr) × ((Heap × Heap) × Nat))) × ((((Addr × Heap) × Heap) × ((Nat × Nat) × Heap)) × (((Nat × (Array Value)) × Nat) × (Heap × Nat)))) : Prop := P2.1 v.1.1.1.1.1 v.1.1.1.1.2 v.1.1.1.2 v.1.1.2.1.1 v.1.1.2.1.2 v.1.1.2.2 v.1.2.1.1.1 v.1.2.1.1.2 v.1.2.1.2 v.1.2.2.1.1 v.1.2.2.1.2 v.1.2.2.2 v.2.1.1.1.1 v.2.1.1.1.2 v.2.1.1.2 v.2.1.2.1.1 v.2.1.2.1.2 v.2.1.2.2 v.2.2.1.1.1 v.2.2.1.1.2 v.2.2.1.2 v.2.2.2.1 v.2.2.2.2
noncomputable section
def tup2 := pk (by walk_at "ne") cx2
@[irreducible]def zi2_2:=tup2.1.1.1.1.1
@[irreducible]def zi3_2:=tup2.1.1.1.1.2
@[irreducible]def zi4_2:=tup2.1.1.1.2
@[irreducible]def zi5:=tup2.1.1.2.1.1
@[irreducible]def zi6_2:=tup2.1.1.2.1.2
@[irreducible]def zi7_2:=tup2.1.1.2.2
@[irreducible]def zi9_2:=tup2.1.2.1.1.1
@[irreducible]def zi10_2:=tup2.1.2.1.1.2
@[irreducible]def zi12:=tup2.1.2.1.2
@[irreducible]def zi13:=tup2.1.2.2.1.1
@[irreducible]def zi15:=tup2.1.2.2.1.2
@[irreducible]def zi16:=tup2.1.2.2.2
@[irreducible]def zi17:=tup2.2.1.1.1.1
@[irreducible]def zi18:=tup2.2.1.1.1.2
@[irreducible]def zi20:=tup2.2.1.1.2
@[irreducible]def tk_2:=tup2.2.1.2.1.1
@[irreducible]def zi23:=tup2.2.1.2.1.2
@[irreducible]def zi24:=tup2.2.1.2.2
@[irreducible]def zi28:=tup2.2.2.1.1.1
@[irreducible]def zi29:=tup2.2.2.1.1.2
@[irreducible]def zi30:=tup2.2.2.1.2
@[irreducible]def zi31:=tup2.2.2.2.1
@[irreducible]def zi32:=tup2.2.2.2.2
end
theorem main_2 : P2.1 zi2_2 zi3_2 zi4_2 zi5 zi6_2 zi7_2 zi9_2 zi10_2 zi12 zi13 zi15 zi16 zi17 zi18 zi20 tk_2 zi23 zi24 zi28 zi29 zi30 zi31 zi32 := by
 intro l1 T W hR kS3 X eL up _ _ _ _ _ _ _ _ _ _ _ _ _
 k_steps
 unfold Stop
 clear kS3
 k_steps
 rename Fr g L _ _ => F_1
 rename News g L _ _ => N_1
 rename Obj.IsDictOf (PySem.strKind _ _) _ [] => hs
 refine x1_1 (isDict_nil hs) fun n5 e5 => ?_
 subst e5
 refine' hR _ ?data ?t0 ?l0 ?decl ?ns ?B ?e ?pmap ?pres (fun i => [?a0, ?a1, ?a2, ?a3, ?a4, ?a5, ?a6, ?a7, ?a8, ?a9, ?a10, ?a11, ?a12, ?a13, ?a14, ?a15, ?a16, ?a17].getD i 0) ?t1 ?t2 ?vs ?nB ?n0 ?n1 ?n2 ?n3 ?n4 ?n5 ?n6 ⟨F_1.keep, ?N, rfl, id⟩ ?ord
 case N => repeat' (first | exact List.forall_mem_nil _ | (refine List.forall_mem_cons.mpr ⟨let z := N_1 _ (by k_mem); ⟨z.1, z.2.2⟩, ?_⟩))
 case ord => omega
theorem main_1 : P1.1 L h_1 zi1 zi2 zi3 zi4 zi6 tk zi7 zi8 zi9 zi10 zi11 := P2.2 ⟨fun a0 a1 a2 a3 a4 a5 a6 a7 a8 a9 a10 a11 a12 a13 a14 a15 a16 a17 a18 a19 a20 a21 a22 => pk_all (p := cx2) (by with_unfolding_all exact main_2) (((((a0, a1), a2), ((a3, a4), a5)), (((a6, a7), a8), ((a9, a10), a11))), ((((a12, a13), a14), ((a15, a16), a17)), (((a18, a19), a20), (a21, a22))))⟩
theorem main : Stm pC looseC mgC mbC w g s x dx bm R := P1.2 ⟨fun a0 a1 a2 a3 a4 a5 a6 a7 a8 a9 a10 a11 a12 => pk_all (p := cx1) (by with_unfolding_all exact main_1) ((((a0, a1), (a2, a3)), ((a4, a5), a6)), (((a7, a8), a9), ((a10, a11), a12)))⟩
end c_initH
theorem c_init {w g s x dx bm R} : c_initH.Stm p loose mg mb w g s x dx bm R := pk_all (p := c_initH.cx) (by with_unfolding_all exact c_initH.main) ((((p, loose), mg), ((mb, w), g)), (((s, x), dx), (bm, R)))
end
end Mine
end
section
namespace Mine
noncomputable abbrev boundApp (l : Addr) : Obj := { cls := .type "builtin_function_or_method", data := .fields #[.builtin "list.append", .ref l] }
theorem slot_mdget : Slot "method_descriptor" "__get__" "method_descriptor.__get__" :=
 .of (owner := "method_descriptor") (n := "__get__") (by rw [typeLookup_type, builtinLookup_eq_fast]; kernel_rfl) (by decide +kernel) (by decide +kernel) (by decide +kernel)
   (by first | exact .inl (by decide +kernel) | exact .inr (by decide +kernel)) (by rw [isSubtype_type]; kernel_rfl)
theorem entry_mdget : entryFor table "method_descriptor.__get__" = some Builtin.«method_descriptor.__get__» := entryFor_of_tree (by kernel_rfl)
theorem args_mdget (a b c : Value) : argsOk "method_descriptor.__get__" ⟨[a, b, c], []⟩ := by unfold argsOk; kernel_rfl
theorem owner_app : (kfb_private% "ownerAndName") "list.append" = ("list", "append") := by first | decide +kernel | kernel_rfl
theorem told_app : Manifest.toldItsClass.contains "list.append" = false := by decide +kernel
section
variable {prog : Program} {w : World} {M : Model} {A : Around} {E : Value -> Shared -> Prop} {s : Shared} {h₀ : Heap} {L : Addr} {m : PySem.Str -> Option Value} {news : List (Addr × Obj)} {l : Addr}
theorem run_mdget {P : Fin -> Shared -> Prop} (hT : s.TypeIs (.ref l) "list") (h : P (.done (.ret (.ref s.heap.objs.size))) { s with heap := s.heap.push (boundApp l) }) :
   wpAny M A (Builtin.«method_descriptor.__get__» ⟨[.builtin "list.append", .ref l, .type "list"], []⟩) P E s := by
 unfold Builtin.«method_descriptor.__get__»
 refine wpAny_bind (wpAny_of_eq (a := (.builtin "list.append", some (.ref l), some (.type "list"))) (by first | rfl | kernel_rfl) ?_)
 dsimp only
 rw [told_app]
 refine wpAny_bind (m := (kfb_private% "checkInstance") (.builtin "list.append") (.ref l)) ?_
 refine wpAny_bind (m := (kfb_private% "nameAndClass") (.builtin "list.append")) ?_
 refine wpAny_of_eq (a := (("append" : Str), Value.type "list")) (by
   show (pure (((kfb_private% "ownerAndName") "list.append").2, Value.type ((kfb_private% "ownerAndName") "list.append").1) : Sem (Str × Value)) = _
   rw [owner_app]) ?_
 refine wpAny_bind (wpAny_isInstance (b := true) hT AutoSeq1.sub_list_list ?_)
 refine wpAny_of_eq (a := ()) rfl ?_
 exact wpAny_bind (wpAny_newObj_type (wpAny_pure h))
theorem type_md : typeOf (.builtin "list.append") = pure (.type "method_descriptor") := PySem.F.type_list_append
theorem md_set : typeLookup (.type "method_descriptor") "__set__" = pure none := by rw [typeLookup_type, builtinLookup_eq_fast]; kernel_rfl
theorem md_del : typeLookup (.type "method_descriptor") "__delete__" = pure none := by rw [typeLookup_type, builtinLookup_eq_fast]; kernel_rfl
theorem copied_app : (["__module__", "__name__", "__qualname__", "__doc__", "__annotations__"] : List Str).contains (Str.ofString "append") = false := by decide +kernel
theorem meets_ga_append (a : Addr) (xs : Array Value) (k : Nat) (sl : Array (Option Value)) (u : Tok) :
   Meets (Builtin.«object.__getattribute__» ⟨[.ref a, .str (Str.ofString "append") u], []⟩) (fun A R s => s.heap.get? a = some { cls := .type "list", dict := none, data := .seq xs k, slots := sl } /\ R (.ok (.ret (.ref s.heap.objs.size))) { s with heap := s.heap.push (boundApp a) }) :=
 Meets.of_wp fun prog w A R s hs => by
   obtain ⟨hp, g, d, tk, os⟩ := (s)
   try clear s
   revert hs; intro hoq
   refine x0_2 (hoq) fun hx hs => ?_
   try clear hoq
   have hT : (⟨hp, g, d, tk, os⟩ : Shared).TypeIs (.ref a) "list" := ⟨_, hx, rfl⟩
   have f1 := PySem.F.slot_list_append.lookup
   have f2 := type_md
   have f3 := slot_mdget.lookup
   have f4 := md_set
   have f5 := md_del
   have f6 := copied_app
   unfold Builtin.«object.__getattribute__»
   repeat (any_goals (first | assumption | wp_step))
   refine codeAny_call_builtin slot_mdget.plain entry_mdget (slot_mdget.check _ _ _ _ _ _ _ _ type_md (args_mdget _ _ _) (run_mdget hT ?_))
   exact wpAny_pure ⟨_, rfl, hs⟩
theorem getAttr_append {Q : Value -> Shared -> Prop} {its : Array Value} {n : Nat} (hx : s.heap.get? l = some (PySem.W.listOf its n)) (h : ∀ tk, Q (.ref s.heap.objs.size) { s with heap := s.heap.push (boundApp l), toks := tk }) :
   wpAny (model prog w) A (getAttr (.ref l) (Str.ofString "append") true) Q E s := by
 obtain ⟨hp, g, d, tk, os⟩ := (s)
 try clear s
 have hT : ∀ tk', (⟨hp, g, d, tk', os⟩ : Shared).TypeIs (.ref l) "list" := fun _ => ⟨_, hx, rfl⟩
 have f3 := PySem.F.slot_list_getattribute.lookup
 have f4 := PySem.F.slot_list_getattribute.bind (.ref l)
 have f5 := am_list_getattr_none
 unfold getAttr getAttrBy
 repeat (any_goals (first | assumption | exact hT _ | ((with_reducible show wpAny _ _ (call (Value.builtin "list.__getattribute__") _ _) _ _ _); refine call_meets PySem.F.slot_list_getattribute (hT _) am_entry_list_getattribute (PySem.F.args_list_getattribute_2 _ _) (meets_ga_append l its n #[] _) ⟨hx, ?_⟩) | wp_step))
 exact wpAny_pure (h _)
theorem append_attr {Q : Value -> Shared -> Prop} {its : Array Value} {n : Nat} (F : Fr h₀ L s.heap m) (N : News h₀ L s.heap news) (hm : (l, PySem.W.listOf its n) ∈ news)
   (h : ∀ (q : Nat) h' tk, Fr h₀ L h' m -> News h₀ L h' ((q, boundApp l) :: news) -> (∀ p ∈ news, p.1 < q) -> Q (.ref q) { s with heap := h', toks := tk }) :
   wpAny (model prog w) A (getAttr (.ref l) (Str.ofString "append") true) Q E s :=
 getAttr_append (N _ hm).1 fun tk => h _ _ tk (F.push _) (News.push F N _ rfl) fun q hq => Heap.lt_size (N q hq).1
end
end Mine
end
section
namespace Mine
noncomputable def lvOf (tn : Int) : List Nat := [97, 98, 99, 100].drop (tn.fmod 4).toNat ++ [97, 98, 99, 100].take (tn.fmod 4).toNat
noncomputable def fgOf (nu : Int) (c : Nat) : Nat := ((nu.fdiv ((4 ^ (c - 97) : Nat) : Int)).fmod 4).toNat
theorem valueAt_cons (q : Str × Value) (r : List (Str × Value)) (k : Str) : valueAt (q :: r) k = if q.1 = k then some q.2 else valueAt r k := by
 unfold valueAt
 rw [List.find?_cons]
 by_cases h : q.1 = k
 · rw [if_pos h]; simp [h]
 · rw [if_neg h]; simp [h]
theorem valueAt_mapW (k : Str) (v : Value) (k' : Str) : ∀ kvs : List (Str × Value), valueAt (kvs.map fun kv => if kv.1 = k then (kv.1, v) else kv) k' = if k' = k /\ kvs.any (fun kv => kv.1 = k) = true then some v else valueAt kvs k'
 | [] => by simp [valueAt]
 | q :: r => by
   rw [List.map_cons, valueAt_cons, valueAt_cons, valueAt_mapW k v k' r, List.any_cons]
   by_cases h1 : q.1 = k
   · subst h1
     by_cases h2 : q.1 = k'
     · subst h2; simp
     · have h3 : ¬ k' = q.1 := fun e => h2 e.symm
       simp [h2, h3]
   · by_cases h2 : q.1 = k'
     · subst h2; simp [h1]
     · rw [if_neg h1, if_neg h2, if_neg h2, decide_eq_false h1, Bool.false_or]
theorem sign_item {prog : Program} {w : World} {A : Around} {E : Value -> Shared -> Prop} {s : Shared} {g : Heap} {L : Addr} {news : List (Addr × Obj)} {value slice : PySem.Expr} {l : Addr} {a b c d u : Tok} {n : Nat} {x : Int} {Q : Value -> Shared -> Prop}
   (N : News g L s.heap news) (hm : (l, PySem.W.listOf #[.str (Str.ofString "") a, .str (Str.ofString "\"(\"") b, .str (Str.ofString "\")\"") c, .str (Str.ofString "\"<\"") d] n) ∈ news) (h : ∀ t, Q (.str ⟨(sgn (x.fmod 4).toNat).toArray⟩ t) s)
   (hs : subscripted slice false (.ref l) (.int (x.fmod 4) u) = operate [.ref l, .int (x.fmod 4) u] (getItem (.ref l) (.int (x.fmod 4) u)) := by with_unfolding_all rfl) :
   wpAny (model prog w) A (subscriptTail value slice (.ref l) (.int (x.fmod 4) u)) Q E s := by
 have hl := News.isList N hm
 have h0 : 0 <= x.fmod 4 := Int.fmod_nonneg_of_pos _ (by decide)
 have h4 : x.fmod 4 < 4 := Int.fmod_lt_of_pos _ (by decide)
 have e0 : Str.ofString "" = ⟨(sgn 0).toArray⟩ := by decide +kernel
 have e1 : Str.ofString "\"(\"" = ⟨(sgn 1).toArray⟩ := by decide +kernel
 have e2 : Str.ofString "\")\"" = ⟨(sgn 2).toArray⟩ := by decide +kernel
 have e3 : Str.ofString "\"<\"" = ⟨(sgn 3).toArray⟩ := by decide +kernel
 rw [e0, e1, e2, e3] at hl
 have key : ∃ t, (#[.str ⟨(sgn 0).toArray⟩ a, .str ⟨(sgn 1).toArray⟩ b, .str ⟨(sgn 2).toArray⟩ c, .str ⟨(sgn 3).toArray⟩ d] : Array Value)[(x.fmod 4).toNat]? = some (.str ⟨(sgn (x.fmod 4).toNat).toArray⟩ t) := by
   generalize x.fmod 4 = y at h0 h4
   rcases (by omega : y = 0 \/ y = 1 \/ y = 2 \/ y = 3) with rfl | rfl | rfl | rfl
   · exact ⟨a, rfl⟩
   · exact ⟨b, rfl⟩
   · exact ⟨c, rfl⟩
   · exact ⟨d, rfl⟩
 refine x1_1 (key) fun t ht => ?_
 try clear key
 exact tail_any hl.typeIs slot_list_getitem.lookup (wpAny_getItem_list hl h0 (by omega) ht (h t)) hs
theorem valueAt_stored (kvs : List (Str × Value)) (k : Str) (v : Value) (k' : Str) : valueAt (stored kvs k v) k' = if k' = k then some v else valueAt kvs k' := by
 unfold stored
 by_cases h : kvs.any (fun kv => kv.1 = k) = true
 · rw [if_pos h, valueAt_mapW, h]; simp
 · rw [if_neg h]
   induction kvs with
   | nil =>
     show valueAt ([] ++ [(k, v)]) k' = _
     rw [List.nil_append, valueAt_cons]
     by_cases e : k' = k
     · subst e; simp
     · rw [if_neg (fun z => e z.symm), if_neg e]
   | cons q r ih =>
     rw [List.any_cons] at h
     have h1 : ¬ q.1 = k := fun e => h (by simp [e])
     have h2 : ¬ r.any (fun kv => kv.1 = k) = true := fun e => h (by rw [e]; simp)
     rw [List.cons_append, valueAt_cons, ih h2, valueAt_cons]
     by_cases e : k' = k
     · subst e; rw [if_neg h1, if_pos rfl, if_pos rfl]
     · rw [if_neg e, if_neg e]
section
local macro_rules | `(tactic| walk_at "getAttr ref") => mGo "h ; show wpAny _ _ ( getAttr ( Value.ref _ ) ( Str.ofString \"append ) true ) _ _ _ ; ref Mine.append_attr ?F ?N ?m ?_ | F:k N:k m:m ; intro q' h' tk' F' N' l1 ; klt l1"
local macro_rules | `(tactic| walk_at "callWith type:enumerate") => mGo "all Pv.callWith_type1 ?_"
namespace c_writtenH
noncomputable def Stm (pC : Program) (looseC : List Str) (mgC mbC : Str -> Option Value) (w : World) (g : Heap) (s : Shared) (G cd : Nat) (pst : Array Value) (tn nu : Int) (t u : Tok) (gl : List (Str × Tok)) (gs : List (List Nat)) (R : Result -> Shared -> Prop) : Prop := ∀ {oc : Obj} (TB : TopB pC looseC mgC mbC g) (T : TopRead pC looseC mgC mbC g) (X : (Mine.mk.heap_1 w.params).In g) (o2 : 161 ≠ cd) (W : WH g s [(161, tabObj pst), (cd, oc)]) (LS0 : LS lamPos lamQual pst cd oc) (hG : g.IsList G (strValues gl).toArray) (hgl : gl.map (·.1) = gs.map leavesT) (hgz : gs.length <= 10) (hgs : ∀ g ∈ gs, g.length <= 4 /\ ∀ d ∈ g, d ∈ [97, 98, 99, 100]) (hR : ∀ s' (c' P : Nat) oc' ps np, WP g s s' [(161, tabObj (lamTab lamPos c')), (c', oc'), (P, listOf ps np)] -> Pcs ps (told gs (fgOf nu) 4 (lvOf tn) [] []) -> LS lamPos lamQual (lamTab lamPos c') c' oc' -> 161 ≠ c' /\ P ≠ c' -> s.heap.objs.size <= P -> R (.ok (.ret (.ref P))) s'), codeAny (model Challenge.rw_kl0462_01.prog w) (AL 9) (.call (.ref 226) ⟨[.ref G, .int tn t, .int nu u], []⟩) R s
noncomputable def cx (v : ((((Program × (List Str)) × (Str -> Option Value)) × ((Str -> Option Value) × World)) × ((Heap × Shared) × (Nat × Nat))) × ((((Array Value) × Int) × (Int × Tok)) × ((Tok × (List (Str × Tok))) × ((List (List Nat)) × (Result -> Shared -> Prop))))) : Prop := Stm v.1.1.1.1.1 v.1.1.1.1.2 v.1.1.1.2 v.1.1.2.1 v.1.1.2.2 v.1.2.1.1 v.1.2.1.2 v.1.2.2.1 v.1.2.2.2 v.2.1.1.1 v.2.1.1.2 v.2.1.2.1 v.2.1.2.2 v.2.2.1.1 v.2.2.1.2 v.2.2.2.1 v.2.2.2.2
noncomputable section
def tup := pk (by walk_at "ne") cx
@[irreducible]def pC:=tup.1.1.1.1.1
@[irreducible]def looseC:=tup.1.1.1.1.2
@[irreducible]def mgC:=tup.1.1.1.2
@[irreducible]def mbC:=tup.1.1.2.1
@[irreducible]def w:=tup.1.1.2.2
@[irreducible]def g:=tup.1.2.1.1
@[irreducible]def s:=tup.1.2.1.2
@[irreducible]def G:=tup.1.2.2.1
@[irreducible]def cd:=tup.1.2.2.2
@[irreducible]def pst:=tup.2.1.1.1
@[irreducible]def tn:=tup.2.1.1.2
@[irreducible]def nu:=tup.2.1.2.1
@[irreducible]def t:=tup.2.1.2.2
@[irreducible]def u:=tup.2.2.1.1
@[irreducible]def gl:=tup.2.2.1.2
@[irreducible]def gs:=tup.2.2.2.1
@[irreducible]def R:=tup.2.2.2.2
end
noncomputable def P1 : {PQ : Obj -> Nat -> Heap -> Nat -> Obj -> Obj -> Addr -> Heap -> Heap -> Obj -> Nat -> Prop // Hold (∀ a0 a1 a2 a3 a4 a5 a6 a7 a8 a9 a10, PQ a0 a1 a2 a3 a4 a5 a6 a7 a8 a9 a10) -> Stm pC looseC mgC mbC w g s G cd pst tn nu t u gl gs R} := ⟨_, by
 intro hPk
 intro oc TB T X o2 W LS0 hG hgl hgz hgs hR
 have kS1 : KX := trivial
 have kS2 : Key "subscriptTail Name BinOp ref int" := trivial
 have kS3 : Key "exec Assign cons DictComp" := trivial
 have kS4 : Key "call type:enumerate" := trivial
 have kS5 : Key "call ref" := trivial
 revert X
 k_fill
 intro X
 refine' callCW (binds := [("groups", .ref G), ("turn", .int tn t), ("number", .int nu u)]) W X T.nolimit ?ho ?hcd (by decide) ?bi ?lo ?nd ?_ ?c1 ?c2 ?c3
 case ho => k_is
 case hcd => k_is
 case bi => exact BindsTo.of_eq rfl
 case lo => rfl
 case nd => decide +kernel
 case c1 => rfl
 case c2 => rfl
 case c3 => rfl
 intro L h_1 tk cells F N Y eL lL
 k_lt lL
 k_cells Y
 simp only [List.cons_append, List.nil_append] at N
 k_steps
 unfold Stop
 rename_i zi1 zi2 zi3 zi4 zi5 zi6 zi7 zi8 zi9 zi10 zi11 zi12 zi13
 repeat (rename (_ : Prop) => hZ; revert hZ)
 intro hPk
 apply hPk.out oc L h_1 zi1 zi2 zi3 zi6 zi7 zi9 zi10 tk
 ⟩
noncomputable def cx1 (v : (((Obj × Nat) × Heap) × ((Nat × Obj) × Obj)) × (((Addr × Heap) × Heap) × (Obj × Nat))) : Prop := P1.1 v.1.1.1.1 v.1.1.1.2 v.1.1.2 v.1.2.1.1 v.1.2.1.2 v.1.2.2 v.2.1.1.1 v.2.1.1.2 v.2.1.2 v.2.2.1 v.2.2.2
noncomputable section
def tup1 := pk (by walk_at "ne") cx1
@[irreducible]def oc:=tup1.1.1.1.1
@[irreducible]def L:=tup1.1.1.1.2
@[irreducible]def h_1:=tup1.1.1.2
@[irreducible]def zi1:=tup1.1.2.1.1
@[irreducible]def zi2:=tup1.1.2.1.2
@[irreducible]def zi3:=tup1.1.2.2
@[irreducible]def zi6:=tup1.2.1.1.1
@[irreducible]def zi7:=tup1.2.1.1.2
@[irreducible]def zi9:=tup1.2.1.2
@[irreducible]def zi10:=tup1.2.2.1
@[irreducible]def tk:=tup1.2.2.2
end
noncomputable def P2 : {PQ : Value -> Heap -> Nat -> Heap -> Nat -> (List (Str × Value)) -> Obj -> (Str -> Option Value) -> Obj -> Addr -> Heap -> Heap -> Nat -> Nat -> Heap -> Nat -> Addr -> Addr -> Heap -> Shared -> Nat -> Nat -> Nat -> Nat -> Nat -> Nat -> Nat -> Nat -> Nat -> (Nat -> Tok) -> Tok -> Tok -> (Array Value) -> Nat -> Nat -> Nat -> Nat -> Nat -> Nat -> Nat -> Nat -> Prop // Hold (∀ a0 a1 a2 a3 a4 a5 a6 a7 a8 a9 a10 a11 a12 a13 a14 a15 a16 a17 a18 a19 a20 a21 a22 a23 a24 a25 a26 a27 a28 a29 a30 a31 a32 a33 a34 a35 a36 a37 a38 a39 a40, PQ a0 a1 a2 a3 a4 a5 a6 a7 a8 a9 a10 a11 a12 a13 a14 a15 a16 a17 a18 a19 a20 a21 a22 a23 a24 a25 a26 a27 a28 a29 a30 a31 a32 a33 a34 a35 a36 a37 a38 a39 a40) -> P1.1 oc L h_1 zi1 zi2 zi3 zi6 zi7 zi9 zi10 tk} := ⟨_, by
 intro hPk
 intro TB T o2 W LS0 hG hgl hgz hgs hR kS1 kS2 kS3 kS4 kS5 X eL lL _ _ _ _ _ _
 refine asg_pairD (h₀ := g) (by with_unfolding_all rfl) rfl (by decide) rfl (by decide) rfl rfl (by decide) rfl rfl rfl ?_
 k_steps
 unfold Stop
 rename Fr g L _ _ => F_1
 rename News g L _ _ => N_1
 rename Obj.data _ = Data.cell (bindC _ _ _ _) => dN
 replace dN : Obj.data _ = Data.cell (some (Value.int nu u)) := dN
 refine iter_enum_str rfl F_1 N_1 (by decide +kernel) (by decide +kernel) fun itv h_2 S => ?_
 refine ⟨_, _, _, _, fun i kvs => kvs.length <= i /\ ∀ j, j < i -> ∃ t, valueAt kvs ⟨#[97 + j]⟩ = some (.str ⟨(sgn (fgOf nu (97 + j))).toArray⟩ t), S, ⟨Nat.le_refl _, fun j hj => absurd hj (Nat.not_lt_zero j)⟩, fun i ys h => h.1, fun C i v s_3 m_3 E' ys hi hv hI F_3 N_3 ⟨ti, e1⟩ e2 => ?_, fun D h' tk' ys o F_4 isd N_4 neD hI => ?_⟩
 · have hi4 : i < 4 := hi
   refine x2_2 (hv) fun c uc hc hcz3 => ?_
   try clear hv
   cases hcz3
   have hc2 : c = 97 + i := by
     have e : (Str.ofString "abcd").cps = #[97, 98, 99, 100] := by decide +kernel
     rw [e] at hc
     rcases (by omega : i = 0 \/ i = 1 \/ i = 2 \/ i = 3) with rfl | rfl | rfl | rfl <;> (simp at hc; omega)
   subst hc2
   refine loc_X F_3 e2 ⟨_, _, rfl, ⟨_, _, rfl, fun _ _ e => e⟩, ?_⟩ rfl rfl rfl (by decide)
   refine wpAny_mono (Q := fun y s_5 => Hold (Keeps s_3 s_5 /\ ∃ t, y = .str ⟨(sgn (fgOf nu (97 + i))).toArray⟩ t)) ?_ (fun y s_5 hy => ?_) fun _ _ z => z
   · have F_5 := fr_know (x := "leaf") (fr_know (x := "k") F_3 e1) e2
     clear F_3 e1 e2 F_1 N_1 S
     rcases (by omega : i = 0 \/ i = 1 \/ i = 2 \/ i = 3) with rfl | rfl | rfl | rfl
     all_goals k_steps
     all_goals unfold Stop
     all_goals refine sign_item (by assumption) (by k_mem) fun t => ⟨⟨⟨_, _, rfl, fun _ _ e => e⟩, ⟨t, ?_⟩⟩⟩
     all_goals rfl
   · obtain ⟨hk, t, hcz2⟩ := (hy.out)
     cases hcz2
     refine i0_3 hk ?_ ?_
     · exact Nat.le_trans (stored_length_le _ _ _) (Nat.succ_le_succ hI.1)
     · intro j hj
       rw [valueAt_stored]
       by_cases e : j = i
       · subst e; exact ⟨t, if_pos rfl⟩
       · rw [if_neg (fun z => e (by simpa using z))]
         exact hI.2 j (by omega)
 · have hI2 := hI.2
   refine x1_4 (⟨_, F_4, rfl, rfl, rfl⟩ : ∃ m2, Fr g L h' m2 /\ m2 "groups" = some (.ref G) /\ m2 "turn" = some (.int tn t) /\ m2 "behind" = some (.ref D)) fun m2 F_5 w1 w2 w3 => ?_
   have F_6 := fr_know (x := "groups") (fr_know (x := "turn") (fr_know (x := "behind") F_5 w3) w2) w1
   obtain ⟨on, N_6⟩ : ∃ on, News g L h' [(D, o), (L + 1, on), (161, tabObj pst), (cd, oc)] := ⟨_, fun q hq => N_4 q (by
     refine (?_ : ∀ q ∈ _, q ∈ _) _ hq
     walk_at "sub")⟩
   have n3 := neD (L + 1, _) (by k_mem)
   have n1 := neD (161, _) (by k_mem)
   have n2 := neD (cd, _) (by k_mem)
   clear F_1 F_4 F_5 w1 w2 w3 N_1 N_4 S neD
   dsimp only at n1 n2 n3 ⊢
   k_steps
   unfold Stop
   rename Fr g L _ _ => F_7
   rename News g L _ _ => N_7
   rename_i P h_3 l3 h_4 Fo No bm h_5 tk_5 l5
   refine wpAny_call (make_K (fI := 105) F_7 N_7 (Frag.In.keeps X F_7.keep) (by k_is) (by k_is) (by k_is) fun x dx h_6 F_8 N_8 l6 l7 => ?_)
   have N_9 : News g L h_6 ([(x, instObj 188 dx), (dx, dictOf [] 0)] ++ [(bm, boundApp P), (P, listOf #[] 0), (D, o), (L + 1, on), (161, tabObj pst), (cd, oc)]) := fun q hq => N_8 q (by
     refine (?_ : ∀ q ∈ _, q ∈ _) _ hq
     walk_at "sub")
   have l8 : bm < dx := l6 (bm, _) (by k_mem)
   have l9 : cd < dx := l6 (cd, oc) (by k_mem)
   have l10 : 161 < dx := l6 (161, _) (by k_mem)
   have l11 : D < dx := l6 (D, _) (by k_mem)
   have l12 : L + 1 < dx := l6 (L + 1, on) (by k_mem)
   have l7' : @LT.lt Nat _ dx x := l7
   have l6a := ltAll_of l6
   dsimp only [List.map] at l6a
   have l6x := LtAll.up l6a l7'
   have off : offLL [(x, instObj 188 dx), (dx, dictOf [] 0)] [(bm, boundApp P), (P, listOf #[] 0), (D, o), (L + 1, on), (161, tabObj pst), (cd, oc)] := by
     simp only [offLL, offL, and_true]; omega
   refine x0_2 (base_of F_8 N_9) fun W_9 k_9 => ?_
   refine code_lift (B := AL 3) (c_init (p := pC) (loose := looseC) (mg := mgC) (mb := mbC) l7' (T.keeps k_9) (Frag.In.keeps X k_9) (W_9 _ rfl) fun s_10 data t0 l0 decl ns B e pmap pres tt t1 t2 vs nB n0 n1' n2' n3' n4 n5 n6 PP ord => ?_) rfl (by exact Nat.le_of_ble_eq_true rfl) rfl rfl (by exact Nat.le_of_ble_eq_true rfl)
   refine x0_2 (WP.back2 PP F_8 N_9 (offLL.mp off)) fun F_10 N_10 => ?_
   have oS : SrtF P [bm, dx, x, data, t0, l0, decl, ns, B, e, pmap, pres] := ⟨by omega, l8, l7', ord⟩
   have h243 : 243 < L := by
     have hg := Nat.le_trans F_8.above (Nat.le_refl _)
     exact Nat.lt_of_lt_of_le (Heap.lt_size (X 243 _ (by k_is))) hg
   have h4 : ∀ y : Int, 0 <= y -> y < 4 -> Txt.slice (Str.ofString "abcd") (some y) none = ⟨([97, 98, 99, 100].drop y.toNat).toArray⟩ /\ Txt.slice (Str.ofString "abcd") none (some y) = ⟨([97, 98, 99, 100].take y.toNat).toArray⟩ := fun y h0 h1 => by
     rcases (by omega : y = 0 \/ y = 1 \/ y = 2 \/ y = 3) with rfl | rfl | rfl | rfl <;> decide +kernel
   refine x0_2 (h4 (tn.fmod 4) (Int.fmod_nonneg_of_pos _ (by decide)) (Int.fmod_lt_of_pos _ (by decide))) fun hs1 hs2 => ?_
   have hs3 : (⟨([97, 98, 99, 100].drop (tn.fmod 4).toNat).toArray⟩ : Str).length <= 4 := by show (List.toArray _).size <= 4; simp
   have hs4 : (⟨([97, 98, 99, 100].take (tn.fmod 4).toNat).toArray⟩ : Str).length <= 4 := by show (List.toArray _).size <= 4; simp; omega
   have hlv0 : (⟨([97, 98, 99, 100].drop (tn.fmod 4).toNat).toArray⟩ ++ ⟨([97, 98, 99, 100].take (tn.fmod 4).toNat).toArray⟩ : Str) = leavesT (lvOf tn) := by
     show (⟨_ ++ _⟩ : Str) = ⟨_⟩
     unfold lvOf
     simp
   simp only [List.cons_append, List.nil_append] at N_10
   have os_10 := PP.os
   have ba_10 := PP.bare
   clear F_7 N_7 Fo No F_8 N_8 PP W_9 k_9 off
   rename_i zi1 zi2 zi3
   repeat (rename (_ : Prop) => hZ; revert hZ)
   intro hPk
   apply hPk.out itv h_2 D h' tk' ys o m2 on P h_3 h_4 tk bm h_5 tk_5 x dx h_6 s_10 data t0 l0 decl ns B e pmap pres tt t1 t2 vs nB n0 n1' n2' n3' n4 n5 n6
 ⟩
noncomputable def cx2 (v : (((((Value × Heap) × Nat) × ((Heap × Nat) × (List (Str × Value)))) × (((Obj × (Str -> Option Value)) × Obj) × (Addr × Heap))) × ((((Heap × Nat) × Nat) × (Heap × Nat)) × (((Addr × Addr) × Heap) × (Shared × Nat)))) × (((((Nat × Nat) × Nat) × (Nat × Nat)) × (((Nat × Nat) × Nat) × ((Nat -> Tok) × Tok))) × ((((Tok × (Array Value)) × Nat) × (Nat × Nat)) × (((Nat × Nat) × Nat) × (Nat × Nat))))) : Prop := P2.1 v.1.1.1.1.1.1 v.1.1.1.1.1.2 v.1.1.1.1.2 v.1.1.1.2.1.1 v.1.1.1.2.1.2 v.1.1.1.2.2 v.1.1.2.1.1.1 v.1.1.2.1.1.2 v.1.1.2.1.2 v.1.1.2.2.1 v.1.1.2.2.2 v.1.2.1.1.1.1 v.1.2.1.1.1.2 v.1.2.1.1.2 v.1.2.1.2.1 v.1.2.1.2.2 v.1.2.2.1.1.1 v.1.2.2.1.1.2 v.1.2.2.1.2 v.1.2.2.2.1 v.1.2.2.2.2 v.2.1.1.1.1.1 v.2.1.1.1.1.2 v.2.1.1.1.2 v.2.1.1.2.1 v.2.1.1.2.2 v.2.1.2.1.1.1 v.2.1.2.1.1.2 v.2.1.2.1.2 v.2.1.2.2.1 v.2.1.2.2.2 v.2.2.1.1.1.1 v.2.2.1.1.1.2 v.2.2.1.1.2 v.2.2.1.2.1 v.2.2.1.2.2 v.2.2.2.1.1.1 v.2.2.2.1.1.2 v.2.2.2.1.2 v.2.2.2.2.1 v.2.2.2.2.2
noncomputable section
def tup2 := pk (by walk_at "ne") cx2
@[irreducible]def itv:=tup2.1.1.1.1.1.1
@[irreducible]def h_2:=tup2.1.1.1.1.1.2
@[irreducible]def D:=tup2.1.1.1.1.2
@[irreducible]def h':=tup2.1.1.1.2.1.1
@[irreducible]def tk':=tup2.1.1.1.2.1.2
@[irreducible]def ys:=tup2.1.1.1.2.2
@[irreducible]def o:=tup2.1.1.2.1.1.1
@[irreducible]def m2:=tup2.1.1.2.1.1.2
@[irreducible]def on:=tup2.1.1.2.1.2
@[irreducible]def P:=tup2.1.1.2.2.1
@[irreducible]def h_3:=tup2.1.1.2.2.2
@[irreducible]def h_4:=tup2.1.2.1.1.1.1
@[irreducible]def tk_2:=tup2.1.2.1.1.1.2
@[irreducible]def bm:=tup2.1.2.1.1.2
@[irreducible]def h_5:=tup2.1.2.1.2.1
@[irreducible]def tk_5:=tup2.1.2.1.2.2
@[irreducible]def x:=tup2.1.2.2.1.1.1
@[irreducible]def dx:=tup2.1.2.2.1.1.2
@[irreducible]def h_6:=tup2.1.2.2.1.2
@[irreducible]def s_10:=tup2.1.2.2.2.1
@[irreducible]def data:=tup2.1.2.2.2.2
@[irreducible]def t0:=tup2.2.1.1.1.1.1
@[irreducible]def l0:=tup2.2.1.1.1.1.2
@[irreducible]def decl:=tup2.2.1.1.1.2
@[irreducible]def ns:=tup2.2.1.1.2.1
@[irreducible]def B:=tup2.2.1.1.2.2
@[irreducible]def e:=tup2.2.1.2.1.1.1
@[irreducible]def pmap:=tup2.2.1.2.1.1.2
@[irreducible]def pres:=tup2.2.1.2.1.2
@[irreducible]def tt:=tup2.2.1.2.2.1
@[irreducible]def t1:=tup2.2.1.2.2.2
@[irreducible]def t2:=tup2.2.2.1.1.1.1
@[irreducible]def vs:=tup2.2.2.1.1.1.2
@[irreducible]def nB:=tup2.2.2.1.1.2
@[irreducible]def n0:=tup2.2.2.1.2.1
@[irreducible]def n1':=tup2.2.2.1.2.2
@[irreducible]def n2':=tup2.2.2.2.1.1.1
@[irreducible]def n3':=tup2.2.2.2.1.1.2
@[irreducible]def n4:=tup2.2.2.2.1.2
@[irreducible]def n5:=tup2.2.2.2.2.1
@[irreducible]def n6:=tup2.2.2.2.2.2
end
theorem main_2 : P2.1 itv h_2 D h' tk' ys o m2 on P h_3 h_4 tk_2 bm h_5 tk_5 x dx h_6 s_10 data t0 l0 decl ns B e pmap pres tt t1 t2 vs nB n0 n1' n2' n3' n4 n5 n6 := by
   intro TB T o2 W LS0 hG hgl hgz hgs hR kS1 kS2 kS3 kS4 kS5 X eL lL _ _ _ dN isd hI hI2 n3 n1 n2 l3 l5 l6 l7 N_9 l8 l9 l10 l11 l12 l7' l6a l6x ord F_10 N_10 oS h243 h4 hs1 hs2 hs3 hs4 hlv0 os_10 ba_10
   refine ⟨rfl, ?_⟩
   dsimp only
   k_steps
   rw [hs1, hs2]
   k_steps
   unfold Stop
   rw [hlv0]
   rename Fr g L _ _ => F_11
   rename News g L _ _ => N_11
   obtain ⟨t18, N_12⟩ : ∃ t18, News g L _ ([(x, instObj 188 dx), (dx, dictOf (wEs w.params (fun i => if i = 18 then t18 else tt i) bm data decl ns pmap pres false false) 18), (data, listOf (strValues []).toArray n0), (P, listOf #[] 0), (decl, listOf #[.ref l0] n2'), (ns, listOf #[.ref B, .ref e] n3'), (pres, listOf (List.replicate (0 + 1) (.bool false)).toArray n6), (t0, pairObj t1 t2), (161, tabObj pst), (cd, oc)] ++ [(l0, listOf #[.ref t0] n1'), (pmap, dictOf [] n5), (bm, boundApp P), (D, o)]) := ⟨_, fun q hq => N_11 q (by
     refine (?_ : ∀ q ∈ _, q ∈ _) _ hq
     walk_at "sub")⟩
   have n7 : D ≠ cd := by omega
   have off : offLL [(x, instObj 188 dx), (dx, dictOf (wEs w.params (fun i => if i = 18 then t18 else tt i) bm data decl ns pmap pres false false) 18), (data, listOf (strValues []).toArray n0), (P, listOf #[] 0), (decl, listOf #[.ref l0] n2'), (ns, listOf #[.ref B, .ref e] n3'), (pres, listOf (List.replicate (0 + 1) (.bool false)).toArray n6), (t0, pairObj t1 t2), (161, tabObj pst), (cd, oc)] [(l0, listOf #[.ref t0] n1'), (pmap, dictOf [] n5), (bm, boundApp P), (D, o)] := by
     simp only [offLL, offL, and_true]; omega
   refine x0_2 (base_of F_11 N_12) fun W_12 k_12 => ?_
   have hl0 : (hideAll _ ([(x, instObj 188 dx), (dx, dictOf (wEs w.params (fun i => if i = 18 then t18 else tt i) bm data decl ns pmap pres false false) 18), (data, listOf (strValues []).toArray n0), (P, listOf #[] 0), (decl, listOf #[.ref l0] n2'), (ns, listOf #[.ref B, .ref e] n3'), (pres, listOf (List.replicate (0 + 1) (.bool false)).toArray n6), (t0, pairObj t1 t2), (161, tabObj pst), (cd, oc)].map (·.1))).IsList l0 #[.ref t0] := ⟨_, hideAll_get _ (N_12 (l0, listOf #[.ref t0] n1') (by k_mem)).1 (offLL.mp off (l0, listOf #[.ref t0] n1') (by k_mem)), rfl, _, rfl⟩
   have hbm : BoundAt "list.append" (.ref P) bm (hideAll _ ([(x, instObj 188 dx), (dx, dictOf (wEs w.params (fun i => if i = 18 then t18 else tt i) bm data decl ns pmap pres false false) 18), (data, listOf (strValues []).toArray n0), (P, listOf #[] 0), (decl, listOf #[.ref l0] n2'), (ns, listOf #[.ref B, .ref e] n3'), (pres, listOf (List.replicate (0 + 1) (.bool false)).toArray n6), (t0, pairObj t1 t2), (161, tabObj pst), (cd, oc)].map (·.1))) := ⟨_, _, _, hideAll_get _ (N_12 (bm, boundApp P) (by k_mem)).1 (offLL.mp off (bm, boundApp P) (by k_mem)), rfl, rfl⟩
   have hBh : Behind (hideAll _ ([(x, instObj 188 dx), (dx, dictOf (wEs w.params (fun i => if i = 18 then t18 else tt i) bm data decl ns pmap pres false false) 18), (data, listOf (strValues []).toArray n0), (P, listOf #[] 0), (decl, listOf #[.ref l0] n2'), (ns, listOf #[.ref B, .ref e] n3'), (pres, listOf (List.replicate (0 + 1) (.bool false)).toArray n6), (t0, pairObj t1 t2), (161, tabObj pst), (cd, oc)].map (·.1))) Challenge.rw_kl0462_01.prog w D (fgOf nu) := ⟨ys, Heap.dictOf_iff.mpr ⟨o, hideAll_get _ (N_12 (D, o) (by k_mem)).1 (offLL.mp off (D, o) (by k_mem)), isd⟩, fun c hc => by
     simp only [List.mem_cons, List.not_mem_nil, or_false] at hc
     rcases hc with rfl | rfl | rfl | rfl
     · exact hI2 0 (by decide +kernel)
     · exact hI2 1 (by decide +kernel)
     · exact hI2 2 (by decide +kernel)
     · exact hI2 3 (by decide +kernel)⟩
   have hlv : ∀ c ∈ lvOf tn, c ∈ [97, 98, 99, 100] := fun c hc => by
     rcases List.mem_append.mp hc with hc | hc
     · exact List.mem_of_mem_drop hc
     · exact List.mem_of_mem_take hc
   have hll : (lvOf tn).length = 4 := by
     have h0 := Int.fmod_nonneg_of_pos tn (b := 4) (by decide)
     have h1 := Int.fmod_lt_of_pos tn (b := 4) (by decide)
     unfold lvOf
     simp; omega
   refine callC 8 (c_told (p := pC) (loose := looseC) (mg := mgC) (mb := mbC) (w := w) 4 (by decide) (k := 0) (d := 1) (TB.keeps k_12) (T.keeps k_12) (Frag.In.keeps X k_12) hbm (by omega) (by decide) (by show 2 + 4 <= 900; decide) (by decide) (by decide) (by omega) (W_12 _ rfl) (l := []) (ds := []) rfl (fun d hd => nomatch hd) (by decide) (fun h => absurd rfl h) LS0
     ⟨fun _ => l0, fun _ => #[.ref t0], fun j hj => ⟨by rw [show j = 0 from Nat.lt_one_iff.mp hj]; rfl, hl0⟩, Nat.le_refl _, rfl⟩ Pcs.nil hlv ⟨by omega, by omega, by omega⟩ hgl hgz hgs (hG.at fun o e => k_12 _ o e) hBh fun s_13 c' oc' ps' ndd' nd' nn' npr' np' done' PP hp' LS1 dis => ?_)
   refine x0_2 (WP.back2 PP F_11 N_12 (offLL.mp off)) fun F_13 N_13 => ?_
   have os_13 := PP.os
   have ba_13 := PP.bare
   dsimp only
   k_steps
   refine hR s_13 c' P oc' ps' np' ⟨F_13.keep, fun q hq => ?_, os_13.trans os_10, fun z => ba_13 (ba_10 z)⟩ hp' LS1 ⟨by omega, by omega⟩ (by omega)
   have z := N_13 q (by
     refine (?_ : ∀ q ∈ _, q ∈ _) _ hq
     walk_at "sub")
   exact ⟨z.1, z.2.2⟩
theorem main_1 : P1.1 oc L h_1 zi1 zi2 zi3 zi6 zi7 zi9 zi10 tk := P2.2 ⟨fun a0 a1 a2 a3 a4 a5 a6 a7 a8 a9 a10 a11 a12 a13 a14 a15 a16 a17 a18 a19 a20 a21 a22 a23 a24 a25 a26 a27 a28 a29 a30 a31 a32 a33 a34 a35 a36 a37 a38 a39 a40 => pk_all (p := cx2) (by with_unfolding_all exact main_2) ((((((a0, a1), a2), ((a3, a4), a5)), (((a6, a7), a8), (a9, a10))), ((((a11, a12), a13), (a14, a15)), (((a16, a17), a18), (a19, a20)))), (((((a21, a22), a23), (a24, a25)), (((a26, a27), a28), (a29, a30))), ((((a31, a32), a33), (a34, a35)), (((a36, a37), a38), (a39, a40)))))⟩
theorem main : Stm pC looseC mgC mbC w g s G cd pst tn nu t u gl gs R := P1.2 ⟨fun a0 a1 a2 a3 a4 a5 a6 a7 a8 a9 a10 => pk_all (p := cx1) (by with_unfolding_all exact main_1) ((((a0, a1), a2), ((a3, a4), a5)), (((a6, a7), a8), (a9, a10)))⟩
end c_writtenH
theorem c_written {w g s G cd pst tn nu t u gl gs R} : c_writtenH.Stm p loose mg mb w g s G cd pst tn nu t u gl gs R := pk_all (p := c_writtenH.cx) (by with_unfolding_all exact c_writtenH.main) (((((p, loose), mg), (mb, w)), ((g, s), (G, cd))), (((pst, tn), (nu, t)), ((u, gl), (gs, R))))
end
end Mine
end
section
namespace Mine
noncomputable def costP (a b : Str) : Int := if a = b then 0 else if Txt.lower a = Txt.lower b then 1 else 2
theorem costP_0 {a b : Str} (h : (a == b) = true) : costP a b = 0 := by rw [costP, if_pos (beq_iff_eq.mp h)]
theorem costP_1 {a b : Str} (h : (a == b) = false) (h' : (Txt.lower a == Txt.lower b) = true) : costP a b = 1 := by
 rw [costP, if_neg (by simpa using h), if_pos (beq_iff_eq.mp h')]
theorem costP_2 {a b : Str} (h : (a == b) = false) (h' : (Txt.lower a == Txt.lower b) = false) : costP a b = 2 := by
 rw [costP, if_neg (by simpa using h), if_neg (by simpa using h')]
theorem c_subst {w : World} {s : Shared} {a b : Str} {t u : Tok} {R : Result -> Shared -> Prop} (T : TopRead p loose mg mb s.heap) (X : (Mine.mk.heap_1 w.params).In s.heap)
  (ha : a.length <= 1000) (hb : b.length <= 1000)
  (hR : ∀ v s', (∃ tk, v = .int (costP a b) tk) -> Keeps s s' -> R (.ok (.ret v)) s') :
  codeAny (model Challenge.rw_kl0462_01.prog w) (AL 0) (.call (.ref 45) ⟨[.str a t, .str b u], []⟩) R s := by
 revert X
 k_fill
 intro X
 refine callF X T.nolimit (by k_is) (by k_is) (by decide) (binds := [("ch_a", .str a t), ("ch_b", .str b u)]) (BindsTo.of_eq rfl) (locs rfl) ?_
 intro L h_1 F eL
 have T' := T.keeps F.keep
 have X' := Frag.In.keeps X F.keep
 k_steps
 · exact hR _ _ ⟨_, congrArg (fun z => Value.int z _) (costP_0 (by assumption)).symm⟩ ⟨_, _, rfl, F.keep⟩
 · exact hR _ _ ⟨_, congrArg (fun z => Value.int z _) (costP_1 (by assumption) (by assumption)).symm⟩ ⟨_, _, rfl, F.keep⟩
 · exact hR _ _ ⟨_, congrArg (fun z => Value.int z _) (costP_2 (by assumption) (by assumption)).symm⟩ ⟨_, _, rfl, F.keep⟩
theorem c_isnon {w : World} {s : Shared} {x : Int} {t : Tok} {R : Result -> Shared -> Prop} (T : TopRead p loose mg mb s.heap) (X : (Mine.mk.heap_1 w.params).In s.heap)
  (hR : ∀ v s', v = .bool (decide (256 <= x)) -> Keeps s s' -> R (.ok (.ret v)) s') :
  codeAny (model Challenge.rw_kl0462_01.prog w) (AL 0) (.call (.ref 76) ⟨[.int x t], []⟩) R s := by
 revert X
 k_fill
 intro X
 refine callF X T.nolimit (by k_is) (by k_is) (by decide) (binds := [("x", .int x t)]) (BindsTo.of_eq rfl) (locs rfl) ?_
 intro L h_1 F eL
 have T' := T.keeps F.keep
 have X' := Frag.In.keeps X F.keep
 k_steps
 exact hR _ _ rfl ⟨_, _, rfl, F.keep⟩
end Mine
end
section
namespace Mine
noncomputable def intV : Value -> Int
 | .int k _ => k
 | _ => 0
noncomputable def intsAt (h : Heap) : Value -> List Int
 | .ref a => match h.get? a with
   | some o => match o.data with
     | .seq xs _ => xs.toList.map intV
     | _ => []
   | none => []
 | _ => []
theorem ints_map {vs : List Value} {ls : List Int} (h : IntsAre vs ls) : vs.map intV = ls := by
 induction h with
 | nil => rfl
 | cons k t r ih => rw [List.map_cons, ih]; rfl
theorem intsAt_of {h : Heap} {a : Addr} {ws : List Value} {n : Nat} {l : List Int} (e : h.get? a = some (listOf ws.toArray n)) (hi : IntsAre ws l) : intsAt h (.ref a) = l := by
 show (match h.get? a with
   | some o => match o.data with
     | .seq xs _ => xs.toList.map intV
     | _ => []
   | none => []) = l
 rw [e]
 exact ints_map hi
theorem OnLed.ints {h₀ h : Heap} {L : Addr} {md : List (Addr × Obj)} (N : News h₀ L h md) : ∀ {vs : List Value} {ls : List (List Int)}, OnLed md vs ls -> vs.map (intsAt h) = ls
 | [], [], _ => rfl
 | _ :: _, _ :: _, ⟨⟨a, ws, n, e1, h1, i⟩, r⟩ => by
   rw [List.map_cons, OnLed.ints N r, e1, intsAt_of (N _ h1).1 i]
 | [], _ :: _, h => h.elim
 | _ :: _, [], h => h.elim
theorem OnLed.at {md : List (Addr × Obj)} : ∀ {vs : List Value} {ls : List (List Int)}, OnLed md vs ls -> ∀ v ∈ vs, ∃ a ws n l, v = .ref a /\ (a, listOf (List.toArray ws) n) ∈ md /\ IntsAre ws l /\ l ∈ ls := by
 intro vs
 induction vs with
 | nil => intro ls h v hv; exact nomatch hv
 | cons v0 vs ih =>
   intro ls h v hv
   cases ls with
   | nil => exact h.elim
   | cons l0 ls =>
     refine x0_2 h fun h0 r => ?_
     rcases List.mem_cons.mp hv with rfl | hv
     · obtain ⟨a, ws, n, e1, h1, i⟩ := h0
       exact i4_4 a ws n _ e1 h1 i List.mem_cons_self
     · refine x4_4 (ih r v hv) fun a ws n l x y z t => ?_
       exact i4_4 a ws n l x y z (List.mem_cons_of_mem _ t)
noncomputable def cntK (rows : List (List Int)) (k : Int) : Nat := (rows.filter fun r => decide (k ∈ r)).length
theorem filter_ints {h : Heap} {rvs : List Value} {rows : List (List Int)} (e : rvs.map (intsAt h) = rows) (k : Int) : (rvs.filter fun v => decide (k ∈ intsAt h v)).length = cntK rows k := by
 unfold cntK
 rw [<- e, List.filter_map, List.length_map]
 rfl
theorem ints_in {k : Int} {ns : List Int} : decide (k ∈ ns) = ns.any (· == k) := by
 rw [Bool.eq_iff_iff, List.any_eq_true, decide_eq_true_eq]
 constructor
 · intro h; exact ⟨k, h, by simp⟩
 · rintro ⟨y, h, e⟩; rw [beq_iff_eq] at e; rwa [<- e]
theorem range_ints (f : Int -> Int) {n a : Nat} {vs ys : List Value} (hl : vs.length = n) (hv : ∀ (j : Nat) v, vs[j]? = some v -> ∃ t, v = .int ((a : Int) + (j : Int) * 1) t) (hp : Paired (fun v y => ∃ k t u, v = .int k t /\ y = .int (f k) u) vs ys) : IntsAre ys ((List.range' a n).map fun k : Nat => f (k : Int)) := by
 induction hp generalizing n a with
 | nil => subst hl; exact .nil
 | cons hy r ih =>
   subst hl
   refine x1_1 (hv 0 _ rfl) fun t e => ?_
   refine x3_2 (hy) fun k t' u e2 hcz4 => ?_
   try clear hy
   cases hcz4
   rw [e] at e2
   cases e2
   rw [List.length_cons, List.range'_succ, List.map_cons]
   have ih2 := ih (a := a + 1) rfl (fun j v h => by
     refine x1_1 (hv (j + 1) v (by simpa using h)) fun t e => ?_
     exact ⟨t, by rw [e]; congr 1; push_cast; omega⟩)
   have e1 : (a : Int) + ((0 : Nat) : Int) * 1 = (a : Int) := by simp
   rw [e1]
   exact .cons _ u ih2
theorem range_strs (f : Int -> Str) {n a : Nat} {vs ys : List Value} (hl : vs.length = n) (hv : ∀ (j : Nat) v, vs[j]? = some v -> ∃ t, v = .int ((a : Int) + (j : Int) * 1) t) (hp : Paired (fun v y => ∃ k t u, v = .int k t /\ y = .str (f k) u) vs ys) : ∃ wl : List (Str × Tok), ys = strValues wl /\ wl.map (·.1) = (List.range' a n).map fun k : Nat => f (k : Int) := by
 induction hp generalizing n a with
 | nil => subst hl; exact ⟨[], rfl, rfl⟩
 | cons hy r ih =>
   subst hl
   refine x1_1 (hv 0 _ rfl) fun t e => ?_
   refine x3_2 (hy) fun k t' u e2 hcz4 => ?_
   try clear hy
   cases hcz4
   rw [e] at e2
   cases e2
   rw [List.length_cons, List.range'_succ, List.map_cons]
   obtain ⟨wl, (rfl), e3⟩ := ih (a := a + 1) rfl (fun j v h => by
     refine x1_1 (hv (j + 1) v (by simpa using h)) fun t e => ?_
     exact ⟨t, by rw [e]; congr 1; push_cast; omega⟩)
   have e1 : (a : Int) + ((0 : Nat) : Int) * 1 = (a : Int) := by simp
   rw [e1]
   exact i1_2 ((f a, u) :: wl) rfl (by rw [List.map_cons, e3])
theorem map_strs (f : Value -> Str) {vs ys : List Value} (h : Paired (fun v y => ∃ u, y = .str (f v) u) vs ys) : ∃ wl : List (Str × Tok), ys = strValues wl /\ wl.map (·.1) = vs.map f := by
 induction h with
 | nil => exact ⟨[], rfl, rfl⟩
 | @cons v _ _ _ hy r ih =>
   refine x1_1 (hy) fun u hcz1 => ?_
   try clear hy
   cases hcz1
   refine x1_2 ih fun wl hcz1 e => ?_
   cases hcz1
   exact i1_2 ((f v, u) :: wl) rfl (by rw [List.map_cons, List.map_cons, e])
theorem flat_single (c : Nat -> Nat) : ∀ l : List Nat, (l.map fun k => (⟨#[c k]⟩ : Str)).flatMap (·.cps.toList) = l.map c
 | [] => rfl
 | a :: l => by
   rw [List.map_cons, List.map_cons, List.flatMap_cons, flat_single c l]
   rfl
theorem sumKK {prog : Program} {w : World} {A : Around} {E : Value -> Shared -> Prop} {s : Shared} {l : Addr} {vs : List Value} {ns : List Int} {Q : Value -> Shared -> Prop} (hh : A.handled = none) (hl : s.heap.IsList l vs.toArray) (hi : IntsAre vs ns)
   (h : ∀ h' tk t', (∀ b o, s.heap.get? b = some o -> h'.get? b = some o) -> Q (.int ns.sum t') { s with heap := h', toks := tk }) :
   wpAny (model prog w) A (call (.builtin "sum") [.ref l]) Q E s := by
 refine x1_1 (hi.allInts.items) fun xs hx => ?_
 have hn : numsOf vs.toArray.toList = ns := by rw [show vs.toArray.toList = vs from rfl, hi.numsOf]
 rw [hx] at hl hn
 rw [nums_intItems] at hn
 refine sum_intListG hh hl fun h' tk t' hk => ?_
 have := h h' tk t' hk
 rw [preSum_eq, List.take_of_length_le (by simp), hn]
 exact this
theorem minKK {prog : Program} {w : World} {A : Around} {E : Value -> Shared -> Prop} {s : Shared} {l : Addr} {vs : List Value} {ns : List Int} {Q : Value -> Shared -> Prop} (hh : A.handled = none) (hl : s.heap.IsList l vs.toArray) (hi : IntsAre vs ns) (hne : 0 < ns.length)
   (h : ∀ h' M (t : Tok) tk, (∀ b o, s.heap.get? b = some o -> h'.get? b = some o) -> M ∈ ns -> (∀ a, a ∈ ns -> M <= a) -> Q (.int M t) { s with heap := h', toks := tk }) :
   wpAny (model prog w) A (call (.builtin "min") [.ref l]) Q E s := by
 refine x1_1 (hi.allInts.items) fun xs e => ?_
 have hns : ns = xs.toList.map (·.1) := by
   rw [<- hi.numsOf, <- nums_intItems, <- e]
 have hsz : 0 < xs.size := by
   have h3 := hne; rw [hns, List.length_map, Array.length_toList] at h3; exact h3
 rw [e] at hl
 refine min_intList hh hl hsz fun v h' tk hv hk => ?_
 refine x1_1 (intItems_at hv) fun t hcz1 => ?_
 cases hcz1
 refine x0_2 (argBest_lt (numAt xs) (xs.size - 1)) fun h1 h2 => ?_
 refine h _ _ t tk hk ?_ fun a ha => ?_
 · rw [hns, numAt_eq]; exact getD_mem (by rw [List.length_map, Array.length_toList]; omega)
 · rw [hns] at ha
   refine x1_2 (mem_getD ha) fun j hj hcz2 => ?_
   cases hcz2
   rw [List.length_map, Array.length_toList] at hj
   rw [<- numAt_eq]; exact h2 j (by omega)
theorem map_ints (f : Value -> Int) {vs ys : List Value} (h : Paired (fun v y => ∃ u, y = .int (f v) u) vs ys) : IntsAre ys (vs.map f) := by
 induction h with
 | nil => exact .nil
 | cons hy r ih =>
   refine x1_1 (hy) fun u hcz1 => ?_
   try clear hy
   cases hcz1
   exact .cons _ u ih
theorem ints_mem {vs : List Value} {ls : List Int} (h : IntsAre vs ls) : ∀ v ∈ vs, ∃ k t, v = .int k t /\ k ∈ ls := by
 induction h with
 | nil => intro v hv; exact nomatch hv
 | cons k t r ih =>
   intro v hv
   rcases List.mem_cons.mp hv with rfl | hv
   · exact i2_2 k t rfl List.mem_cons_self
   · refine x2_2 (ih v hv) fun k' t' e h => ?_
     exact i2_2 k' t' e (List.mem_cons_of_mem _ h)
noncomputable def ldat (l : List Int) : Dat := .list (l.map Dat.int)
theorem datAll_ints {news : List (Addr × Obj)} : ∀ {vs : List Value} {ls : List Int}, IntsAre vs ls -> DatAll news vs (ls.map Dat.int)
 | _, _, .nil => .nil
 | _, _, .cons k t r => .cons (.int k t) (datAll_ints r)
theorem OnLed.dat {md : List (Addr × Obj)} : ∀ {vs : List Value} {ls : List (List Int)}, OnLed md vs ls -> DatAll md vs (ls.map ldat)
 | [], [], _ => .nil
 | _ :: _, _ :: _, ⟨⟨a, ws, n, e1, h1, i⟩, r⟩ => by
   subst e1
   exact .cons (.list h1 (datAll_ints i)) (OnLed.dat r)
 | [], _ :: _, h => h.elim
 | _ :: _, [], h => h.elim
theorem OnLed.filt {h₀ h : Heap} {L : Addr} {md : List (Addr × Obj)} (q : List Int -> Bool) (N : News h₀ L h md) : ∀ {vs : List Value} {ls : List (List Int)}, OnLed md vs ls -> OnLed md (vs.filter fun v => q (intsAt h v)) (ls.filter q)
 | [], [], _ => trivial
 | _ :: _, _ :: _, ⟨⟨a, ws, n, e1, h1, i⟩, r⟩ => by
   subst e1
   rw [List.filter_cons, List.filter_cons, intsAt_of (N _ h1).1 i]
   split
   · exact ⟨⟨a, ws, n, rfl, h1, i⟩, OnLed.filt q N r⟩
   · exact OnLed.filt q N r
 | [], _ :: _, h => h.elim
 | _ :: _, [], h => h.elim
theorem ldat_ok (l : List Int) : kqdOk 8 (ldat l) = true := by
 show (l.map Dat.int).all (kqdOk 7) = true
 rw [List.all_eq_true]
 intro d hd
 obtain ⟨k, _, (rfl)⟩ := List.mem_map.mp hd
 rfl
theorem news_cell {h₀ h h' : Heap} {L : Addr} {c : Nat} {o o' : Obj} {news : List (Addr × Obj)} (N : News h₀ L h ((c, o) :: news)) (hs : Heap.SameBut c h h') (ho : h'.get? c = some o') (hne : ∀ q ∈ news, @Ne Nat q.1 c) : News h₀ L h' ((c, o') :: news) := fun q hq => by
 rcases List.mem_cons.mp hq with rfl | hq
 · exact ⟨ho, (N (c, o) List.mem_cons_self).2⟩
 · exact ⟨hs.extBut _ _ (hne q hq) (N q (List.mem_cons_of_mem _ hq)).1, (N q (List.mem_cons_of_mem _ hq)).2⟩
theorem walks_bnd {prog : Program} {w : World} {A : Around} {I : Addr} {fp wr : List Addr} {n : Nat} {P : Nat -> Value -> Prop} {St : Nat -> Heap -> Prop} (W : Walks prog w A I fp wr n P St) : Walks prog w A I fp wr n (fun i v => i < n /\ P i v) St :=
 ⟨W.sub, W.frame, fun i s Q E hi st hQ => W.item i s Q E hi st fun v h' tk hP => hQ v h' tk ⟨hi, hP⟩, W.done, W.self⟩
theorem Src.bnd {prog : Program} {w : World} {A : Around} {h₀ : Heap} {L : Addr} {m : Str -> Option Value} {news : List (Addr × Obj)} {n : Nat} {P : Nat -> Value -> Prop} {it : Value} {s_2 : Shared} (S : Src prog w A h₀ L m news n P it s_2) : Src prog w A h₀ L m news n (fun i v => i < n /\ P i v) it s_2 :=
 ⟨x3_3 S.ex fun I fp St e W r => ⟨I, fp, St, e, walks_bnd W, r⟩, S.sz, S.F, S.N⟩
noncomputable abbrev lawA (qual : Str) (scope : Scope) (L : Addr) (fa : Addr) (cdx : Value) : Around := callerA.deeper (envOfC qual scope L fa cdx)
end Mine
end
local macro_rules | `(tactic| k_mem) => Mine.mGo "mem"
section
namespace Mine
noncomputable def zero (ds : DS) : DS := ds.map fun d => (d.1, 0)
theorem zero_append (a b : DS) : zero (a ++ b) = zero a ++ zero b := List.map_append
theorem zero_nil {ds : DS} : zero ds = [] ↔ ds = [] := List.map_eq_nil_iff
noncomputable def RelP (y y0 : Str) : Prop := (y = y0 /\ (y = LTt \/ y = LTe \/ y = Str.ofString ">")) \/ ∃ ds, ds ≠ [] /\ OkDs ds /\ y = textW ds /\ y0 = textW (zero ds)
noncomputable def RelC (y y0 : Str) : Prop := (y = y0 /\ (y = Str.ofString "(" \/ y = Str.ofString ")")) \/ ∃ ds, ds ≠ [] /\ OkDs ds /\ y = textW ds /\ y0 = textW (zero ds)
inductive All2 {α : Type} (R : α -> α -> Prop) : List α -> List α -> Prop
 | nil : All2 R [] []
 | cons {a b l r} : R a b -> All2 R l r -> All2 R (a :: l) (b :: r)
theorem All2.app {α : Type} {R : α -> α -> Prop} {a b c d : List α} (x : All2 R a b) (y : All2 R c d) : All2 R (a ++ c) (b ++ d) := by
 induction x with
 | nil => exact y
 | cons x _ ih => exact .cons x ih
theorem All2.take {α : Type} {R : α -> α -> Prop} : ∀ {a b : List α} (k : Nat), All2 R a b -> All2 R (a.take k) (b.take k)
 | _, _, 0, _ => by simpa using All2.nil
 | _, _, _ + 1, .nil => by simpa using All2.nil
 | _, _, k + 1, .cons x r => by simpa using All2.cons x (r.take k)
theorem All2.drop {α : Type} {R : α -> α -> Prop} : ∀ {a b : List α} (k : Nat), All2 R a b -> All2 R (a.drop k) (b.drop k)
 | _, _, 0, h => by simpa using h
 | _, _, _ + 1, .nil => by simpa using All2.nil
 | _, _, k + 1, .cons x r => by simpa using r.drop k
theorem All2.len {α : Type} {R : α -> α -> Prop} {a b : List α} (x : All2 R a b) : a.length = b.length := by
 induction x with
 | nil => rfl
 | cons _ _ ih => exact congrArg (· + 1) ih
theorem All2.mem {α : Type} {R : α -> α -> Prop} {a b : List α} (h : All2 R a b) : ∀ y ∈ a, ∃ y0, R y y0 := by
 induction h with
 | nil => intro y h; exact nomatch h
 | cons x _ ih =>
   intro y h
   rcases List.mem_cons.mp h with rfl | h
   · exact ⟨_, x⟩
   · exact ih y h
theorem flushO_sim {ds : DS} (h : OkDs ds) : All2 RelP (flushO ds) (flushO (zero ds)) := by
 unfold flushO
 by_cases e : ds = []
 · rw [if_pos e, if_pos (zero_nil.mpr e)]; exact .nil
 · rw [if_neg e, if_neg (fun z => e (zero_nil.mp z))]
   exact .cons (.inr ⟨ds, e, h, rfl, rfl⟩) .nil
theorem told_sim {gs : List (List Nat)} {fg : Nat -> Nat} (hg : ∀ g ∈ gs, ∀ d ∈ g, d ∈ [97, 98, 99, 100]) : ∀ (n : Nat) (lv : List Nat) (pend : DS) (out out0 : List Str),
   (∀ c ∈ lv, c ∈ [97, 98, 99, 100]) -> OkDs pend -> All2 RelP out out0 -> All2 RelP (told gs fg n lv pend out) (told gs (fun _ => 0) n lv (zero pend) out0)
 | 0, _, _, _, _, _, _, h => h
 | n + 1, lv, pend, out, out0, hl, hp, h => by
   rw [told_succ, told_succ]
   have hb : All2 RelP (out ++ flushO pend ++ [Str.ofString "<t", Str.ofString ">"]) (out0 ++ flushO (zero pend) ++ [Str.ofString "<t", Str.ofString ">"]) :=
     (h.app (flushO_sim hp)).app (.cons (.inl ⟨rfl, .inl rfl⟩) (.cons (.inl ⟨rfl, .inr (.inr rfl)⟩) .nil))
   have key : ∀ i, i <= lv.length -> OkDs (toldAt (told gs fg n) gs fg lv (out ++ flushO pend ++ [Str.ofString "<t", Str.ofString ">"]) i).1 /\
       zero (toldAt (told gs fg n) gs fg lv (out ++ flushO pend ++ [Str.ofString "<t", Str.ofString ">"]) i).1 = (toldAt (told gs (fun _ => 0) n) gs (fun _ => 0) lv (out0 ++ flushO (zero pend) ++ [Str.ofString "<t", Str.ofString ">"]) i).1 /\
       All2 RelP (toldAt (told gs fg n) gs fg lv (out ++ flushO pend ++ [Str.ofString "<t", Str.ofString ">"]) i).2.1 (toldAt (told gs (fun _ => 0) n) gs (fun _ => 0) lv (out0 ++ flushO (zero pend) ++ [Str.ofString "<t", Str.ofString ">"]) i).2.1 /\
       (toldAt (told gs fg n) gs fg lv (out ++ flushO pend ++ [Str.ofString "<t", Str.ofString ">"]) i).2.2 = (toldAt (told gs (fun _ => 0) n) gs (fun _ => 0) lv (out0 ++ flushO (zero pend) ++ [Str.ofString "<t", Str.ofString ">"]) i).2.2 := by
     intro i
     induction i with
     | zero => intro _; rw [toldAt_zero, toldAt_zero]; exact ⟨fun d hd => (nomatch hd), rfl, hb, rfl⟩
     | succ i ih =>
       intro hi
       have hc : lv[i]? = some lv[i] := List.getElem?_eq_getElem hi
       have hcm := hl _ (List.getElem_mem (l := lv) (n := i) hi)
       rw [toldAt_succ hc, toldAt_succ hc]
       refine x0_4 (ih (Nat.le_of_succ_le hi)) fun i1 i2 i3 i4 => ?_
       generalize toldAt (told gs fg n) gs fg lv (out ++ flushO pend ++ [Str.ofString "<t", Str.ofString ">"]) i = a at i1 i2 i3 i4 ⊢
       generalize toldAt (told gs (fun _ => 0) n) gs (fun _ => 0) lv (out0 ++ flushO (zero pend) ++ [Str.ofString "<t", Str.ofString ">"]) i = b at i2 i3 i4 ⊢
       unfold toldStep
       rw [i4]
       by_cases hd : lv[i] ∈ b.2.2
       · rw [if_pos hd, if_pos hd]; exact ⟨i1, i2, i3, i4⟩
       · rw [if_neg hd, if_neg hd]
         cases q : (innerG gs lv.length lv[i]).getLast? with
         | none =>
           refine i0_4 (fun d hd => ?_) ?_ i3 rfl
           · rcases List.mem_append.mp hd with hd | hd
             · exact i1 d hd
             · rw [List.mem_singleton.mp hd]; exact hcm
           · rw [zero_append, i2]; rfl
         | some g =>
           have hgm := (List.mem_filter.mp (List.mem_of_getLast? q)).1
           refine i0_4 (fun d hd => (nomatch hd)) rfl ?_ rfl
           have := told_sim (fg := fg) hg n g a.1 a.2.1 b.2.1 (hg g hgm) i1 i3
           rw [i2] at this
           exact this
   obtain ⟨k1, k2, k3, -⟩ := key lv.length (Nat.le_refl _)
   refine (k3.app ?_).app (.cons (.inl ⟨rfl, .inr (.inl rfl)⟩) .nil)
   rw [<- k2]
   exact flushO_sim k1
theorem text_first {ds : DS} (h : ds ≠ []) (ok : OkDs ds) : ∃ c ∈ [97, 98, 99, 100], (textW ds).cps[0]? = some c := by
 cases ds with
 | nil => exact absurd rfl h
 | cons d r => exact ⟨d.1, ok d List.mem_cons_self, rfl⟩
theorem RelP.ok {y y0 : Str} (h : RelP y y0) : PieceOk y := by
 rcases h with ⟨_, h | h | h⟩ | ⟨ds, h1, h2, rfl, _⟩
 · exact .inl h
 · exact .inr (.inl h)
 · exact .inr (.inr (.inl h))
 · exact .inr (.inr (.inr (text_first h1 h2)))
theorem first_ne {x y : Str} {c d : Nat} (hx : x.cps[0]? = some c) (hy : y.cps[0]? = some d) (h : c ≠ d) : x ≠ y := fun e => by
 rw [e, hy] at hx; exact h (Option.some.inj hx).symm
theorem text_ne {ds : DS} (h : ds ≠ []) (ok : OkDs ds) : textW ds ≠ LTt /\ textW ds ≠ LTe /\ textW ds ≠ Str.ofString ">" /\ textW ds ≠ Str.ofString "(" /\ textW ds ≠ Str.ofString ")" := by
 refine x1_2 (text_first h ok) fun c hc e => ?_
 have h0 : LTt.cps[0]? = some 60 := by decide +kernel
 have h1 : LTe.cps[0]? = some 60 := by decide +kernel
 have h2 : (Str.ofString ">").cps[0]? = some 62 := by decide +kernel
 have h3 : (Str.ofString "(").cps[0]? = some 40 := by decide +kernel
 have h4 : (Str.ofString ")").cps[0]? = some 41 := by decide +kernel
 simp only [List.mem_cons, List.not_mem_nil, or_false] at hc
 exact i0_5 (first_ne e h0 (by omega)) (first_ne e h1 (by omega)) (first_ne e h2 (by omega)) (first_ne e h3 (by omega)) (first_ne e h4 (by omega))
theorem zero_ok {ds : DS} (h : OkDs ds) : OkDs (zero ds) := fun d hd => by
 refine x1_2 (List.mem_map.mp hd) fun e he hcz2 => ?_
 cases hcz2
 exact h e he
theorem cellOf_text {ds : DS} (h : ds ≠ []) (ok : OkDs ds) : cellOf (textW ds) = textW ds := by
 obtain ⟨h1, h2, -⟩ := text_ne h ok
 unfold cellOf
 rw [if_neg h1, if_neg h2]
theorem readCs_sim {ys ys0 : List Str} (h : All2 RelP ys ys0) : All2 RelC (readCs ys) (readCs ys0) := by
 induction h with
 | nil => exact .nil
 | @cons y y0 l r x rr ih =>
   unfold readCs at ih ⊢
   rw [List.filter_cons, List.filter_cons]
   rcases x with ⟨rfl, h⟩ | ⟨ds, h1, h2, rfl, rfl⟩
   · split
     · rw [List.map_cons, List.map_cons]
       refine .cons (.inl ⟨rfl, ?_⟩) ih
       rename_i hn
       rcases h with rfl | rfl | rfl
       · exact .inl (by decide +kernel)
       · exact .inr (by decide +kernel)
       · exact absurd hn (by decide +kernel)
     · exact ih
   · have e1 := (text_ne h1 h2).2.2.1
     have hz : zero ds ≠ [] := fun z => h1 (zero_nil.mp z)
     have e2 := (text_ne hz (zero_ok h2)).2.2.1
     rw [if_pos (by simp [e1]), if_pos (by simp [e2]), List.map_cons, List.map_cons, cellOf_text h1 h2, cellOf_text hz (zero_ok h2)]
     exact .cons (.inr ⟨ds, h1, h2, rfl, rfl⟩) ih
theorem RelC.num {y y0 : Str} (h : RelC y y0) : numOf y = numOf y0 := by
 rcases h with ⟨rfl, _⟩ | ⟨ds, h1, h2, rfl, rfl⟩
 · rfl
 · have hz : zero ds ≠ [] := fun z => h1 (zero_nil.mp z)
   obtain ⟨-, -, -, a, b⟩ := text_ne h1 h2
   obtain ⟨-, -, -, c, d⟩ := text_ne hz (zero_ok h2)
   unfold numOf
   rw [if_neg a, if_neg b, if_neg c, if_neg d]
theorem nums_sim : ∀ {cs cs0 : List Str}, All2 RelC cs cs0 -> cs.map numOf = cs0.map numOf
 | _, _, .nil => rfl
 | _, _, .cons x r => by rw [List.map_cons, List.map_cons, x.num, nums_sim r]
theorem stP_plain : ∀ (a r : List Nat), 34 ∉ a -> stP none (a ++ r) = a ++ stP none r
 | [], _, _ => rfl
 | c :: a, r, h => by
   have hc : ¬ c = 34 := fun z => h (by rw [z]; exact List.mem_cons_self)
   rw [List.cons_append, stP, if_neg hc, stP_plain a r (fun z => h (List.mem_cons_of_mem _ z))]
   rfl
theorem stP_sign (i : Nat) (r : List Nat) : stP none (sgw i ++ r) = stP none r := by
 unfold sgw; split <;> simp [stP]
theorem stP_wire : ∀ {ds : DS} (r : List Nat), OkDs ds -> stP none (wireL ds ++ r) = ds.map (·.1) ++ stP none r
 | [], _, _ => rfl
 | d :: ds, r, h => by
   have hd := h d List.mem_cons_self
   have ih := stP_wire r fun e he => h e (List.mem_cons_of_mem _ he)
   show stP none (((d.1 :: sgw d.2) ++ wireL ds) ++ r) = _
   rw [List.append_assoc, List.cons_append, stP, if_neg (fun e => by rw [e] at hd; revert hd; decide), stP_sign, ih]
   rfl
theorem wire_zero : ∀ ds : DS, wireL (zero ds) = ds.map (·.1)
 | [] => rfl
 | d :: ds => by
   show (d.1 :: sgw 0) ++ wireL (zero ds) = _
   rw [wire_zero ds]; rfl
noncomputable abbrev flatS (cs : List Str) : List Nat := cs.flatMap (·.cps.toList)
theorem RelC.st {y y0 : Str} (h : RelC y y0) (r r0 : List Nat) (hr : stP none r = stP none r0) : stP none (y.cps.toList ++ r) = stP none (y0.cps.toList ++ r0) := by
 rcases h with ⟨rfl, h⟩ | ⟨ds, h1, h2, rfl, rfl⟩
 · have hn : 34 ∉ y.cps.toList := by rcases h with rfl | rfl <;> decide +kernel
   rw [stP_plain _ _ hn, stP_plain _ _ hn, hr]
 · show stP none (wireL ds ++ r) = stP none (wireL (zero ds) ++ r0)
   rw [stP_wire _ h2, stP_wire _ (zero_ok h2), hr]
   unfold zero
   rw [List.map_map]
   rfl
theorem st_sim : ∀ {cs cs0 : List Str}, All2 RelC cs cs0 -> stP none (flatS cs) = stP none (flatS cs0)
 | _, _, .nil => rfl
 | _, _, .cons x r => by
   show stP none (_ ++ flatS _) = stP none (_ ++ flatS _)
   exact x.st _ _ (st_sim r)
theorem check_sim {cs cs0 : List Str} (h : All2 RelC cs cs0) : checkP (joinS cs) = checkP (joinS cs0) := by
 unfold checkP stripP joinS
 rw [show (⟨(cs.flatMap (·.cps.toList)).toArray⟩ : Str).cps.toList = flatS cs from rfl, show (⟨(cs0.flatMap (·.cps.toList)).toArray⟩ : Str).cps.toList = flatS cs0 from rfl, st_sim h]
theorem RelC.mem {y y0 : Str} (h : RelC y y0) {c : Nat} (hc : c ∈ [97, 98, 99, 100]) : c ∈ y.cps.toList ↔ c ∈ y0.cps.toList := by
 rcases h with ⟨rfl, _⟩ | ⟨ds, h1, h2, rfl, rfl⟩
 · exact Iff.rfl
 · show c ∈ wireL ds ↔ c ∈ wireL (zero ds)
   rw [wire_zero]
   constructor
   · intro h
     refine x1_2 (List.mem_flatMap.mp h) fun d hd h => ?_
     rcases List.mem_cons.mp h with rfl | h
     · exact List.mem_map_of_mem hd
     · have := sgw_mem _ c h
       simp only [List.mem_cons, List.not_mem_nil, or_false] at hc this
       omega
   · intro h
     refine x1_2 (List.mem_map.mp h) fun d hd hcz2 => ?_
     cases hcz2
     exact List.mem_flatMap.mpr ⟨d, hd, List.mem_cons_self⟩
theorem flat_mem {cs cs0 : List Str} (h : All2 RelC cs cs0) {c : Nat} (hc : c ∈ [97, 98, 99, 100]) : (c ∈ flatS cs ↔ c ∈ flatS cs0) := by
 induction h with
 | nil => exact Iff.rfl
 | cons x _ ih =>
   show c ∈ _ ++ flatS _ ↔ c ∈ _ ++ flatS _
   rw [List.mem_append, List.mem_append, x.mem hc, ih]
theorem leaves_sim {cs cs0 : List Str} (h : All2 RelC cs cs0) : leavesIn (joinS cs) = leavesIn (joinS cs0) := by
 unfold leavesIn joinS
 refine congrArg (fun l : List Nat => (⟨l.toArray⟩ : Str)) (List.filter_congr fun c hc => ?_)
 exact decide_eq_decide.mpr (flat_mem h hc)
theorem closed_sim {cs cs0 : List Str} (h : All2 RelC cs cs0) (ns : List Int) : leavesIn (closedP cs ns) = leavesIn (closedP cs0 ns) := by
 unfold closedP
 have e : closedAt cs ns = closedAt cs0 ns := by
   funext e
   unfold closedAt
   rw [check_sim (h.take (e + 1))]
 rw [e, h.len]
 split
 · exact leaves_sim (h.take _)
 · rfl
theorem read_sim {gs cs cs0 : List Str} (h : All2 RelC cs cs0) : readP gs cs = readP gs cs0 := by
 have e : readAt gs cs = readAt gs cs0 := by
   funext b
   unfold readAt
   rw [nums_sim h, closed_sim (h.drop b)]
 unfold readP
 rw [e, h.len]
theorem RelC.flat {y y0 : Str} (h : RelC y y0) : (∀ c ∈ y.cps.toList, c < 128 /\ c ≠ 92) /\ y.cps.toList.length <= 7 * y0.cps.toList.length := by
 rcases h with ⟨rfl, h⟩ | ⟨ds, h1, h2, rfl, rfl⟩
 · rcases h with rfl | rfl <;> decide +kernel
 · refine ⟨fun c hc => ?_, ?_⟩
   · have := wire_mem h2 c hc
     simp only [List.cons_append, List.nil_append, List.mem_cons, List.not_mem_nil, or_false] at this
     omega
   · show (wireL ds).length <= 7 * (wireL (zero ds)).length
     rw [wire_zero, List.length_map]
     exact wire_len ds
theorem flat_sim : ∀ {cs cs0 : List Str}, All2 RelC cs cs0 -> (∀ c ∈ flatS cs, c < 128 /\ c ≠ 92) /\ (flatS cs).length <= 7 * (flatS cs0).length
 | _, _, .nil => ⟨fun c hc => (nomatch hc), Nat.le_refl _⟩
 | _, _, .cons (a := y) (b := y0) (l := l) (r := r) x rr => by
   refine x0_2 (flat_sim rr) fun h1 h2 => ?_
   refine x0_2 (x.flat) fun g1 g2 => ?_
   refine ⟨fun c hc => ?_, ?_⟩
   · rcases List.mem_append.mp (show c ∈ y.cps.toList ++ flatS l from hc) with hc | hc
     · exact g1 c hc
     · exact h1 c hc
   · show (y.cps.toList ++ flatS l).length <= 7 * (y0.cps.toList ++ flatS r).length
     rw [List.length_append, List.length_append]; omega
theorem good_sim {cs cs0 : List Str} (h : All2 RelC cs cs0) (hz : (flatS cs0).length <= 100) (b : Nat) : Good (joinS (cs.drop b)) := by
 refine x0_2 (flat_sim (h.drop b)) fun h1 h2 => ?_
 refine ⟨h1, ?_⟩
 show (List.toArray _).size <= 1000
 have h3 : (flatS (cs0.drop b)).length <= (flatS cs0).length := by
   conv => rhs; rw [<- List.take_append_drop b cs0, show flatS (cs0.take b ++ cs0.drop b) = flatS (cs0.take b) ++ flatS (cs0.drop b) from List.flatMap_append, List.length_append]
   omega
 simp only [List.size_toArray]
 show (flatS (cs.drop b)).length <= 1000
 omega
noncomputable def gs10 : List (List Nat) := [[97, 98], [97, 99], [97, 100], [98, 99], [98, 100], [99, 100], [97, 98, 99], [97, 98, 100], [97, 99, 100], [98, 99, 100]]
noncomputable def selG (t : List Nat) : List (List Nat) := t.map fun j => gs10.getD j []
noncomputable def trees26 : List (List Nat) := [[]] ++ ((List.range 10).map fun k => [k]) ++ (List.range 10).flatMap fun k => ((List.range k).filter fun j => [(0 : Nat), (gs10.getD j []).length].any fun x => x == ((gs10.getD j []).filter fun c => decide (c ∈ gs10.getD k [])).length).map fun j => [j, k]
noncomputable def rot (r : Nat) : List Nat := [97, 98, 99, 100].drop r ++ [97, 98, 99, 100].take r
noncomputable def readOk (t : List Nat) (r : Nat) : Bool :=
 let ys := told (selG t) (fun _ => 0) 4 (rot r) [] []
 let x := readP (gs10.map leavesT) (readCs ys)
 (x == t.map Int.ofNat || x == (t.map Int.ofNat).reverse) && decide ((flatS (readCs ys)).length <= 100)
theorem all_read : (trees26.all fun t => (List.range 4).all fun r => readOk t r) = true := by decide +kernel
theorem trees_sorted : (trees26.all fun t => decide (t.Pairwise (· <= ·)) && decide (t.length <= 2) && t.all fun k => decide (k < 10)) = true := by decide +kernel
theorem gs10_ok : ∀ g ∈ gs10, ∀ d ∈ g, d ∈ [97, 98, 99, 100] := by decide +kernel
theorem gs10_len : ∀ g ∈ gs10, g.length <= 4 := by decide +kernel
theorem selG_mem {t : List Nat} (ht : t ∈ trees26) : ∀ g ∈ selG t, g ∈ gs10 := fun g hg => by
 refine x1_2 (List.mem_map.mp hg) fun j hj hcz2 => ?_
 cases hcz2
 have h := List.all_eq_true.mp trees_sorted t ht
 simp only [Bool.and_eq_true, decide_eq_true_eq, List.all_eq_true] at h
 have hj' : j < gs10.length := h.2 j hj
 rw [List.getD_eq_getElem?_getD, List.getElem?_eq_getElem hj']
 exact List.getElem_mem hj'
theorem rot_ok (r : Nat) : ∀ c ∈ rot r, c ∈ [97, 98, 99, 100] := fun c hc => by
 rcases List.mem_append.mp hc with hc | hc
 · exact List.mem_of_mem_drop hc
 · exact List.mem_of_mem_take hc
theorem rot_len {r : Nat} (h : r < 4) : (rot r).length = 4 := by
 rcases (by omega : r = 0 \/ r = 1 \/ r = 2 \/ r = 3) with rfl | rfl | rfl | rfl <;> rfl
theorem sorted_uniq {a b : List Int} (h : List.Perm a b) (ha : a.Pairwise (· <= ·)) (hb : b.Pairwise (· <= ·)) : a = b :=
 List.Perm.eq_of_pairwise (fun x y _ _ h1 h2 => Int.le_antisymm h1 h2) ha hb h
theorem pairwise_ofNat : ∀ {t : List Nat}, t.Pairwise (· <= ·) -> (t.map Int.ofNat).Pairwise (· <= ·)
 | [], _ => .nil
 | a :: t, h => by
   cases h with
   | cons h1 h2 =>
     refine .cons (fun y hy => ?_) (pairwise_ofNat h2)
     refine x1_2 (List.mem_map.mp hy) fun z hz hcz2 => ?_
     cases hcz2
     exact Int.ofNat_le.mpr (h1 z hz)
theorem read_law {t : List Nat} (ht : t ∈ trees26) {r : Nat} (hr : r < 4) (fg : Nat -> Nat) {ys : List Str} (hy : ys = told (selG t) fg 4 (rot r) [] []) :
   (∀ y ∈ ys, PieceOk y) /\ ys.length <= 500 /\ (∀ b, Good (joinS ((readCs ys).drop b))) /\ (readP (gs10.map leavesT) (readCs ys)).length < 64 /\
   ∀ ns, List.Perm ns (readP (gs10.map leavesT) (readCs ys)) -> ns.Pairwise (· <= ·) -> ns = t.map Int.ofNat := by
 have h1 := List.all_eq_true.mp all_read t ht
 have h2 := List.all_eq_true.mp h1 r (List.mem_range.mpr hr)
 unfold readOk at h2
 simp only [Bool.and_eq_true, Bool.or_eq_true, decide_eq_true_eq, beq_iff_eq] at h2
 refine x0_2 (h2) fun hx hz => ?_
 try clear h2
 have sim := told_sim (fg := fg) (fun g hg => gs10_ok g (selG_mem ht g hg)) 4 (rot r) [] [] [] (rot_ok r) (fun d hd => (nomatch hd)) .nil
 rw [<- hy] at sim
 have simC := readCs_sim sim
 have e := read_sim (gs := gs10.map leavesT) simC
 have e0 : zero [] = [] := rfl
 rw [e0] at sim simC e
 have hs := List.all_eq_true.mp trees_sorted t ht
 simp only [Bool.and_eq_true, decide_eq_true_eq, List.all_eq_true] at hs
 obtain ⟨⟨hs1, hs2⟩, -⟩ := hs
 refine i0_5 (fun y hm => ?_) ?_ (fun b => good_sim simC hz b) ?_ (fun ns hp hn => ?_)
 · refine x1_1 (sim.mem y hm) fun y0 h => ?_
   exact h.ok
 · rw [hy]
   refine Nat.le_trans (told_len (fun g hg => gs10_len g (selG_mem ht g hg)) 4 (rot r) [] [] (by rw [rot_len hr]; decide)) ?_
   decide
 · rw [e]
   rcases hx with h | h <;> rw [h] <;> simp <;> omega
 · rw [e] at hp
   have hp' : List.Perm ns (t.map Int.ofNat) := by
     rcases hx with h | h
     · rw [h] at hp; exact hp
     · rw [h] at hp; exact hp.trans (List.reverse_perm _)
   exact sorted_uniq hp' hn (pairwise_ofNat hs1)
end Mine
end
section
namespace Mine
noncomputable abbrev treeOf (x : Int) : List Nat := trees26.getD (x.fmod 26).toNat []
noncomputable abbrev asI (t : List Nat) : List Int := t.map Int.ofNat
theorem treeOf_mem (x : Int) : treeOf x ∈ trees26 /\ (x.fmod 26).toNat < 26 := by
 have h0 := Int.fmod_nonneg_of_pos x (b := 26) (by decide)
 have h1 := Int.fmod_lt_of_pos x (b := 26) (by decide)
 have h2 : (x.fmod 26).toNat < 26 := by omega
 refine ⟨?_, h2⟩
 have h3 : trees26.length = 26 := by decide +kernel
 unfold treeOf
 rw [List.getD_eq_getElem?_getD, List.getElem?_eq_getElem (by rw [h3]; exact h2)]
 exact List.getElem_mem _
theorem gs10_len4 (i : Nat) : ((gs10.map leavesT).getD i ⟨#[]⟩).length <= 4 := by
 by_cases h : i < 10
 · have h3 : ∀ j < 10, ((gs10.map leavesT).getD j ⟨#[]⟩).length <= 4 := by decide +kernel
   exact h3 i h
 · rw [List.getD_eq_getElem?_getD, List.getElem?_eq_none (by show gs10.length <= i; exact Nat.le_of_not_lt h)]
   exact Nat.zero_le _
theorem treesP_eq : treesP gs10 = trees26.map asI := by decide +kernel
theorem OnLed.item {md : List (Addr × Obj)} : ∀ {vs : List Value} {ls : List (List Int)}, OnLed md vs ls -> ∀ {i : Nat}, i < ls.length -> ∃ a ws n, vs[i]? = some (.ref a) /\ (a, listOf (List.toArray ws) n) ∈ md /\ IntsAre ws (ls.getD i []) := by
 intro vs
 induction vs with
 | nil =>
   intro ls h i hi
   cases ls with
   | nil => exact absurd hi (Nat.not_lt_zero _)
   | cons => exact h.elim
 | cons v0 vs ih =>
   intro ls h i hi
   cases ls with
   | nil => exact absurd hi (Nat.not_lt_zero _)
   | cons l0 ls =>
     refine x0_2 h fun h0 r => ?_
     cases i with
     | zero => exact x3_3 h0 fun a ws n e1 h1 i => ⟨a, ws, n, by rw [e1]; rfl, h1, i⟩
     | succ i =>
       refine x3_3 (ih r (i := i) (by simpa using hi)) fun a ws n x y z => ?_
       exact i3_3 a ws n (by simpa using x) y (by simpa using z)
theorem item_neg1 {prog : Program} {w : World} {A : Around} {E : Value -> Shared -> Prop} {s : Shared} {value slice : PySem.Expr} {C : Addr} {vs : List Value} {x : Value} {u : Tok} {Q : Value -> Shared -> Prop} (hl : s.heap.IsList C (vs ++ [x]).toArray) (h : Q x s)
   (hs : subscripted slice false (.ref C) (.int (-1) u) = operate [.ref C, .int (-1) u] (getItem (.ref C) (.int (-1) u)) := by with_unfolding_all rfl) : wpAny (model prog w) A (subscriptTail value slice (.ref C) (.int (-1) u)) Q E s :=
 tail_any hl.typeIs slot_list_getitem.lookup (wpAny_getItem_list_neg hl (by decide) (by simp; omega) (by decide) (by simp; rw [show ((-1 : Int) + ((vs.length : Int) + 1)).toNat = vs.length by omega]; simp) h) hs
section
namespace lw_turnH
noncomputable def Stm (pC : Program) (looseC : List Str) (mgC mbC : Str -> Option Value) (w : World) (g : Heap) (s : Shared) (L RL NL TL G cd fa k : Nat) (cdx : Value) (o1 o2 : Obj) (pst : Array Value) (rvs nvs tvs : List Value) (nums : List Int) (rows : List (List Int)) (gl : List (Str × Tok)) (fx : List (Addr × Obj)) (nr nn nt ng : Nat) (tk : Tok) (m : Str -> Option Value) (Q : Flow -> Shared -> Prop) : Prop := ∀ {oc : Obj} {name qual : Str} {params : Arguments} {body : List Stmt} {scope : Scope} {dV kV doc pm cdv ct ocl : Value} {an odd : Option Addr} {osl : Array (Option Value)} (TB : TopB pC looseC mgC mbC g) (T : TopRead pC looseC mgC mbC g) (X : (Mine.mk.heap_1 w.params).In g) (ho : (Mine.mk.heap_1 w.params).lookup 243 = some ⟨ocl, odd, .func (fnOf name qual params body scope dV kV doc pm an cdv ct), osl⟩) (F : Fr g L s.heap (fun y => if y = "numbers" then some (.ref NL) else if y = "trees" then some (.ref TL) else if y = "k" then some (.int (k : Int) tk) else m y)) (N : News g L s.heap ([(161, tabObj pst), (cd, oc)] ++ ((RL, listOf rvs.toArray nr) :: fx))) (m2 : ((L + 2 : Nat), o2) ∈ fx) (m1 : ((L + 1 : Nat), o1) ∈ fx) (mN : ((NL : Addr), listOf nvs.toArray nn) ∈ fx) (mT : ((TL : Addr), listOf tvs.toArray nt) ∈ fx) (mG : ((G : Addr), listOf (strValues gl).toArray ng) ∈ fx) (d2 : o2.data = .cell (some (.ref RL))) (d1 : o1.data = .cell (some (.ref G))) (LS0 : LS lamPos lamQual pst cd oc) (hn : IntsAre nvs nums) (hnl : nums.length = 9) (hk : k + 2 < 9) (hgl : gl.map (·.1) = gs10.map leavesT) (hOt : OnLed fx tvs (trees26.map asI)) (hOr : OnLed fx rvs rows) (hrl : rvs.length <= 10) (h1 : 161 ≠ cd) (hap : ∀ q ∈ fx, @Ne Nat q.1 RL) (hap2 : ∀ q ∈ (RL, listOf rvs.toArray nr) :: fx, @Ne Nat q.1 161 /\ @Ne Nat q.1 cd) (hQ : ∀ s' (m' : Str -> Option Value) (D : Nat) vs n nr' (c' : Nat) oc', Fr g L s'.heap (fun y => if y = "numbers" then some (.ref NL) else if y = "trees" then some (.ref TL) else m' y) ->
     News g L s'.heap ([(161, tabObj (lamTab lamPos c')), (c', oc')] ++ ((RL, listOf (rvs ++ [Value.ref D]).toArray nr') :: (D, listOf (List.toArray vs) n) :: fx)) ->
     IntsAre vs (asI (treeOf (nums.getD k 0))) -> LS lamPos lamQual (lamTab lamPos c') c' oc' -> 161 ≠ c' -> (∀ q ∈ (D, listOf (List.toArray vs) n) :: fx, @Ne Nat q.1 RL) ->
     (∀ q ∈ (RL, listOf rvs.toArray nr) :: (D, listOf (List.toArray vs) n) :: fx, @Ne Nat q.1 161 /\ @Ne Nat q.1 c') -> (∀ q ∈ fx, @Ne Nat q.1 D) -> s'.os = s.os -> (AllBare s.gens -> AllBare s'.gens) -> Q .next s'), wpAny (model Challenge.rw_kl0462_01.prog w) (lawA qual scope L fa cdx) (execs (forBody body) (envOfC qual scope L fa cdx)) Q NF s
noncomputable def cx (v : (((((Program × (List Str)) × (Str -> Option Value)) × ((Str -> Option Value) × World)) × ((Heap × Shared) × (Nat × Nat))) × (((Nat × Nat) × (Nat × Nat)) × ((Nat × Nat) × (Value × Obj)))) × ((((Obj × (Array Value)) × (List Value × (List Value))) × ((List Value × (List Int)) × ((List (List Int)) × (List (Str × Tok))))) × ((((List (Addr × Obj)) × Nat) × (Nat × Nat)) × ((Nat × Tok) × ((Str -> Option Value) × (Flow -> Shared -> Prop)))))) : Prop := Stm v.1.1.1.1.1.1 v.1.1.1.1.1.2 v.1.1.1.1.2 v.1.1.1.2.1 v.1.1.1.2.2 v.1.1.2.1.1 v.1.1.2.1.2 v.1.1.2.2.1 v.1.1.2.2.2 v.1.2.1.1.1 v.1.2.1.1.2 v.1.2.1.2.1 v.1.2.1.2.2 v.1.2.2.1.1 v.1.2.2.1.2 v.1.2.2.2.1 v.1.2.2.2.2 v.2.1.1.1.1 v.2.1.1.1.2 v.2.1.1.2.1 v.2.1.1.2.2 v.2.1.2.1.1 v.2.1.2.1.2 v.2.1.2.2.1 v.2.1.2.2.2 v.2.2.1.1.1 v.2.2.1.1.2 v.2.2.1.2.1 v.2.2.1.2.2 v.2.2.2.1.1 v.2.2.2.1.2 v.2.2.2.2.1 v.2.2.2.2.2
noncomputable section
def tup := pk (by walk_at "ne") cx
@[irreducible]def pC:=tup.1.1.1.1.1.1
@[irreducible]def looseC:=tup.1.1.1.1.1.2
@[irreducible]def mgC:=tup.1.1.1.1.2
@[irreducible]def mbC:=tup.1.1.1.2.1
@[irreducible]def w:=tup.1.1.1.2.2
@[irreducible]def g:=tup.1.1.2.1.1
@[irreducible]def s:=tup.1.1.2.1.2
@[irreducible]def L:=tup.1.1.2.2.1
@[irreducible]def RL:=tup.1.1.2.2.2
@[irreducible]def NL:=tup.1.2.1.1.1
@[irreducible]def TL:=tup.1.2.1.1.2
@[irreducible]def G:=tup.1.2.1.2.1
@[irreducible]def cd:=tup.1.2.1.2.2
@[irreducible]def fa:=tup.1.2.2.1.1
@[irreducible]def k:=tup.1.2.2.1.2
@[irreducible]def cdx:=tup.1.2.2.2.1
@[irreducible]def o1:=tup.1.2.2.2.2
@[irreducible]def o2:=tup.2.1.1.1.1
@[irreducible]def pst:=tup.2.1.1.1.2
@[irreducible]def rvs:=tup.2.1.1.2.1
@[irreducible]def nvs:=tup.2.1.1.2.2
@[irreducible]def tvs:=tup.2.1.2.1.1
@[irreducible]def nums:=tup.2.1.2.1.2
@[irreducible]def rows:=tup.2.1.2.2.1
@[irreducible]def gl:=tup.2.1.2.2.2
@[irreducible]def fx:=tup.2.2.1.1.1
@[irreducible]def nr:=tup.2.2.1.1.2
@[irreducible]def nn:=tup.2.2.1.2.1
@[irreducible]def nt:=tup.2.2.1.2.2
@[irreducible]def ng:=tup.2.2.2.1.1
@[irreducible]def tk:=tup.2.2.2.1.2
@[irreducible]def m:=tup.2.2.2.2.1
@[irreducible]def Q:=tup.2.2.2.2.2
end
theorem main : Stm pC looseC mgC mbC w g s L RL NL TL G cd fa k cdx o1 o2 pst rvs nvs tvs nums rows gl fx nr nn nt ng tk m Q := by
 intro oc name qual params body scope dV kV doc pm cdv ct ocl an odd osl TB T X ho F N m2 m1 mN mT mG d2 d1 LS0 hn hnl hk hgl hOt hOr hrl h1 hap hap2 hQ
 have kS1 : KX := trivial
 have kSg : KG := trivial
 have kS2 : Key "eval ListComp" := trivial
 have kS3 : Key "exec Assign cons ListComp" := trivial
 have kS4 : Key "call type:range" := trivial
 have kS5 : KeyL "call builtin:len" := trivial
 have kS6 : Key "compareOp In int ref" := trivial
 have kS7 : Key "subscriptTail Name BinOp ref int" := trivial
 have kS8 : Key "subscriptTail Name Name ref int" := trivial
 have kS9 : Key "subscriptTail Name UnaryOp ref int" := trivial
 have kS10 : Key "subscriptTail Name Constant ref int" := trivial
 have kS11 : Key "call ref" := trivial
 have kS12 : Key "call builtin:list.append" := trivial
 have kS13 : Key "compareOp NotEq ref ref" := trivial
 revert X ho
 k_fill
 intro X ho
 have e := ho.symm.trans (by k_is)
 refine x0_3 (fnE e) fun hcz0 hcz1 hcz2 => ?_
 cases hcz0
 cases hcz1
 cases hcz2
 clear e
 dsimp only [forBody]
 have HT : Hold (OnLed fx tvs (trees26.map asI)) := ⟨hOt⟩
 have HR : Hold (OnLed fx rvs rows) := ⟨hOr⟩
 have HG : Hold (gl.map (·.1) = gs10.map leavesT) := ⟨hgl⟩
 have HI : Hold (IntsAre nvs nums) := ⟨hn⟩
 have HL : Hold (LS lamPos lamQual pst cd oc) := ⟨LS0⟩
 clear ho hOt hOr hgl hn LS0
 simp only [List.cons_append, List.nil_append] at N
 k_steps
 unfold Stop
 rename Fr g L _ _ => F_1
 rename News g L _ _ => N_1
 refine x1_1 (⟨_, rfl⟩ : ∃ x, nums.getD k 0 = x) fun x hx => ?_
 rw [hx] at hQ
 refine item_list_intsR (News.isList (items := nvs.toArray) (n := nn) (d := none) (sl := #[]) N_1 (by k_mem)) HI.out (by omega) (by omega) (by omega) fun t_1 => ?_
 rw [show nums.getD ((k : Int)).toNat 0 = x from hx]
 refine (?_ : wpAny _ _ _ _ _ _)
 k_steps
 unfold Stop
 refine x0_2 (treeOf_mem x) fun htm hp26 => ?_
 refine x1_1 (⟨_, rfl⟩ : ∃ pn : Nat, (x.fmod 26).toNat = pn) fun pn hpn => ?_
 have hpi : x.fmod 26 = (pn : Int) := by have := Int.fmod_nonneg_of_pos x (b := 26) (by decide); omega
 rw [hpi]
 have h26 : trees26.length = 26 := by decide +kernel
 refine x3_3 (OnLed.item HT.out (i := pn) (by rw [List.length_map]; omega)) fun a ws n hxa hma hia => ?_
 have hgt : (trees26.map asI).getD pn [] = asI (treeOf x) := by
   unfold treeOf
   rw [hpn, List.getD_eq_getElem?_getD, List.getD_eq_getElem?_getD, List.getElem?_map, List.getElem?_eq_getElem (by omega)]
   rfl
 rw [hgt] at hia
 refine x1_1 (⟨_, rfl⟩ : ∃ tr, treeOf x = tr) fun tr htr => ?_
 rw [htr] at hia htm hQ
 have HA : Hold (IntsAre ws (asI tr)) := ⟨hia⟩
 have HM : Hold ((a, listOf ws.toArray n) ∈ fx) := ⟨hma⟩
 clear hia hma hgt htr h26
 rename News g L _ _ => N_2
 refine list_itemK (News.isList (items := tvs.toArray) (n := nt) (d := none) (sl := #[]) N_2 (by k_mem)) (by simpa using hxa) (by omega) ?_
 refine (?_ : wpAny _ _ _ _ _ _)
 k_steps
 unfold Stop
 rename Fr g L _ _ => F_3
 rename News g L _ _ => N_3
 refine evl_comp (h₀ := g) rfl (by decide) rfl (by decide) rfl (fun v => true) (fun v y => ∃ u, y = .str (leavesT (gs10.getD (intV v).toNat [])) u) ?_
 k_steps
 have hwl : ws.length = tr.length := by
   have := congrArg List.length (ints_map HA.out)
   simpa using this
 have hsT := List.all_eq_true.mp trees_sorted tr htm
 simp only [Bool.and_eq_true, decide_eq_true_eq, List.all_eq_true] at hsT
 have hrd : ∀ j ∈ tr, j < 10 := hsT.2
 have htl2 : tr.length <= 2 := hsT.1.2
 have HM3 : Hold ((a, listOf ws.toArray n) ∈ (161, tabObj pst) :: (cd, oc) :: (RL, listOf rvs.toArray nr) :: fx) := ⟨by
   iterate 3 refine List.mem_cons_of_mem _ ?_
   exact HM.out⟩
 refine iter_list rfl F_3 N_3 (News.isList (items := ws.toArray) (n := n) (d := none) (sl := #[]) N_3 HM3.out) (by simp [sizeLine_eq]; omega) fun itv h_7 S => ?_
 refine i4_3 _ _ _ _ S ⟨fun C i v s_3 m_3 E' hv F_4 N_4 hm_4 => ?_, fun C i v s_3 m_3 E' hv hp F_4 N_4 hm_4 => ?_⟩ (fun D2 h' tk' ys nD vs F_5 N_5 neD hlen hP hF => ?_)
 · exact wpAny_pure ⟨rfl, ⟨_, _, rfl, fun _ _ e => e⟩⟩
 · refine x2_2 (ints_mem HA.out v (List.mem_of_getElem? (by simpa using hv))) fun kk t hcz2 hkl => ?_
   cases hcz2
   refine x1_2 (List.mem_map.mp hkl) fun j hj hcz2 => ?_
   cases hcz2
   have hj10 := hrd j hj
   have hgll : gl.length = 10 := by
     have := congrArg List.length HG.out
     rw [List.length_map, List.length_map] at this
     exact this
   obtain ⟨tq, hxq⟩ : ∃ tq, (strValues gl).toArray[j]? = some (.str (leavesT (gs10.getD j [])) tq) := by
     refine ⟨(gl[j]'(by omega)).2, ?_⟩
     have h1 : (gl.map (·.1))[j]? = (gs10.map leavesT)[j]? := by rw [HG.out]
     have h10 : gs10.length = 10 := rfl
     rw [List.getElem?_map, List.getElem?_map, List.getElem?_eq_getElem (by omega), List.getElem?_eq_getElem (by omega)] at h1
     simp only [Option.map_some, Option.some.injEq] at h1
     simp only [strValues, List.getElem?_toArray, List.getElem?_map]
     rw [List.getElem?_eq_getElem (by omega), Option.map_some, h1, List.getD_eq_getElem?_getD, List.getElem?_eq_getElem (by omega)]
     rfl
   refine wpAny_mono (Q := fun z s_4 => Hold ((∃ u, z = .str (leavesT (gs10.getD j [])) u) /\ Keeps s_3 s_4)) ?_ (fun _ _ z => z.out) fun _ _ z => z
   have F_6 := fr_know F_4 hm_4
   clear F_3 N_3 S F_4
   k_steps
   unfold Stop
   refine list_itemK (News.isList (items := (strValues gl).toArray) (n := ng) (d := none) (sl := #[]) N_4 (by k_mem)) hxq (by omega) ?_
   exact ⟨⟨⟨_, rfl⟩, ⟨_, _, rfl, fun _ _ e => e⟩⟩⟩
 · dsimp only
   replace F_5 := (show Fr g L h' _ from F_5)
   replace N_5 := (show News g L h' _ from N_5)
   have hvs := vs_list (by simpa using hlen) hP
   rw [List.filter_eq_self.mpr (fun _ _ => rfl), hvs] at hF
   refine x1_2 (map_strs (fun v => leavesT (gs10.getD (intV v).toNat [])) hF) fun gl2 hgl2 hgm2 => ?_
   have hgs2 : gl2.map (·.1) = (selG tr).map leavesT := by
     rw [hgm2]
     have e0 : (ws.toArray.toList).map (fun v => leavesT (gs10.getD (intV v).toNat [])) = (ws.map intV).map fun k => leavesT (gs10.getD k.toNat []) := by rw [List.map_map]; rfl
     rw [e0, ints_map HA.out, List.map_map]
     unfold selG
     rw [List.map_map]
     rfl
   refine x1_1 (⟨ys.toList, by simp⟩ : ∃ l : List Value, ys = l.toArray) fun ysl hcz1 => ?_
   cases hcz1
   simp only at hgl2
   subst hgl2
   have HG2 : Hold (gl2.map (·.1) = (selG tr).map leavesT) := ⟨hgs2⟩
   have nD161 := neD (161, tabObj pst) (by k_mem)
   have nDcd := neD (cd, oc) (by k_mem)
   have HND : Hold (∀ q ∈ (161, tabObj pst) :: (cd, oc) :: (RL, listOf rvs.toArray nr) :: fx, @Ne Nat q.1 D2) := ⟨neD⟩
   clear hvs hlen hP hF hgm2 hgs2 S F_3 N_3 neD
   refine (?_ : wpAny _ _ _ _ _ _)
   k_steps
   unfold Stop
   rename Fr g L _ _ => F_6
   rename News g L _ _ => N_6
   refine x1_1 (⟨_, rfl⟩ : ∃ tn, nums.getD (k + 1) 0 = tn) fun tn htn => ?_
   refine x1_1 (⟨_, rfl⟩ : ∃ nu, nums.getD (k + 2) 0 = nu) fun nu hnu => ?_
   refine item_list_intsR (News.isList (items := nvs.toArray) (n := nn) (d := none) (sl := #[]) N_6 (by k_mem)) HI.out (by omega) (by omega) (by omega) fun t_2 => ?_
   rw [show nums.getD ((k : Int) + 1).toNat 0 = tn by rw [show ((k : Int) + 1).toNat = k + 1 by omega]; exact htn]
   refine (?_ : wpAny _ _ _ _ _ _)
   k_steps
   unfold Stop
   refine item_list_intsR (News.isList (items := nvs.toArray) (n := nn) (d := none) (sl := #[]) N_6 (by k_mem)) HI.out (by omega) (by omega) (by omega) fun t_3 => ?_
   rw [show nums.getD ((k : Int) + 2).toNat 0 = nu by rw [show ((k : Int) + 2).toNat = k + 2 by omega]; exact hnu]
   refine (?_ : wpAny _ _ _ _ _ _)
   k_steps
   unfold Stop
   have N_7 : News g L _ ([(161, tabObj pst), (cd, oc)] ++ ((D2, listOf (strValues gl2).toArray nD) :: (RL, listOf rvs.toArray nr) :: fx)) := pickN N_6 (by walk_at "sub")
   have hD161 : @Ne Nat D2 161 := Ne.symm (HND.out (161, tabObj pst) List.mem_cons_self)
   have hDcd : @Ne Nat D2 cd := Ne.symm (HND.out (cd, oc) (List.mem_cons_of_mem _ List.mem_cons_self))
   have off : ∀ pC ∈ (D2, listOf (strValues gl2).toArray nD) :: (RL, listOf rvs.toArray nr) :: fx, pC.1 ∉ [(161, tabObj pst), (cd, oc)].map (·.1) := fun q hq hm => by
     have hm' : @Eq Nat q.1 161 \/ @Eq Nat q.1 cd := by
       rcases List.mem_cons.mp hm with h | h
       · exact .inl h
       · exact .inr (List.mem_singleton.mp h)
     rcases List.mem_cons.mp hq with rfl | hq
     · exact hm'.elim hD161 hDcd
     · exact hm'.elim (hap2 q hq).1 (hap2 q hq).2
   refine x0_2 (base_of F_6 N_7) fun W_7 k_7 => ?_
   have hG7 : (hideAll _ ([(161, tabObj pst), (cd, oc)].map (·.1))).IsList D2 (strValues gl2).toArray := ⟨_, hideAll_get _ (N_7 (D2, listOf (strValues gl2).toArray nD) (by k_mem)).1 (off _ List.mem_cons_self), rfl, _, rfl⟩
   have hsel : ∀ g ∈ selG tr, g ∈ gs10 := selG_mem htm
   refine callC 9 (c_written (p := pC) (loose := looseC) (mg := mgC) (mb := mbC) (w := w) (TB.keeps k_7) (T.keeps k_7) (Frag.In.keeps X k_7) h1 (W_7 _ rfl) HL.out hG7 HG2.out (by unfold selG; rw [List.length_map]; omega) (fun g hg => ⟨gs10_len g (hsel g hg), gs10_ok g (hsel g hg)⟩) fun s₁ c' P oc' ps np PP hpcs LS1 dis hPz => ?_)
   refine x0_2 (WP.back2 PP F_6 N_7 off) fun F_8 N_8 => ?_
   have ap : ∀ (c : Nat) (o : Obj), ((c : Addr), o) ∈ [(161, tabObj (lamTab lamPos c')), (c', oc'), (P, listOf ps np)] -> ∀ pC ∈ (D2, listOf (strValues gl2).toArray nD) :: (RL, listOf rvs.toArray nr) :: fx, @Ne Nat pC.1 c := fun c o hc pC hp e => by
     have z := (PP.news _ hc).2
     have y := hideAll_get _ (N_7 pC (List.mem_append_right _ hp)).1 (off pC hp)
     rw [show pC.1 = (c : Addr) from e] at y
     exact nomatch z.symm.trans y
   have os_1 := PP.os
   have ba_1 := PP.bare
   refine x0_2 (dis) fun dis1 dis2 => ?_
   try clear dis
   have apc := ap c' oc' (List.mem_cons_of_mem _ List.mem_cons_self)
   simp only [List.cons_append, List.nil_append] at N_8
   have HAP : Hold (∀ pC ∈ (D2, listOf (strValues gl2).toArray nD) :: (RL, listOf rvs.toArray nr) :: fx, @Ne Nat pC.1 c') := ⟨apc⟩
   clear F_6 N_6 N_7 off W_7 k_7 hG7 PP ap apc
   refine x1_2 (hpcs) fun pl hcz1 hpl => ?_
   try clear hpcs
   cases hcz1
   have e4 : lvOf tn = rot (tn.fmod 4).toNat := rfl
   rw [e4] at hpl
   have hr4 : (tn.fmod 4).toNat < 4 := by
     have h0 := Int.fmod_nonneg_of_pos tn (b := 4) (by decide)
     have h1 := Int.fmod_lt_of_pos tn (b := 4) (by decide)
     omega
   refine x0_5 (read_law htm hr4 (fgOf nu) (ys := pl.map (·.1)) hpl) fun hok hpz hgood hfz hrd2 => ?_
   have HRL : Hold (∀ ns, List.Perm ns (readP (gs10.map leavesT) (readCs (pl.map (·.1)))) -> ns.Pairwise (· <= ·) -> ns = asI tr) := ⟨hrd2⟩
   have HP : Hold ((∀ y ∈ pl.map (·.1), PieceOk y) /\ (∀ b, Good (joinS ((readCs (pl.map (·.1))).drop b))) /\ (readP (gs10.map leavesT) (readCs (pl.map (·.1)))).length < 64) := ⟨hok, hgood, hfz⟩
   clear hok hgood hfz hrd2 hpl
   dsimp only
   refine (?_ : wpAny _ _ _ _ _ _)
   k_steps
   unfold Stop
   rename Fr g L _ _ => F_9
   rename News g L _ _ => N_9
   refine callC 5 (c_read (p := pC) (loose := looseC) (mg := mgC) (mb := mbC) (w := w) (T.keeps F_9.keep) (Frag.In.keeps X F_9.keep) (News.isList (items := (strValues pl).toArray) (n := np) (d := none) (sl := #[]) N_9 (by k_mem)) (News.isList (items := (strValues gl).toArray) (n := ng) (d := none) (sl := #[]) N_9 (by k_mem)) rfl HP.out.1 hpz HG.out (by decide) gs10_len4 HP.out.2.1 HP.out.2.2 fun s_2 D vs ns nv KP hD hDn hiv hperm hsort => ?_)
   have hns := HRL.out ns hperm hsort
   subst hns
   have F_10 := fr_keeps F_9 KP.keep
   have dL : @Ne Nat D L := fun e => by
     obtain ⟨o, _, _, ho, _⟩ := F_9.ns
     rw [show (L : Addr) = D from e.symm] at ho
     exact nomatch ho.symm.trans hDn
   have dB : g.get? D = none := by
     cases q : g.get? D with
     | none => rfl
     | some o => exact nomatch (F_9.keep _ _ q).symm.trans hDn
   have dN : ∀ q ∈ (161, tabObj (lamTab lamPos c')) :: (c', oc') :: (P, listOf (strValues pl).toArray np) :: (D2, listOf (strValues gl2).toArray nD) :: (RL, listOf rvs.toArray nr) :: fx, @Ne Nat q.1 D := fun q hq e => by
     have z := (N_9 q hq).1
     rw [show q.1 = (D : Addr) from e] at z
     exact nomatch z.symm.trans hDn
   have k10 := fun q hq => (⟨KP.keep _ _ (N_9 q hq).1, (N_9 q hq).2⟩ : s_2.heap.get? q.1 = some q.2 /\ q.1 ≠ L /\ g.get? q.1 = none)
   have N_10 : News g L s_2.heap ((161, tabObj (lamTab lamPos c')) :: (c', oc') :: (RL, listOf rvs.toArray nr) :: (D, listOf (List.toArray vs) nv) :: fx) := alC (k10 _ (by k_mem)) (alC (k10 _ (by k_mem)) (alC (k10 _ (by k_mem)) (alC ⟨hD, dL, dB⟩ (pickA k10 (by walk_at "tail")))))
   have HDN : Hold (∀ q ∈ fx, @Ne Nat q.1 D) := ⟨fun q hq => dN q (by
     iterate 5 refine List.mem_cons_of_mem _ ?_
     exact hq)⟩
   have HV : Hold (IntsAre vs (asI tr)) := ⟨hiv⟩
   have dRL : @Ne Nat RL D := dN (RL, listOf rvs.toArray nr) (by k_mem)
   have dfix : Hold (@Ne Nat 161 D /\ @Ne Nat c' D) := ⟨dN (161, tabObj (lamTab lamPos c')) (by k_mem), dN (c', oc') (by k_mem)⟩
   have os_2 := KP.os
   have ba_2 := KP.bare
   clear F_9 N_9 KP hD hDn hperm hsort dL dB dN hiv HRL HP hpz
   dsimp only
   refine (?_ : wpAny _ _ _ _ _ _)
   k_steps
   unfold Stop
   rename Fr g L _ _ => F_11
   rename News g L _ _ => N_11
   have zR := N_11 (RL, listOf rvs.toArray nr) (by k_mem)
   refine wpAny_list_append_plain (hsz := by simp [sizeLine_eq]; omega) ⟨nr, zR.1⟩ fun h_12 li_12 hs_12 => ?_
   refine x1_1 (li_12) fun nr' hn' => ?_
   try clear li_12
   rw [List.push_toArray] at hn'
   have F_12 := F_11.change hs_12 zR.2.1 zR.2.2
   have rl161 := hap2 (RL, listOf rvs.toArray nr) List.mem_cons_self
   have rlc : @Ne Nat RL c' := HAP.out (RL, listOf rvs.toArray nr) (by k_mem)
   have k12 := fun q hq (ne : @Ne Nat q.1 RL) => (⟨hs_12.extBut _ _ ne (N_11 q hq).1, (N_11 q hq).2⟩ : h_12.get? q.1 = some q.2 /\ q.1 ≠ L /\ g.get? q.1 = none)
   have N_12 : News g L h_12 ((161, tabObj (lamTab lamPos c')) :: (c', oc') :: (RL, listOf (rvs ++ [Value.ref D]).toArray nr') :: (D, listOf (List.toArray vs) nv) :: fx) := alC (k12 _ (by k_mem) (Ne.symm rl161.1)) (alC (k12 _ (by k_mem) (Ne.symm rlc)) (alC ⟨hn', zR.2⟩ (alC (k12 _ (by k_mem) (Ne.symm dRL)) fun q hq => k12 q (List.mem_cons_of_mem _ (List.mem_cons_of_mem _ (List.mem_cons_of_mem _ (List.mem_cons_of_mem _ hq)))) (hap q hq))))
   clear F_11 N_11 zR hs_12 hn'
   refine (?_ : wpAny _ _ _ _ _ _)
   k_steps
   unfold Stop
   rename Fr g L _ _ => F_13
   rename News g L _ _ => N_13
   refine item_neg1 (vs := rvs) (x := Value.ref D) (News.isList (items := (rvs ++ [Value.ref D]).toArray) (n := nr') (d := none) (sl := #[]) N_13 (by k_mem)) ?_
   refine (?_ : wpAny _ _ _ _ _ _)
   k_steps
   unfold Stop
   refine ne_intsK (vs := vs) (us := ws) (News.isList (items := vs.toArray) (n := nv) (d := none) (sl := #[]) N_13 (by k_mem)) HV.out (News.isList (items := ws.toArray) (n := n) (d := none) (sl := #[]) N_13 (by
     iterate 4 refine List.mem_cons_of_mem _ ?_
     exact HM.out)) HA.out (Nat.le_of_ble_eq_true rfl) ?_
   rw [decide_eq_true rfl, Bool.not_true]
   refine (?_ : wpAny _ _ _ _ _ _)
   k_steps
   refine x1_3 (⟨_, F_13, rfl, rfl⟩ : ∃ m9, Fr g L h_12 m9 /\ m9 "numbers" = some (.ref NL) /\ m9 "trees" = some (.ref TL)) fun m9 F_14 w1 w2 => ?_
   have F_15 := fr_know (x := "numbers") (fr_know (x := "trees") F_14 w2) w1
   exact hQ _ m9 D vs nv nr' c' oc' F_15 N_13 HV.out LS1 dis1 (alC (Ne.symm dRL) hap) (alC ⟨rl161.1, rlc⟩ (alC ⟨Ne.symm dfix.out.1, Ne.symm dfix.out.2⟩ fun q hq => ⟨(hap2 q (List.mem_cons_of_mem _ hq)).1, HAP.out q (List.mem_cons_of_mem _ (List.mem_cons_of_mem _ hq))⟩)) HDN.out (os_2.trans os_1) fun z => ba_2 (ba_1 z)
end lw_turnH
theorem lw_turn {w g s L RL NL TL G cd fa k cdx o1 o2 pst rvs nvs tvs nums rows gl fx nr nn nt ng tk m Q} : lw_turnH.Stm p loose mg mb w g s L RL NL TL G cd fa k cdx o1 o2 pst rvs nvs tvs nums rows gl fx nr nn nt ng tk m Q := pk_all (p := lw_turnH.cx) (by with_unfolding_all exact lw_turnH.main) ((((((p, loose), mg), (mb, w)), ((g, s), (L, RL))), (((NL, TL), (G, cd)), ((fa, k), (cdx, o1)))), ((((o2, pst), (rvs, nvs)), ((tvs, nums), (rows, gl))), (((fx, nr), (nn, nt)), ((ng, tk), (m, Q)))))
end
end Mine
end
section
namespace Mine
noncomputable def execAt (body : List Stmt) (k : Nat) (env : Env) : Sem Flow := match body.drop k with
 | st :: _ => exec st env
 | [] => pure .next
section
namespace lw_checkH
noncomputable def Stm (pC : Program) (looseC : List Str) (mgC mbC : Str -> Option Value) (w : World) (g : Heap) (s : Shared) (L NL TL ML G cd fa : Nat) (cdx : Value) (o1 : Obj) (pst : Array Value) (nvs tvs mvs : List Value) (nums : List Int) (tr : List Nat) (gl : List (Str × Tok)) (fx : List (Addr × Obj)) (nn nt ng nm : Nat) (m : Str -> Option Value) (Q : Flow -> Shared -> Prop) : Prop := ∀ {oc : Obj} {name qual : Str} {params : Arguments} {body : List Stmt} {scope : Scope} {dV kV doc pm cdv ct ocl : Value} {an odd : Option Addr} {osl : Array (Option Value)} (TB : TopB pC looseC mgC mbC g) (T : TopRead pC looseC mgC mbC g) (X : (Mine.mk.heap_1 w.params).In g) (ho : (Mine.mk.heap_1 w.params).lookup 243 = some ⟨ocl, odd, .func (fnOf name qual params body scope dV kV doc pm an cdv ct), osl⟩) (F : Fr g L s.heap (fun y => if y = "numbers" then some (.ref NL) else if y = "trees" then some (.ref TL) else if y = "most" then some (.ref ML) else m y)) (N : News g L s.heap ([(161, tabObj pst), (cd, oc)] ++ (fx))) (m1 : ((L + 1 : Nat), o1) ∈ fx) (mN : ((NL : Addr), listOf nvs.toArray nn) ∈ fx) (mT : ((TL : Addr), listOf tvs.toArray nt) ∈ fx) (mG : ((G : Addr), listOf (strValues gl).toArray ng) ∈ fx) (mM : ((ML : Addr), listOf mvs.toArray nm) ∈ fx) (d1 : o1.data = .cell (some (.ref G))) (LS0 : LS lamPos lamQual pst cd oc) (hn : IntsAre nvs nums) (hnl : nums.length = 9) (hgl : gl.map (·.1) = gs10.map leavesT) (hOt : OnLed fx tvs (trees26.map asI)) (hm : IntsAre mvs (asI tr)) (htm : tr ∈ trees26) (h1 : 161 ≠ cd) (hap2 : ∀ q ∈ fx, @Ne Nat q.1 161 /\ @Ne Nat q.1 cd) (hQ : ∀ s' (c' : Nat) oc', Fr g L s'.heap (fun y => if y = "numbers" then some (.ref NL) else if y = "trees" then some (.ref TL) else if y = "most" then some (.ref ML) else m y) ->
     News g L s'.heap ([(161, tabObj (lamTab lamPos c')), (c', oc')] ++ (fx)) -> LS lamPos lamQual (lamTab lamPos c') c' oc' -> 161 ≠ c' -> (∀ q ∈ fx, @Ne Nat q.1 161 /\ @Ne Nat q.1 c') -> s'.os = s.os -> (AllBare s.gens -> AllBare s'.gens) -> Q .next s'), wpAny (model Challenge.rw_kl0462_01.prog w) (lawA qual scope L fa cdx) (execAt body 6 (envOfC qual scope L fa cdx)) Q NF s
noncomputable def cx (v : ((((Program × (List Str)) × ((Str -> Option Value) × (Str -> Option Value))) × ((World × Heap) × (Shared × Nat))) × (((Nat × Nat) × (Nat × Nat)) × ((Nat × Nat) × Value))) × ((((Obj × (Array Value)) × (List Value × (List Value))) × ((List Value × (List Int)) × (List Nat × (List (Str × Tok))))) × ((((List (Addr × Obj)) × Nat) × (Nat × Nat)) × ((Nat × (Str -> Option Value)) × (Flow -> Shared -> Prop))))) : Prop := Stm v.1.1.1.1.1 v.1.1.1.1.2 v.1.1.1.2.1 v.1.1.1.2.2 v.1.1.2.1.1 v.1.1.2.1.2 v.1.1.2.2.1 v.1.1.2.2.2 v.1.2.1.1.1 v.1.2.1.1.2 v.1.2.1.2.1 v.1.2.1.2.2 v.1.2.2.1.1 v.1.2.2.1.2 v.1.2.2.2 v.2.1.1.1.1 v.2.1.1.1.2 v.2.1.1.2.1 v.2.1.1.2.2 v.2.1.2.1.1 v.2.1.2.1.2 v.2.1.2.2.1 v.2.1.2.2.2 v.2.2.1.1.1 v.2.2.1.1.2 v.2.2.1.2.1 v.2.2.1.2.2 v.2.2.2.1.1 v.2.2.2.1.2 v.2.2.2.2
noncomputable section
def tup := pk (by walk_at "ne") cx
@[irreducible]def pC:=tup.1.1.1.1.1
@[irreducible]def looseC:=tup.1.1.1.1.2
@[irreducible]def mgC:=tup.1.1.1.2.1
@[irreducible]def mbC:=tup.1.1.1.2.2
@[irreducible]def w:=tup.1.1.2.1.1
@[irreducible]def g:=tup.1.1.2.1.2
@[irreducible]def s:=tup.1.1.2.2.1
@[irreducible]def L:=tup.1.1.2.2.2
@[irreducible]def NL:=tup.1.2.1.1.1
@[irreducible]def TL:=tup.1.2.1.1.2
@[irreducible]def ML:=tup.1.2.1.2.1
@[irreducible]def G:=tup.1.2.1.2.2
@[irreducible]def cd:=tup.1.2.2.1.1
@[irreducible]def fa:=tup.1.2.2.1.2
@[irreducible]def cdx:=tup.1.2.2.2
@[irreducible]def o1:=tup.2.1.1.1.1
@[irreducible]def pst:=tup.2.1.1.1.2
@[irreducible]def nvs:=tup.2.1.1.2.1
@[irreducible]def tvs:=tup.2.1.1.2.2
@[irreducible]def mvs:=tup.2.1.2.1.1
@[irreducible]def nums:=tup.2.1.2.1.2
@[irreducible]def tr:=tup.2.1.2.2.1
@[irreducible]def gl:=tup.2.1.2.2.2
@[irreducible]def fx:=tup.2.2.1.1.1
@[irreducible]def nn:=tup.2.2.1.1.2
@[irreducible]def nt:=tup.2.2.1.2.1
@[irreducible]def ng:=tup.2.2.1.2.2
@[irreducible]def nm:=tup.2.2.2.1.1
@[irreducible]def m:=tup.2.2.2.1.2
@[irreducible]def Q:=tup.2.2.2.2
end
theorem main : Stm pC looseC mgC mbC w g s L NL TL ML G cd fa cdx o1 pst nvs tvs mvs nums tr gl fx nn nt ng nm m Q := by
 intro oc name qual params body scope dV kV doc pm cdv ct ocl an odd osl TB T X ho F N m1 mN mT mG mM d1 LS0 hn hnl hgl hOt hm htm h1 hap2 hQ
 have kS1 : KX := trivial
 have kSg : KG := trivial
 have kS2 : Key "eval ListComp" := trivial
 have kS3 : Key "exec Assign cons ListComp" := trivial
 have kS4 : Key "call type:range" := trivial
 have kS5 : KeyL "call builtin:len" := trivial
 have kS6 : Key "compareOp In int ref" := trivial
 have kS7 : Key "subscriptTail Name BinOp ref int" := trivial
 have kS8 : Key "subscriptTail Name Name ref int" := trivial
 have kS9 : Key "subscriptTail Name UnaryOp ref int" := trivial
 have kS10 : Key "subscriptTail Name Constant ref int" := trivial
 have kS11 : Key "call ref" := trivial
 have kS12 : Key "call builtin:list.append" := trivial
 have kS13 : Key "compareOp NotEq ref ref" := trivial
 have kS14 : Key "compareOp NotIn ref ref" := trivial
 revert X ho
 k_fill
 intro X ho
 have e := ho.symm.trans (by k_is)
 refine x0_3 (fnE e) fun hcz0 hcz1 hcz2 => ?_
 cases hcz0
 cases hcz1
 cases hcz2
 clear e
 dsimp only [execAt, List.drop]
 have HT : Hold (OnLed fx tvs (trees26.map asI)) := ⟨hOt⟩
 have HG : Hold (gl.map (·.1) = gs10.map leavesT) := ⟨hgl⟩
 have HI : Hold (IntsAre nvs nums) := ⟨hn⟩
 have HL : Hold (LS lamPos lamQual pst cd oc) := ⟨LS0⟩
 have HA : Hold (IntsAre mvs (asI tr)) := ⟨hm⟩
 clear ho hOt hgl hn LS0 hm
 simp only [List.cons_append, List.nil_append] at N
 k_steps
 unfold Stop
 refine kqd_notIn (n₁ := fx) (n₂ := [(ML, listOf mvs.toArray nm)]) (ds := (trees26.map asI).map ldat) (d := ldat (asI tr)) (xs := tvs) N (by k_mem) rfl rfl HT.out.dat ?_ (.list List.mem_cons_self (datAll_ints HA.out)) ?_ ?_ (ldat_ok _) (Nat.le_of_ble_eq_true rfl) ?_
 · intro q hq
   iterate 2 refine List.mem_cons_of_mem _ ?_
   exact hq
 · intro q hq
   rw [List.mem_singleton.mp hq]; k_mem
 · intro d hd
   obtain ⟨l, _, (rfl)⟩ := List.mem_map.mp hd
   exact ldat_ok _
 have hin : ldat (asI tr) ∈ (trees26.map asI).map ldat := List.mem_map_of_mem (List.mem_map_of_mem htm)
 have hdd : ∀ (i : Decidable (ldat (asI tr) ∈ (trees26.map asI).map ldat)), @decide _ i = true := fun i => @decide_eq_true _ i hin
 rw [hdd, Bool.not_true]
 clear hdd hin
 refine (?_ : wpAny _ _ _ _ _ _)
 k_steps
 unfold Stop
 rename Fr g L _ _ => F_3
 rename News g L _ _ => N_3
 refine evl_comp (h₀ := g) rfl (by decide) rfl (by decide) rfl (fun v => true) (fun v y => ∃ u, y = .str (leavesT (gs10.getD (intV v).toNat [])) u) ?_
 k_steps
 have hwl : mvs.length = tr.length := by
   have := congrArg List.length (ints_map HA.out)
   simpa using this
 have hsT := List.all_eq_true.mp trees_sorted tr htm
 simp only [Bool.and_eq_true, decide_eq_true_eq, List.all_eq_true] at hsT
 have hrd : ∀ j ∈ tr, j < 10 := hsT.2
 have htl2 : tr.length <= 2 := hsT.1.2
 refine iter_list rfl F_3 N_3 (News.isList (items := mvs.toArray) (n := nm) (d := none) (sl := #[]) N_3 (by k_mem)) (by simp [sizeLine_eq]; omega) fun itv h_7 S => ?_
 refine i4_3 _ _ _ _ S ⟨fun C i v s_3 m_3 E' hv F_4 N_4 hm_4 => ?_, fun C i v s_3 m_3 E' hv hp F_4 N_4 hm_4 => ?_⟩ (fun D2 h' tk' ys nD vs F_5 N_5 neD hlen hP hF => ?_)
 · exact wpAny_pure ⟨rfl, ⟨_, _, rfl, fun _ _ e => e⟩⟩
 · refine x2_2 (ints_mem HA.out v (List.mem_of_getElem? (by simpa using hv))) fun kk t hcz2 hkl => ?_
   cases hcz2
   refine x1_2 (List.mem_map.mp hkl) fun j hj hcz2 => ?_
   cases hcz2
   have hj10 := hrd j hj
   have hgll : gl.length = 10 := by
     have := congrArg List.length HG.out
     rw [List.length_map, List.length_map] at this
     exact this
   obtain ⟨tq, hxq⟩ : ∃ tq, (strValues gl).toArray[j]? = some (.str (leavesT (gs10.getD j [])) tq) := by
     refine ⟨(gl[j]'(by omega)).2, ?_⟩
     have h1 : (gl.map (·.1))[j]? = (gs10.map leavesT)[j]? := by rw [HG.out]
     have h10 : gs10.length = 10 := rfl
     rw [List.getElem?_map, List.getElem?_map, List.getElem?_eq_getElem (by omega), List.getElem?_eq_getElem (by omega)] at h1
     simp only [Option.map_some, Option.some.injEq] at h1
     simp only [strValues, List.getElem?_toArray, List.getElem?_map]
     rw [List.getElem?_eq_getElem (by omega), Option.map_some, h1, List.getD_eq_getElem?_getD, List.getElem?_eq_getElem (by omega)]
     rfl
   refine wpAny_mono (Q := fun z s_4 => Hold ((∃ u, z = .str (leavesT (gs10.getD j [])) u) /\ Keeps s_3 s_4)) ?_ (fun _ _ z => z.out) fun _ _ z => z
   have F_6 := fr_know F_4 hm_4
   clear F_3 N_3 S F_4
   k_steps
   unfold Stop
   refine list_itemK (News.isList (items := (strValues gl).toArray) (n := ng) (d := none) (sl := #[]) N_4 (by k_mem)) hxq (by omega) ?_
   exact ⟨⟨⟨_, rfl⟩, ⟨_, _, rfl, fun _ _ e => e⟩⟩⟩
 · dsimp only
   replace F_5 := (show Fr g L h' _ from F_5)
   replace N_5 := (show News g L h' _ from N_5)
   have hvs := vs_list (by simpa using hlen) hP
   rw [List.filter_eq_self.mpr (fun _ _ => rfl), hvs] at hF
   refine x1_2 (map_strs (fun v => leavesT (gs10.getD (intV v).toNat [])) hF) fun gl2 hgl2 hgm2 => ?_
   have hgs2 : gl2.map (·.1) = (selG tr).map leavesT := by
     rw [hgm2]
     have e0 : (mvs.toArray.toList).map (fun v => leavesT (gs10.getD (intV v).toNat [])) = (mvs.map intV).map fun k => leavesT (gs10.getD k.toNat []) := by rw [List.map_map]; rfl
     rw [e0, ints_map HA.out, List.map_map]
     unfold selG
     rw [List.map_map]
     rfl
   refine x1_1 (⟨ys.toList, by simp⟩ : ∃ l : List Value, ys = l.toArray) fun ysl hcz1 => ?_
   cases hcz1
   simp only at hgl2
   subst hgl2
   have HG2 : Hold (gl2.map (·.1) = (selG tr).map leavesT) := ⟨hgs2⟩
   have nD161 := neD (161, tabObj pst) (by k_mem)
   have nDcd := neD (cd, oc) (by k_mem)
   have HND : Hold (∀ q ∈ (161, tabObj pst) :: (cd, oc) :: fx, @Ne Nat q.1 D2) := ⟨neD⟩
   clear hvs hlen hP hF hgm2 hgs2 S F_3 N_3 neD
   refine (?_ : wpAny _ _ _ _ _ _)
   k_steps
   unfold Stop
   rename Fr g L _ _ => F_6
   rename News g L _ _ => N_6
   refine x1_1 (⟨_, rfl⟩ : ∃ tn, nums.getD 1 0 = tn) fun tn htn => ?_
   refine x1_1 (⟨_, rfl⟩ : ∃ nu, nums.getD 2 0 = nu) fun nu hnu => ?_
   refine item_list_intsR (News.isList (items := nvs.toArray) (n := nn) (d := none) (sl := #[]) N_6 (by k_mem)) HI.out (by omega) (by omega) (by omega) fun t_2 => ?_
   rw [show nums.getD ((1 : Int)).toNat 0 = tn from htn]
   refine (?_ : wpAny _ _ _ _ _ _)
   k_steps
   unfold Stop
   refine item_list_intsR (News.isList (items := nvs.toArray) (n := nn) (d := none) (sl := #[]) N_6 (by k_mem)) HI.out (by omega) (by omega) (by omega) fun t_3 => ?_
   rw [show nums.getD ((2 : Int)).toNat 0 = nu from hnu]
   refine (?_ : wpAny _ _ _ _ _ _)
   k_steps
   unfold Stop
   have N_7 : News g L _ ([(161, tabObj pst), (cd, oc)] ++ ((D2, listOf (strValues gl2).toArray nD) :: fx)) := pickN N_6 (by walk_at "sub")
   have hD161 : @Ne Nat D2 161 := Ne.symm (HND.out (161, tabObj pst) List.mem_cons_self)
   have hDcd : @Ne Nat D2 cd := Ne.symm (HND.out (cd, oc) (List.mem_cons_of_mem _ List.mem_cons_self))
   have off : ∀ pC ∈ (D2, listOf (strValues gl2).toArray nD) :: fx, pC.1 ∉ [(161, tabObj pst), (cd, oc)].map (·.1) := fun q hq hm => by
     have hm' : @Eq Nat q.1 161 \/ @Eq Nat q.1 cd := by
       rcases List.mem_cons.mp hm with h | h
       · exact .inl h
       · exact .inr (List.mem_singleton.mp h)
     rcases List.mem_cons.mp hq with rfl | hq
     · exact hm'.elim hD161 hDcd
     · exact hm'.elim (hap2 q hq).1 (hap2 q hq).2
   refine x0_2 (base_of F_6 N_7) fun W_7 k_7 => ?_
   have hG7 : (hideAll _ ([(161, tabObj pst), (cd, oc)].map (·.1))).IsList D2 (strValues gl2).toArray := ⟨_, hideAll_get _ (N_7 (D2, listOf (strValues gl2).toArray nD) (by k_mem)).1 (off _ List.mem_cons_self), rfl, _, rfl⟩
   have hsel : ∀ g ∈ selG tr, g ∈ gs10 := selG_mem htm
   refine callC 9 (c_written (p := pC) (loose := looseC) (mg := mgC) (mb := mbC) (w := w) (TB.keeps k_7) (T.keeps k_7) (Frag.In.keeps X k_7) h1 (W_7 _ rfl) HL.out hG7 HG2.out (by unfold selG; rw [List.length_map]; omega) (fun g hg => ⟨gs10_len g (hsel g hg), gs10_ok g (hsel g hg)⟩) fun s₁ c' P oc' ps np PP hpcs LS1 dis hPz => ?_)
   refine x0_2 (WP.back2 PP F_6 N_7 off) fun F_8 N_8 => ?_
   have ap : ∀ (c : Nat) (o : Obj), ((c : Addr), o) ∈ [(161, tabObj (lamTab lamPos c')), (c', oc'), (P, listOf ps np)] -> ∀ pC ∈ (D2, listOf (strValues gl2).toArray nD) :: fx, @Ne Nat pC.1 c := fun c o hc pC hp e => by
     have z := (PP.news _ hc).2
     have y := hideAll_get _ (N_7 pC (List.mem_append_right _ hp)).1 (off pC hp)
     rw [show pC.1 = (c : Addr) from e] at y
     exact nomatch z.symm.trans y
   have os_1 := PP.os
   have ba_1 := PP.bare
   refine x0_2 (dis) fun dis1 dis2 => ?_
   try clear dis
   have apc := ap c' oc' (List.mem_cons_of_mem _ List.mem_cons_self)
   simp only [List.cons_append, List.nil_append] at N_8
   have HAP : Hold (∀ pC ∈ (D2, listOf (strValues gl2).toArray nD) :: fx, @Ne Nat pC.1 c') := ⟨apc⟩
   clear F_6 N_6 N_7 off W_7 k_7 hG7 PP ap apc
   refine x1_2 (hpcs) fun pl hcz1 hpl => ?_
   try clear hpcs
   cases hcz1
   have e4 : lvOf tn = rot (tn.fmod 4).toNat := rfl
   rw [e4] at hpl
   have hr4 : (tn.fmod 4).toNat < 4 := by
     have h0 := Int.fmod_nonneg_of_pos tn (b := 4) (by decide)
     have h1 := Int.fmod_lt_of_pos tn (b := 4) (by decide)
     omega
   refine x0_5 (read_law htm hr4 (fgOf nu) (ys := pl.map (·.1)) hpl) fun hok hpz hgood hfz hrd2 => ?_
   have HRL : Hold (∀ ns, List.Perm ns (readP (gs10.map leavesT) (readCs (pl.map (·.1)))) -> ns.Pairwise (· <= ·) -> ns = asI tr) := ⟨hrd2⟩
   have HP : Hold ((∀ y ∈ pl.map (·.1), PieceOk y) /\ (∀ b, Good (joinS ((readCs (pl.map (·.1))).drop b))) /\ (readP (gs10.map leavesT) (readCs (pl.map (·.1)))).length < 64) := ⟨hok, hgood, hfz⟩
   clear hok hgood hfz hrd2 hpl
   dsimp only
   refine (?_ : wpAny _ _ _ _ _ _)
   k_steps
   unfold Stop
   rename Fr g L _ _ => F_9
   rename News g L _ _ => N_9
   refine callC 5 (c_read (p := pC) (loose := looseC) (mg := mgC) (mb := mbC) (w := w) (T.keeps F_9.keep) (Frag.In.keeps X F_9.keep) (News.isList (items := (strValues pl).toArray) (n := np) (d := none) (sl := #[]) N_9 (by k_mem)) (News.isList (items := (strValues gl).toArray) (n := ng) (d := none) (sl := #[]) N_9 (by k_mem)) rfl HP.out.1 hpz HG.out (by decide) gs10_len4 HP.out.2.1 HP.out.2.2 fun s_2 D vs ns nv KP hD hDn hiv hperm hsort => ?_)
   have hns := HRL.out ns hperm hsort
   subst hns
   have F_10 := fr_keeps F_9 KP.keep
   have dL : @Ne Nat D L := fun e => by
     obtain ⟨o, _, _, ho, _⟩ := F_9.ns
     rw [show (L : Addr) = D from e.symm] at ho
     exact nomatch ho.symm.trans hDn
   have dB : g.get? D = none := by
     cases q : g.get? D with
     | none => rfl
     | some o => exact nomatch (F_9.keep _ _ q).symm.trans hDn
   have dN : ∀ q ∈ (161, tabObj (lamTab lamPos c')) :: (c', oc') :: (P, listOf (strValues pl).toArray np) :: (D2, listOf (strValues gl2).toArray nD) :: fx, @Ne Nat q.1 D := fun q hq e => by
     have z := (N_9 q hq).1
     rw [show q.1 = (D : Addr) from e] at z
     exact nomatch z.symm.trans hDn
   have k10 := fun q hq => (⟨KP.keep _ _ (N_9 q hq).1, (N_9 q hq).2⟩ : s_2.heap.get? q.1 = some q.2 /\ q.1 ≠ L /\ g.get? q.1 = none)
   have N_10 : News g L s_2.heap ((161, tabObj (lamTab lamPos c')) :: (c', oc') :: (D, listOf (List.toArray vs) nv) :: fx) := alC (k10 _ (by k_mem)) (alC (k10 _ (by k_mem)) (alC ⟨hD, dL, dB⟩ (pickA k10 (by walk_at "tail"))))
   have HDN : Hold (∀ q ∈ fx, @Ne Nat q.1 D) := ⟨fun q hq => dN q (by
     iterate 4 refine List.mem_cons_of_mem _ ?_
     exact hq)⟩
   have HV : Hold (IntsAre vs (asI tr)) := ⟨hiv⟩
   have dfix : Hold (@Ne Nat 161 D /\ @Ne Nat c' D) := ⟨dN (161, tabObj (lamTab lamPos c')) (by k_mem), dN (c', oc') (by k_mem)⟩
   have os_2 := KP.os
   have ba_2 := KP.bare
   clear F_9 N_9 KP hD hDn hperm hsort dL dB dN hiv HRL HP hpz
   dsimp only
   refine (?_ : wpAny _ _ _ _ _ _)
   k_steps
   unfold Stop
   rename Fr g L _ _ => F_11
   rename News g L _ _ => N_11
   refine ne_intsK (vs := vs) (us := mvs) (News.isList (items := vs.toArray) (n := nv) (d := none) (sl := #[]) N_11 (by k_mem)) HV.out (News.isList (items := mvs.toArray) (n := nm) (d := none) (sl := #[]) N_11 (by k_mem)) HA.out (Nat.le_of_ble_eq_true rfl) ?_
   rw [decide_eq_true rfl, Bool.not_true]
   refine (?_ : wpAny _ _ _ _ _ _)
   k_steps
   rename Fr g L _ _ => F_12
   rename News g L _ _ => N_12
   exact hQ _ c' oc' F_12 (pickN N_12 (by walk_at "sub")) LS1 dis1 (fun q hq => ⟨(hap2 q hq).1, HAP.out q (List.mem_cons_of_mem _ hq)⟩) (os_2.trans os_1) fun z => ba_2 (ba_1 z)
end lw_checkH
theorem lw_check {w g s L NL TL ML G cd fa cdx o1 pst nvs tvs mvs nums tr gl fx nn nt ng nm m Q} : lw_checkH.Stm p loose mg mb w g s L NL TL ML G cd fa cdx o1 pst nvs tvs mvs nums tr gl fx nn nt ng nm m Q := pk_all (p := lw_checkH.cx) (by with_unfolding_all exact lw_checkH.main) (((((p, loose), (mg, mb)), ((w, g), (s, L))), (((NL, TL), (ML, G)), ((cd, fa), cdx))), ((((o1, pst), (nvs, tvs)), ((mvs, nums), (tr, gl))), (((fx, nn), (nt, ng)), ((nm, m), Q))))
end
end Mine
end
section
namespace Mine
noncomputable def wordL (l : List Int) : List Nat := (List.range' 0 10).map fun k : Nat => if (k : Int) ∈ l then 65 + k else 97 + k
theorem item_AJ {i : Int} (h0 : 0 <= i) (h1 : i < 10) : Txt.item (Str.ofString "ABCDEFGHIJ") i = ⟨#[65 + i.toNat]⟩ /\ Txt.item (Str.ofString "abcdefghij") i = ⟨#[97 + i.toNat]⟩ := by
 rcases (by omega : i = 0 \/ i = 1 \/ i = 2 \/ i = 3 \/ i = 4 \/ i = 5 \/ i = 6 \/ i = 7 \/ i = 8 \/ i = 9) with rfl | rfl | rfl | rfl | rfl | rfl | rfl | rfl | rfl | rfl <;> decide +kernel
noncomputable def wordP (l : List Int) : Str := ⟨(wordL l).toArray⟩
section
namespace lw_wordsH
noncomputable def Stm (pC : Program) (looseC : List Str) (mgC mbC : Str -> Option Value) (w : World) (g : Heap) (s : Shared) (L RL fa : Nat) (cdx : Value) (o2 o3 : Obj) (v3 : Option Value) (rvs : List Value) (rows : List (List Int)) (md : List (Addr × Obj)) (nr : Nat) (m : Str -> Option Value) (Q : Flow -> Shared -> Prop) : Prop := ∀ {name qual : Str} {params : Arguments} {body : List Stmt} {scope : Scope} {dV kV doc pm cdv ct oc : Value} {an odd : Option Addr} {osl : Array (Option Value)} (T : TopRead pC looseC mgC mbC g) (X : (Mine.mk.heap_1 w.params).In g) (ho : (Mine.mk.heap_1 w.params).lookup 243 = some ⟨oc, odd, .func (fnOf name qual params body scope dV kV doc pm an cdv ct), osl⟩) (F : Fr g L s.heap m) (N : News g L s.heap ((L + 3, o3) :: (L + 2, o2) :: (RL, listOf rvs.toArray nr) :: md)) (d3 : o3.data = .cell v3) (d2 : o2.data = .cell (some (.ref RL))) (hO : OnLed md rvs rows) (hz : rows.length <= 10) (hz2 : ∀ r ∈ rows, r.length <= 64) (hmd : ∀ q ∈ (RL, listOf rvs.toArray nr) :: md, @Ne Nat q.1 (L + 3)) (hQ : ∀ s' (D : Nat) wl n o3', Fr g L s'.heap m -> News g L s'.heap ((L + 3, o3') :: (D, listOf (List.toArray (strValues wl)) n) :: (L + 2, o2) :: (RL, listOf rvs.toArray nr) :: md) -> (∀ q ∈ md, @Ne Nat q.1 D) -> o3'.data = .cell (some (.ref D)) -> wl.map (·.1) = rows.map wordP -> s'.os = s.os -> (AllBare s.gens -> AllBare s'.gens) ->
    wpAny (model Challenge.rw_kl0462_01.prog w) (lawA qual scope L fa cdx) (execs (body.drop 8) (envOfC qual scope L fa cdx)) Q NF s'), wpAny (model Challenge.rw_kl0462_01.prog w) (lawA qual scope L fa cdx) (execs (body.drop 7) (envOfC qual scope L fa cdx)) Q NF s
noncomputable def cx (v : ((((Program × (List Str)) × (Str -> Option Value)) × ((Str -> Option Value) × World)) × (((Heap × Shared) × Nat) × (Nat × Nat))) × ((((Value × Obj) × Obj) × ((Option Value) × (List Value))) × ((((List (List Int)) × (List (Addr × Obj))) × Nat) × ((Str -> Option Value) × (Flow -> Shared -> Prop))))) : Prop := Stm v.1.1.1.1.1 v.1.1.1.1.2 v.1.1.1.2 v.1.1.2.1 v.1.1.2.2 v.1.2.1.1.1 v.1.2.1.1.2 v.1.2.1.2 v.1.2.2.1 v.1.2.2.2 v.2.1.1.1.1 v.2.1.1.1.2 v.2.1.1.2 v.2.1.2.1 v.2.1.2.2 v.2.2.1.1.1 v.2.2.1.1.2 v.2.2.1.2 v.2.2.2.1 v.2.2.2.2
noncomputable section
def tup := pk (by walk_at "ne") cx
@[irreducible]def pC:=tup.1.1.1.1.1
@[irreducible]def looseC:=tup.1.1.1.1.2
@[irreducible]def mgC:=tup.1.1.1.2
@[irreducible]def mbC:=tup.1.1.2.1
@[irreducible]def w:=tup.1.1.2.2
@[irreducible]def g:=tup.1.2.1.1.1
@[irreducible]def s:=tup.1.2.1.1.2
@[irreducible]def L:=tup.1.2.1.2
@[irreducible]def RL:=tup.1.2.2.1
@[irreducible]def fa:=tup.1.2.2.2
@[irreducible]def cdx:=tup.2.1.1.1.1
@[irreducible]def o2:=tup.2.1.1.1.2
@[irreducible]def o3:=tup.2.1.1.2
@[irreducible]def v3:=tup.2.1.2.1
@[irreducible]def rvs:=tup.2.1.2.2
@[irreducible]def rows:=tup.2.2.1.1.1
@[irreducible]def md:=tup.2.2.1.1.2
@[irreducible]def nr:=tup.2.2.1.2
@[irreducible]def m:=tup.2.2.2.1
@[irreducible]def Q:=tup.2.2.2.2
end
theorem main : Stm pC looseC mgC mbC w g s L RL fa cdx o2 o3 v3 rvs rows md nr m Q := by
 intro name qual params body scope dV kV doc pm cdv ct oc an odd osl T X ho F N d3 d2 hO hz hz2 hmd hQ
 have kS1 : KX := trivial
 have kSg : KG := trivial
 have kS2 : Key "eval ListComp" := trivial
 have kS3 : Key "exec Assign cons ListComp" := trivial
 have kS4 : Key "call type:range" := trivial
 have kS5 : KeyL "call builtin:len" := trivial
 have kS6 : Key "compareOp In int ref" := trivial
 have kS7 : Key "call builtin:str.join" := trivial
 revert X ho
 k_fill
 intro X ho
 have e := ho.symm.trans (by k_is)
 refine x0_3 (fnE e) fun hcz0 hcz1 hcz2 => ?_
 cases hcz0
 cases hcz1
 cases hcz2
 clear e
 dsimp only [List.drop] at hQ ⊢
 have HO : Hold (OnLed md rvs rows) := ⟨hO⟩
 clear ho hO
 k_steps
 unfold Stop
 refine wpAny_Assign_Name ?_
 refine evl_compC (h₀ := g) rfl rfl (by decide) rfl (fun _ => rfl) (fun _ => rfl) (fun _ => true) (fun v y => ∃ u, y = .str (wordP (intsAt s.heap v)) u) ?_
 k_steps
 rename Fr g L _ _ => F_2
 rename News g L _ _ => N_2
 have hI := OnLed.ints (h₀ := g) (L := L) (h := s.heap) (fun q hq => N_2 q (List.mem_cons_of_mem _ (List.mem_cons_of_mem _ (List.mem_cons_of_mem _ hq)))) HO.out
 refine iter_list rfl F_2 N_2 (News.isList N_2 (by k_mem)) (by have := HO.out.len; simp [sizeLine_eq]; omega) fun itv h_7 S => ?_
 refine i4_3 _ _ _ _ S ⟨fun C i v s_3 m_3 E' ox hv F_4 N_4 hox => ?_, fun C i v s_3 m_3 E' ox hv hp F_4 N_4 hox => ?_⟩ (fun D h' tk' ys nD vs F_5 N_5 neD hlen hP hF => ?_)
 · exact wpAny_pure ⟨rfl, ⟨_, _, rfl, fun _ _ e => e⟩⟩
 · have hvm : v ∈ rvs := List.mem_of_getElem? (by simpa using hv)
   refine x4_4 (OnLed.at HO.out v hvm) fun a ws n l hcz4 h1 h2 h3 => ?_
   cases hcz4
   have e1 := intsAt_of (N_2 _ (List.mem_cons_of_mem _ (List.mem_cons_of_mem _ (List.mem_cons_of_mem _ h1)))).1 h2
   rw [e1]
   have za := News.isList (items := ws.toArray) (n := n) (d := none) (sl := #[]) N_4 (List.mem_cons_of_mem _ (List.mem_cons_of_mem _ (List.mem_cons_of_mem _ (List.mem_cons_of_mem _ h1))))
   clear F_2 N_2 S hI
   refine wpAny_mono (Q := fun y s_4 => Hold ((∃ u, y = .str (wordP l) u) /\ Keeps s_3 s_4)) ?_ (fun _ _ z => z.out) fun _ _ z => z
   k_steps
   unfold Stop
   refine evl_compK (h₀ := g) rfl (by decide) rfl (by decide) rfl (fun v => true) (fun v y => ∃ k t u, v = .int k t /\ y = .str ⟨#[if k ∈ l then 65 + k.toNat else 97 + k.toNat]⟩ u) ?_
   k_steps
   unfold Stop
   refine range_iter1K F_4 N_4 (by decide) (by decide) fun it h_2 tk F_5 N_5 l5 hL5 hit5 fr5 k5 => ?_
   refine i5_5 _ _ _ _ _ ((src_range (n := 10) rfl F_5 N_5 l5 hL5 hit5 (by decide)).bnd) (fun I e => by cases e; exact fr5) k5 ⟨fun C_2 i_2 v s_5 m_5 E' hv_5 F_6 N_6 hm => ?_, fun C_2 i_2 v s_5 m_5 E' hv_5 hp_5 F_6 N_6 hm => ?_⟩ (fun A_1 h' tk' ys nA vs' F_8 N_8 neA hlen hP' hF K_8 => ?_)
   · exact wpAny_pure ⟨rfl, ⟨_, _, rfl, fun _ _ e => e⟩⟩
   · obtain ⟨hb, t, hcz2⟩ := (hv_5)
     try clear hv_5
     cases hcz2
     have za' := News.isList (items := ws.toArray) (n := n) (d := none) (sl := #[]) N_6 (List.mem_cons_of_mem _ (List.mem_cons_of_mem _ (List.mem_cons_of_mem _ (List.mem_cons_of_mem _ h1))))
     refine wpAny_mono (Q := fun y s_4 => Hold ((∃ u, y = .str ⟨#[if (0 + (i_2 : Int) * 1) ∈ l then 65 + (0 + (i_2 : Int) * 1).toNat else 97 + (0 + (i_2 : Int) * 1).toNat]⟩ u) /\ Keeps s_5 s_4)) ?_ (fun y s_4 h => ⟨let ⟨u, e⟩ := h.out.1; ⟨_, t, u, rfl, e⟩, h.out.2⟩) fun _ _ z => z
     have hit := item_AJ (i := 0 + (i_2 : Int) * 1) (by omega) (by omega)
     have F_7 := fr_know F_6 hm
     generalize hk : (0 + (i_2 : Int) * 1) = kk at hm F_7 hit ⊢
     have hk0 : 0 <= kk := by omega
     have hk1 : kk < 10 := by omega
     clear F_6 F_4 N_4 F_5 N_5 l5
     k_steps
     unfold Stop
     refine in_list_ints za' h2 ?_
     rw [<- ints_in]
     refine wpAny_truthy_bool ?_
     by_cases hkm : kk ∈ l
     · rw [decide_eq_true hkm, if_pos rfl, if_pos hkm, <- hit.1]
       k_steps
       exact ⟨⟨⟨_, rfl⟩, ⟨_, _, rfl, fun _ _ e => e⟩⟩⟩
     · rw [decide_eq_false hkm, if_neg (by decide), if_neg hkm, <- hit.2]
       k_steps
       exact ⟨⟨⟨_, rfl⟩, ⟨_, _, rfl, fun _ _ e => e⟩⟩⟩
   · dsimp only
     replace F_8 := (show Fr g C h' _ from F_8)
     replace N_8 := (show News g C h' _ from N_8)
     rw [List.filter_eq_self.mpr (fun _ _ => rfl)] at hF
     refine x1_2 (range_strs (a := 0) (n := 10) (fun k => ⟨#[if k ∈ l then 65 + k.toNat else 97 + k.toNat]⟩) hlen (fun j v h => (hP' j v h).2) hF) fun wl hwl hwm => ?_
     refine x1_1 (⟨ys.toList, by simp⟩ : ∃ l : List Value, ys = l.toArray) fun ysl hcz1 => ?_
     cases hcz1
     simp only [List.toList_toArray] at hwl
     subst hwl
     have hwL : (wl.map (·.1)).flatMap (·.cps.toList) = wordL l := by
       rw [hwm]
       exact flat_single (fun k => if (k : Int) ∈ l then 65 + (k : Int).toNat else 97 + (k : Int).toNat) _
     have hlA : Hold (h'.IsList A_1 (strValues wl).toArray) := ⟨News.isList N_8 (n := nA) (d := none) (sl := #[]) List.mem_cons_self⟩
     have K_9 : Hold (∀ b o, s_3.heap.get? b = some o -> h'.get? b = some o) := ⟨K_8⟩
     have HW : Hold ((wl.map (·.1)).flatMap (·.cps.toList) = wordL l) := ⟨hwL⟩
     clear hlen hP' hF K_8 k5 F_4 N_4 F_5 N_5 l5 hwm hwL
     refine (?_ : wpAny _ _ _ _ _ _)
     k_steps
     unfold Stop
     refine join_S hlA.out (by rw [HW.out]; simp [wordL]) fun t' k' => ?_
     have ew : joinS (wl.map (·.1)) = wordP l := congrArg (fun z : List Nat => (⟨z.toArray⟩ : Str)) HW.out
     rw [ew]
     exact ⟨⟨⟨_, rfl⟩, ⟨_, _, rfl, K_9.out⟩⟩⟩
 · dsimp only
   replace F_5 := (show Fr g L h' _ from F_5)
   replace N_5 := (show News g L h' _ from N_5)
   have hvs := vs_list (by simpa using hlen) hP
   rw [List.filter_eq_self.mpr (fun _ _ => rfl), hvs] at hF
   refine x1_2 (map_strs (fun v => wordP (intsAt s.heap v)) hF) fun wl hwl hwm => ?_
   have hwr : wl.map (·.1) = rows.map wordP := by
     rw [hwm, <- hI, List.map_map]
     rfl
   have z3 := N_5 (L + 3, o3) (by k_mem)
   refine wpAny_storeName_cell (c := L + 3) rfl rfl rfl ⟨o3, z3.1, d3⟩ fun h_6 hc_6 hs_6 => ?_
   refine x1_2 (hc_6) fun o3' ho3 d3' => ?_
   try clear hc_6
   refine x1_1 (⟨ys.toList, by simp⟩ : ∃ l : List Value, ys = l.toArray) fun ysl hcz1 => ?_
   cases hcz1
   simp only [List.toList_toArray] at hwl
   subst hwl
   refine hQ { s with heap := h_6, toks := tk' } D wl nD o3' (F_5.change hs_6 z3.2.1 z3.2.2) (news_cell (o := o3) (fun q hq => N_5 q ?_) hs_6 ho3 (fun q hq => ?_)) (fun q hq => neD q (List.mem_cons_of_mem _ (List.mem_cons_of_mem _ (List.mem_cons_of_mem _ hq)))) d3' hwr rfl id
   · rcases List.mem_cons.mp hq with rfl | hq
     · exact List.mem_cons_of_mem _ List.mem_cons_self
     rcases List.mem_cons.mp hq with rfl | hq
     · exact List.mem_cons_self
     · exact List.mem_cons_of_mem _ (List.mem_cons_of_mem _ hq)
   · rcases List.mem_cons.mp hq with rfl | hq
     · exact Ne.symm (neD (L + 3, o3) List.mem_cons_self)
     rcases List.mem_cons.mp hq with rfl | hq
     · show L + 2 ≠ L + 3; omega
     · exact hmd q hq
end lw_wordsH
theorem lw_words {w g s L RL fa cdx o2 o3 v3 rvs rows md nr m Q} : lw_wordsH.Stm p loose mg mb w g s L RL fa cdx o2 o3 v3 rvs rows md nr m Q := pk_all (p := lw_wordsH.cx) (by with_unfolding_all exact lw_wordsH.main) (((((p, loose), mg), (mb, w)), (((g, s), L), (RL, fa))), ((((cdx, o2), o3), (v3, rvs)), (((rows, md), nr), (m, Q))))
end
end Mine
end
section
namespace Mine
noncomputable def letS (b : Nat) (rows : List (List Int)) (k : Int) : Int := ((rows.map wordP).map fun x => costP ⟨#[b + k.toNat]⟩ (Txt.item x k)).sum
theorem wordP_len (l : List Int) : (wordP l).length = 10 := by
 show (List.toArray (wordL l)).size = 10
 simp [wordL]
noncomputable def strV : Value -> Str
 | .str x _ => x
 | _ => ⟨#[]⟩
theorem strV_map : ∀ wl : List (Str × Tok), (strValues wl).map strV = wl.map (·.1)
 | [] => rfl
 | q :: r => by rw [List.map_cons, <- strV_map r]; rfl
section
namespace lw_withoutH
noncomputable def Stm (pC : Program) (looseC : List Str) (mgC mbC : Str -> Option Value) (w : World) (g : Heap) (s : Shared) (L WL fa : Nat) (cdx : Value) (o3 o4 : Obj) (v4 : Option Value) (wl : List (Str × Tok)) (rows : List (List Int)) (md : List (Addr × Obj)) (nr : Nat) (m : Str -> Option Value) (Q : Flow -> Shared -> Prop) : Prop := ∀ {name qual : Str} {params : Arguments} {body : List Stmt} {scope : Scope} {dV kV doc pm cdv ct oc : Value} {an odd : Option Addr} {osl : Array (Option Value)} (T : TopRead pC looseC mgC mbC g) (X : (Mine.mk.heap_1 w.params).In g) (ho : (Mine.mk.heap_1 w.params).lookup 243 = some ⟨oc, odd, .func (fnOf name qual params body scope dV kV doc pm an cdv ct), osl⟩) (F : Fr g L s.heap m) (N : News g L s.heap ((L + 4, o4) :: (L + 3, o3) :: (WL, listOf (strValues wl).toArray nr) :: md)) (d4 : o4.data = .cell v4) (d3 : o3.data = .cell (some (.ref WL))) (hwl : wl.map (·.1) = rows.map wordP) (hz : rows.length <= 10) (hmd : ∀ q ∈ (L + 3, o3) :: (WL, listOf (strValues wl).toArray nr) :: md, @Ne Nat q.1 (L + 4)) (hQ : ∀ s' (D : Nat) vs n o4', Fr g L s'.heap m -> News g L s'.heap ((L + 4, o4') :: (D, listOf (List.toArray vs) n) :: (L + 3, o3) :: (WL, listOf (strValues wl).toArray nr) :: md) -> (∀ q ∈ (L + 4, o4) :: (L + 3, o3) :: (WL, listOf (strValues wl).toArray nr) :: md, @Ne Nat q.1 D) -> o4'.data = .cell (some (.ref D)) -> IntsAre vs ((List.range' 0 10).map fun k : Nat => letS 97 rows (k : Int)) -> s'.os = s.os -> (AllBare s.gens -> AllBare s'.gens) ->
    wpAny (model Challenge.rw_kl0462_01.prog w) (lawA qual scope L fa cdx) (execs (body.drop 9) (envOfC qual scope L fa cdx)) Q NF s'), wpAny (model Challenge.rw_kl0462_01.prog w) (lawA qual scope L fa cdx) (execs (body.drop 8) (envOfC qual scope L fa cdx)) Q NF s
noncomputable def cx (v : ((((Program × (List Str)) × (Str -> Option Value)) × ((Str -> Option Value) × World)) × (((Heap × Shared) × Nat) × (Nat × Nat))) × ((((Value × Obj) × Obj) × ((Option Value) × (List (Str × Tok)))) × ((((List (List Int)) × (List (Addr × Obj))) × Nat) × ((Str -> Option Value) × (Flow -> Shared -> Prop))))) : Prop := Stm v.1.1.1.1.1 v.1.1.1.1.2 v.1.1.1.2 v.1.1.2.1 v.1.1.2.2 v.1.2.1.1.1 v.1.2.1.1.2 v.1.2.1.2 v.1.2.2.1 v.1.2.2.2 v.2.1.1.1.1 v.2.1.1.1.2 v.2.1.1.2 v.2.1.2.1 v.2.1.2.2 v.2.2.1.1.1 v.2.2.1.1.2 v.2.2.1.2 v.2.2.2.1 v.2.2.2.2
noncomputable section
def tup := pk (by walk_at "ne") cx
@[irreducible]def pC:=tup.1.1.1.1.1
@[irreducible]def looseC:=tup.1.1.1.1.2
@[irreducible]def mgC:=tup.1.1.1.2
@[irreducible]def mbC:=tup.1.1.2.1
@[irreducible]def w:=tup.1.1.2.2
@[irreducible]def g:=tup.1.2.1.1.1
@[irreducible]def s:=tup.1.2.1.1.2
@[irreducible]def L:=tup.1.2.1.2
@[irreducible]def WL:=tup.1.2.2.1
@[irreducible]def fa:=tup.1.2.2.2
@[irreducible]def cdx:=tup.2.1.1.1.1
@[irreducible]def o3:=tup.2.1.1.1.2
@[irreducible]def o4:=tup.2.1.1.2
@[irreducible]def v4:=tup.2.1.2.1
@[irreducible]def wl:=tup.2.1.2.2
@[irreducible]def rows:=tup.2.2.1.1.1
@[irreducible]def md:=tup.2.2.1.1.2
@[irreducible]def nr:=tup.2.2.1.2
@[irreducible]def m:=tup.2.2.2.1
@[irreducible]def Q:=tup.2.2.2.2
end
theorem main : Stm pC looseC mgC mbC w g s L WL fa cdx o3 o4 v4 wl rows md nr m Q := by
 intro name qual params body scope dV kV doc pm cdv ct oc an odd osl T X ho F N d4 d3 hwl hz hmd hQ
 have kS1 : KX := trivial
 have kSg : KG := trivial
 have kS2 : Key "eval ListComp" := trivial
 have kS3 : Key "exec Assign cons ListComp" := trivial
 have kS4 : Key "call type:range" := trivial
 have kS5 : KeyL "call builtin:len" := trivial
 have kS6 : Key "compareOp In int ref" := trivial
 have kS7 : Key "call builtin:sum" := trivial
 have kS8 : Key "call ref" := trivial
 revert X ho
 k_fill
 intro X ho
 have e := ho.symm.trans (by k_is)
 refine x0_3 (fnE e) fun hcz0 hcz1 hcz2 => ?_
 cases hcz0
 cases hcz1
 cases hcz2
 clear e
 dsimp only [List.drop] at hQ ⊢
 have HW : Hold (wl.map (·.1) = rows.map wordP) := ⟨hwl⟩
 have hwz : wl.length <= 10 := by have := congrArg List.length hwl; simp at this; omega
 clear ho hwl
 k_steps
 unfold Stop
 refine wpAny_Assign_Name ?_
 refine evl_compC (h₀ := g) rfl rfl (by decide) rfl (fun _ => rfl) (fun _ => rfl) (fun _ => true) (fun v y => ∃ k t u, v = .int k t /\ y = .int (letS 97 rows k) u) ?_
 k_steps
 unfold Stop
 rename Fr g L _ _ => F_2
 rename News g L _ _ => N_2
 refine range_iter1 F_2 N_2 (by decide) (by decide) fun it h_2 tk F_3 N_3 l3 hL hit => ?_
 refine i4_3 _ _ _ _ ((src_range (n := 10) rfl F_3 N_3 l3 hL hit (by decide)).bnd) ⟨fun C i v s_3 m_3 E' ox hv F_4 N_4 hox => ?_, fun C i v s_3 m_3 E' ox hv hp F_4 N_4 hox => ?_⟩ (fun D h' tk' ys nD vs F_5 N_5 neD hlen hP hF => ?_)
 · exact wpAny_pure ⟨rfl, ⟨_, _, rfl, fun _ _ e => e⟩⟩
 · obtain ⟨hb, t, hcz2⟩ := (hv)
   try clear hv
   cases hcz2
   clear F_2 N_2 F_3 N_3 l3
   have hit := item_AJ (i := 0 + (i : Int) * 1) (by omega) (by omega)
   generalize hk : (0 + (i : Int) * 1) = kk at hox hit ⊢
   have hk0 : 0 <= kk := by omega
   have hk1 : kk < 10 := by omega
   refine wpAny_mono (Q := fun y s_4 => Hold ((∃ u, y = .int (letS 97 rows kk) u) /\ Keeps s_3 s_4)) ?_ (fun y s_4 h => ⟨let ⟨u, e⟩ := h.out.1; ⟨kk, t, u, rfl, e⟩, h.out.2⟩) fun _ _ z => z
   k_steps
   unfold Stop
   refine evl_compK (h₀ := g) rfl (by decide) rfl (by decide) rfl (fun v => true) (fun v y => ∃ u, y = .int (costP ⟨#[97 + kk.toNat]⟩ (Txt.item (strV v) kk)) u) ?_
   k_steps
   refine iter_listK rfl F_4 N_4 (News.isList N_4 (by k_mem)) (by simp [strValues, sizeLine_eq]; omega) fun itv h_7 S fr_0 k_0 => ?_
   refine i5_5 _ _ _ _ _ S fr_0 k_0 ⟨fun C_2 i_2 v s_5 m_5 E' hv_5 F_5 N_5 hm => ?_, fun C_2 i_2 v s_5 m_5 E' hv_5 hp_5 F_5 N_5 hm => ?_⟩ (fun A_1 h' tk' ys nA vs' F_8 N_8 neA hlen hP' hF K_8 => ?_)
   · exact wpAny_pure ⟨rfl, ⟨_, _, rfl, fun _ _ e => e⟩⟩
   · refine x2_2 (strVal hv_5) fun y u hcz2 hyu => ?_
     cases hcz2
     have hyl : y.length = 10 := by
       have : y ∈ rows.map wordP := by rw [<- HW.out]; exact List.mem_map.mpr ⟨_, hyu, rfl⟩
       obtain ⟨l, _, (rfl)⟩ := List.mem_map.mp this
       exact wordP_len l
     refine wpAny_mono (Q := fun z s_4 => Hold ((∃ u, z = .int (costP ⟨#[97 + kk.toNat]⟩ (Txt.item y kk)) u) /\ Keeps s_5 s_4)) ?_ (fun _ _ z => z.out) fun _ _ z => z
     have F_7 := fr_know F_5 hm
     clear S F_4 N_4
     rw [<- hit.2]
     k_steps
     unfold Stop
     rename Fr g C_2 _ _ => F_9
     refine callC 0 (c_subst (p := pC) (loose := looseC) (mg := mgC) (mb := mbC) (T.keeps F_9.keep) (Frag.In.keeps X F_9.keep) (by have := len_item (Str.ofString "abcdefghij") kk; omega) (by have := len_item y kk; omega) fun v s' hv hk' => ?_)
     refine x1_1 (hv) fun tv hcz1 => ?_
     try clear hv
     cases hcz1
     refine x2_2 (hk') fun h_10 tk_10 hcz2 k_10 => ?_
     try clear hk'
     cases hcz2
     exact ⟨⟨⟨_, rfl⟩, ⟨_, _, rfl, k_10⟩⟩⟩
   · dsimp only
     replace F_8 := (show Fr g C h' _ from F_8)
     replace N_8 := (show News g C h' _ from N_8)
     have hvs := vs_list (by simpa using hlen) hP'
     rw [List.filter_eq_self.mpr (fun _ _ => rfl), hvs] at hF
     have hi := map_ints (fun v => costP ⟨#[97 + kk.toNat]⟩ (Txt.item (strV v) kk)) hF
     have hi2 : IntsAre ys.toList ((rows.map wordP).map fun x => costP ⟨#[97 + kk.toNat]⟩ (Txt.item x kk)) := by
       rw [<- HW.out, <- strV_map, List.map_map]
       exact hi
     refine x1_1 (⟨ys.toList, by simp⟩ : ∃ l : List Value, ys = l.toArray) fun ysl hcz1 => ?_
     cases hcz1
     have hlA : Hold (h'.IsList A_1 ysl.toArray) := ⟨News.isList N_8 (n := nA) (d := none) (sl := #[]) List.mem_cons_self⟩
     have K_9 : Hold (∀ b o, s_3.heap.get? b = some o -> h'.get? b = some o) := ⟨K_8⟩
     have HI : Hold (IntsAre ysl ((rows.map wordP).map fun x => costP ⟨#[97 + kk.toNat]⟩ (Txt.item x kk))) := ⟨hi2⟩
     clear hvs hlen hP' hF K_8 S fr_0 k_0 F_4 N_4 hi hi2
     refine (?_ : wpAny _ _ _ _ _ _)
     k_steps
     unfold Stop
     refine sumKK rfl hlA.out HI.out fun h_9 tk_9 t_9 k_9 => ?_
     exact ⟨⟨⟨_, rfl⟩, ⟨_, _, rfl, fun b o e => k_9 b o (K_9.out b o e)⟩⟩⟩
 · dsimp only
   replace F_5 := (show Fr g L h' _ from F_5)
   replace N_5 := (show News g L h' _ from N_5)
   have hi := range_ints (a := 0) (n := 10) (letS 97 rows) hlen (fun j v h => (hP j v h).2) (by rw [List.filter_eq_self.mpr (fun _ _ => rfl)] at hF; exact hF)
   have z4 := N_5 (L + 4, o4) (by k_mem)
   refine wpAny_storeName_cell (c := L + 4) rfl rfl rfl ⟨o4, z4.1, d4⟩ fun h_6 hc_6 hs_6 => ?_
   refine x1_2 (hc_6) fun o4' ho4 d4' => ?_
   try clear hc_6
   refine x1_1 (⟨ys.toList, by simp⟩ : ∃ l : List Value, ys = l.toArray) fun ysl hcz1 => ?_
   cases hcz1
   refine hQ { s with heap := h_6, toks := tk' } D ysl nD o4' (F_5.change hs_6 z4.2.1 z4.2.2) (news_cell (o := o4) (fun q hq => N_5 q ?_) hs_6 ho4 (fun q hq => ?_)) neD d4' hi rfl id
   · rcases List.mem_cons.mp hq with rfl | hq
     · exact List.mem_cons_of_mem _ List.mem_cons_self
     rcases List.mem_cons.mp hq with rfl | hq
     · exact List.mem_cons_self
     · exact List.mem_cons_of_mem _ (List.mem_cons_of_mem _ hq)
   · rcases List.mem_cons.mp hq with rfl | hq
     · exact Ne.symm (neD (L + 4, o4) List.mem_cons_self)
     · exact hmd q hq
end lw_withoutH
theorem lw_without {w g s L WL fa cdx o3 o4 v4 wl rows md nr m Q} : lw_withoutH.Stm p loose mg mb w g s L WL fa cdx o3 o4 v4 wl rows md nr m Q := pk_all (p := lw_withoutH.cx) (by with_unfolding_all exact lw_withoutH.main) (((((p, loose), mg), (mb, w)), (((g, s), L), (WL, fa))), ((((cdx, o3), o4), (v4, wl)), (((rows, md), nr), (m, Q))))
end
end Mine
end
section
namespace Mine
section
namespace lw_havingH
noncomputable def Stm (pC : Program) (looseC : List Str) (mgC mbC : Str -> Option Value) (w : World) (g : Heap) (s : Shared) (L WL fa : Nat) (cdx : Value) (o3 o4 : Obj) (v4 : Option Value) (wl : List (Str × Tok)) (rows : List (List Int)) (md : List (Addr × Obj)) (nr : Nat) (m : Str -> Option Value) (Q : Flow -> Shared -> Prop) : Prop := ∀ {name qual : Str} {params : Arguments} {body : List Stmt} {scope : Scope} {dV kV doc pm cdv ct oc : Value} {an odd : Option Addr} {osl : Array (Option Value)} (T : TopRead pC looseC mgC mbC g) (X : (Mine.mk.heap_1 w.params).In g) (ho : (Mine.mk.heap_1 w.params).lookup 243 = some ⟨oc, odd, .func (fnOf name qual params body scope dV kV doc pm an cdv ct), osl⟩) (F : Fr g L s.heap m) (N : News g L s.heap ((L + 5, o4) :: (L + 3, o3) :: (WL, listOf (strValues wl).toArray nr) :: md)) (d4 : o4.data = .cell v4) (d3 : o3.data = .cell (some (.ref WL))) (hwl : wl.map (·.1) = rows.map wordP) (hz : rows.length <= 10) (hmd : ∀ q ∈ (L + 3, o3) :: (WL, listOf (strValues wl).toArray nr) :: md, @Ne Nat q.1 (L + 5)) (hQ : ∀ s' (D : Nat) vs n o4', Fr g L s'.heap m -> News g L s'.heap ((L + 5, o4') :: (D, listOf (List.toArray vs) n) :: (L + 3, o3) :: (WL, listOf (strValues wl).toArray nr) :: md) -> (∀ q ∈ (L + 5, o4) :: (L + 3, o3) :: (WL, listOf (strValues wl).toArray nr) :: md, @Ne Nat q.1 D) -> o4'.data = .cell (some (.ref D)) -> IntsAre vs ((List.range' 0 10).map fun k : Nat => letS 65 rows (k : Int)) -> s'.os = s.os -> (AllBare s.gens -> AllBare s'.gens) ->
    wpAny (model Challenge.rw_kl0462_01.prog w) (lawA qual scope L fa cdx) (execs (body.drop 10) (envOfC qual scope L fa cdx)) Q NF s'), wpAny (model Challenge.rw_kl0462_01.prog w) (lawA qual scope L fa cdx) (execs (body.drop 9) (envOfC qual scope L fa cdx)) Q NF s
noncomputable def cx (v : ((((Program × (List Str)) × (Str -> Option Value)) × ((Str -> Option Value) × World)) × (((Heap × Shared) × Nat) × (Nat × Nat))) × ((((Value × Obj) × Obj) × ((Option Value) × (List (Str × Tok)))) × ((((List (List Int)) × (List (Addr × Obj))) × Nat) × ((Str -> Option Value) × (Flow -> Shared -> Prop))))) : Prop := Stm v.1.1.1.1.1 v.1.1.1.1.2 v.1.1.1.2 v.1.1.2.1 v.1.1.2.2 v.1.2.1.1.1 v.1.2.1.1.2 v.1.2.1.2 v.1.2.2.1 v.1.2.2.2 v.2.1.1.1.1 v.2.1.1.1.2 v.2.1.1.2 v.2.1.2.1 v.2.1.2.2 v.2.2.1.1.1 v.2.2.1.1.2 v.2.2.1.2 v.2.2.2.1 v.2.2.2.2
noncomputable section
def tup := pk (by walk_at "ne") cx
@[irreducible]def pC:=tup.1.1.1.1.1
@[irreducible]def looseC:=tup.1.1.1.1.2
@[irreducible]def mgC:=tup.1.1.1.2
@[irreducible]def mbC:=tup.1.1.2.1
@[irreducible]def w:=tup.1.1.2.2
@[irreducible]def g:=tup.1.2.1.1.1
@[irreducible]def s:=tup.1.2.1.1.2
@[irreducible]def L:=tup.1.2.1.2
@[irreducible]def WL:=tup.1.2.2.1
@[irreducible]def fa:=tup.1.2.2.2
@[irreducible]def cdx:=tup.2.1.1.1.1
@[irreducible]def o3:=tup.2.1.1.1.2
@[irreducible]def o4:=tup.2.1.1.2
@[irreducible]def v4:=tup.2.1.2.1
@[irreducible]def wl:=tup.2.1.2.2
@[irreducible]def rows:=tup.2.2.1.1.1
@[irreducible]def md:=tup.2.2.1.1.2
@[irreducible]def nr:=tup.2.2.1.2
@[irreducible]def m:=tup.2.2.2.1
@[irreducible]def Q:=tup.2.2.2.2
end
theorem main : Stm pC looseC mgC mbC w g s L WL fa cdx o3 o4 v4 wl rows md nr m Q := by
 intro name qual params body scope dV kV doc pm cdv ct oc an odd osl T X ho F N d4 d3 hwl hz hmd hQ
 have kS1 : KX := trivial
 have kSg : KG := trivial
 have kS2 : Key "eval ListComp" := trivial
 have kS3 : Key "exec Assign cons ListComp" := trivial
 have kS4 : Key "call type:range" := trivial
 have kS5 : KeyL "call builtin:len" := trivial
 have kS6 : Key "compareOp In int ref" := trivial
 have kS7 : Key "call builtin:sum" := trivial
 have kS8 : Key "call ref" := trivial
 revert X ho
 k_fill
 intro X ho
 have e := ho.symm.trans (by k_is)
 refine x0_3 (fnE e) fun hcz0 hcz1 hcz2 => ?_
 cases hcz0
 cases hcz1
 cases hcz2
 clear e
 dsimp only [List.drop] at hQ ⊢
 have HW : Hold (wl.map (·.1) = rows.map wordP) := ⟨hwl⟩
 have hwz : wl.length <= 10 := by have := congrArg List.length hwl; simp at this; omega
 clear ho hwl
 k_steps
 unfold Stop
 refine wpAny_Assign_Name ?_
 refine evl_compC (h₀ := g) rfl rfl (by decide) rfl (fun _ => rfl) (fun _ => rfl) (fun _ => true) (fun v y => ∃ k t u, v = .int k t /\ y = .int (letS 65 rows k) u) ?_
 k_steps
 unfold Stop
 rename Fr g L _ _ => F_2
 rename News g L _ _ => N_2
 refine range_iter1 F_2 N_2 (by decide) (by decide) fun it h_2 tk F_3 N_3 l3 hL hit => ?_
 refine i4_3 _ _ _ _ ((src_range (n := 10) rfl F_3 N_3 l3 hL hit (by decide)).bnd) ⟨fun C i v s_3 m_3 E' ox hv F_4 N_4 hox => ?_, fun C i v s_3 m_3 E' ox hv hp F_4 N_4 hox => ?_⟩ (fun D h' tk' ys nD vs F_5 N_5 neD hlen hP hF => ?_)
 · exact wpAny_pure ⟨rfl, ⟨_, _, rfl, fun _ _ e => e⟩⟩
 · obtain ⟨hb, t, hcz2⟩ := (hv)
   try clear hv
   cases hcz2
   clear F_2 N_2 F_3 N_3 l3
   have hit := item_AJ (i := 0 + (i : Int) * 1) (by omega) (by omega)
   generalize hk : (0 + (i : Int) * 1) = kk at hox hit ⊢
   have hk0 : 0 <= kk := by omega
   have hk1 : kk < 10 := by omega
   refine wpAny_mono (Q := fun y s_4 => Hold ((∃ u, y = .int (letS 65 rows kk) u) /\ Keeps s_3 s_4)) ?_ (fun y s_4 h => ⟨let ⟨u, e⟩ := h.out.1; ⟨kk, t, u, rfl, e⟩, h.out.2⟩) fun _ _ z => z
   k_steps
   unfold Stop
   refine evl_compK (h₀ := g) rfl (by decide) rfl (by decide) rfl (fun v => true) (fun v y => ∃ u, y = .int (costP ⟨#[65 + kk.toNat]⟩ (Txt.item (strV v) kk)) u) ?_
   k_steps
   refine iter_listK rfl F_4 N_4 (News.isList N_4 (by k_mem)) (by simp [strValues, sizeLine_eq]; omega) fun itv h_7 S fr_0 k_0 => ?_
   refine i5_5 _ _ _ _ _ S fr_0 k_0 ⟨fun C_2 i_2 v s_5 m_5 E' hv_5 F_5 N_5 hm => ?_, fun C_2 i_2 v s_5 m_5 E' hv_5 hp_5 F_5 N_5 hm => ?_⟩ (fun A_1 h' tk' ys nA vs' F_8 N_8 neA hlen hP' hF K_8 => ?_)
   · exact wpAny_pure ⟨rfl, ⟨_, _, rfl, fun _ _ e => e⟩⟩
   · refine x2_2 (strVal hv_5) fun y u hcz2 hyu => ?_
     cases hcz2
     have hyl : y.length = 10 := by
       have : y ∈ rows.map wordP := by rw [<- HW.out]; exact List.mem_map.mpr ⟨_, hyu, rfl⟩
       obtain ⟨l, _, (rfl)⟩ := List.mem_map.mp this
       exact wordP_len l
     refine wpAny_mono (Q := fun z s_4 => Hold ((∃ u, z = .int (costP ⟨#[65 + kk.toNat]⟩ (Txt.item y kk)) u) /\ Keeps s_5 s_4)) ?_ (fun _ _ z => z.out) fun _ _ z => z
     have F_7 := fr_know F_5 hm
     clear S F_4 N_4
     rw [<- hit.1]
     k_steps
     unfold Stop
     rename Fr g C_2 _ _ => F_9
     refine callC 0 (c_subst (p := pC) (loose := looseC) (mg := mgC) (mb := mbC) (T.keeps F_9.keep) (Frag.In.keeps X F_9.keep) (by have := len_item (Str.ofString "ABCDEFGHIJ") kk; omega) (by have := len_item y kk; omega) fun v s' hv hk' => ?_)
     refine x1_1 (hv) fun tv hcz1 => ?_
     try clear hv
     cases hcz1
     refine x2_2 (hk') fun h_10 tk_10 hcz2 k_10 => ?_
     try clear hk'
     cases hcz2
     exact ⟨⟨⟨_, rfl⟩, ⟨_, _, rfl, k_10⟩⟩⟩
   · dsimp only
     replace F_8 := (show Fr g C h' _ from F_8)
     replace N_8 := (show News g C h' _ from N_8)
     have hvs := vs_list (by simpa using hlen) hP'
     rw [List.filter_eq_self.mpr (fun _ _ => rfl), hvs] at hF
     have hi := map_ints (fun v => costP ⟨#[65 + kk.toNat]⟩ (Txt.item (strV v) kk)) hF
     have hi2 : IntsAre ys.toList ((rows.map wordP).map fun x => costP ⟨#[65 + kk.toNat]⟩ (Txt.item x kk)) := by
       rw [<- HW.out, <- strV_map, List.map_map]
       exact hi
     refine x1_1 (⟨ys.toList, by simp⟩ : ∃ l : List Value, ys = l.toArray) fun ysl hcz1 => ?_
     cases hcz1
     have hlA : Hold (h'.IsList A_1 ysl.toArray) := ⟨News.isList N_8 (n := nA) (d := none) (sl := #[]) List.mem_cons_self⟩
     have K_9 : Hold (∀ b o, s_3.heap.get? b = some o -> h'.get? b = some o) := ⟨K_8⟩
     have HI : Hold (IntsAre ysl ((rows.map wordP).map fun x => costP ⟨#[65 + kk.toNat]⟩ (Txt.item x kk))) := ⟨hi2⟩
     clear hvs hlen hP' hF K_8 S fr_0 k_0 F_4 N_4 hi hi2
     refine (?_ : wpAny _ _ _ _ _ _)
     k_steps
     unfold Stop
     refine sumKK rfl hlA.out HI.out fun h_9 tk_9 t_9 k_9 => ?_
     exact ⟨⟨⟨_, rfl⟩, ⟨_, _, rfl, fun b o e => k_9 b o (K_9.out b o e)⟩⟩⟩
 · dsimp only
   replace F_5 := (show Fr g L h' _ from F_5)
   replace N_5 := (show News g L h' _ from N_5)
   have hi := range_ints (a := 0) (n := 10) (letS 65 rows) hlen (fun j v h => (hP j v h).2) (by rw [List.filter_eq_self.mpr (fun _ _ => rfl)] at hF; exact hF)
   have z4 := N_5 (L + 5, o4) (by k_mem)
   refine wpAny_storeName_cell (c := L + 5) rfl rfl rfl ⟨o4, z4.1, d4⟩ fun h_6 hc_6 hs_6 => ?_
   refine x1_2 (hc_6) fun o4' ho4 d4' => ?_
   try clear hc_6
   refine x1_1 (⟨ys.toList, by simp⟩ : ∃ l : List Value, ys = l.toArray) fun ysl hcz1 => ?_
   cases hcz1
   refine hQ { s with heap := h_6, toks := tk' } D ysl nD o4' (F_5.change hs_6 z4.2.1 z4.2.2) (news_cell (o := o4) (fun q hq => N_5 q ?_) hs_6 ho4 (fun q hq => ?_)) neD d4' hi rfl id
   · rcases List.mem_cons.mp hq with rfl | hq
     · exact List.mem_cons_of_mem _ List.mem_cons_self
     rcases List.mem_cons.mp hq with rfl | hq
     · exact List.mem_cons_self
     · exact List.mem_cons_of_mem _ (List.mem_cons_of_mem _ hq)
   · rcases List.mem_cons.mp hq with rfl | hq
     · exact Ne.symm (neD (L + 5, o4) List.mem_cons_self)
     · exact hmd q hq
end lw_havingH
theorem lw_having {w g s L WL fa cdx o3 o4 v4 wl rows md nr m Q} : lw_havingH.Stm p loose mg mb w g s L WL fa cdx o3 o4 v4 wl rows md nr m Q := pk_all (p := lw_havingH.cx) (by with_unfolding_all exact lw_havingH.main) (((((p, loose), mg), (mb, w)), (((g, s), L), (WL, fa))), ((((cdx, o3), o4), (v4, wl)), (((rows, md), nr), (m, Q))))
end
end Mine
end
section
namespace Mine
noncomputable def farP (wo ha l : List Int) : Int := wo.sum + (l.map fun k => ha.getD k.toNat 0 - wo.getD k.toNat 0).sum
section
namespace lw_farH
noncomputable def Stm (pC : Program) (looseC : List Str) (mgC mbC : Str -> Option Value) (w : World) (g : Heap) (s : Shared) (L HA WO TL fa : Nat) (cdx : Value) (o4 o5 o6 : Obj) (v6 : Option Value) (hvs wvs tvs : List Value) (ha wo : List Int) (trees : List (List Int)) (md : List (Addr × Obj)) (nh nw nt : Nat) (m : Str -> Option Value) (Q : Flow -> Shared -> Prop) : Prop := ∀ {name qual : Str} {params : Arguments} {body : List Stmt} {scope : Scope} {dV kV doc pm cdv ct oc : Value} {an odd : Option Addr} {osl : Array (Option Value)} (T : TopRead pC looseC mgC mbC g) (X : (Mine.mk.heap_1 w.params).In g) (ho : (Mine.mk.heap_1 w.params).lookup 243 = some ⟨oc, odd, .func (fnOf name qual params body scope dV kV doc pm an cdv ct), osl⟩) (F : Fr g L s.heap (fun y => if y = "trees" then some (.ref TL) else m y)) (N : News g L s.heap ((L + 6, o6) :: (L + 5, o5) :: (L + 4, o4) :: (HA, listOf hvs.toArray nh) :: (WO, listOf wvs.toArray nw) :: (TL, listOf tvs.toArray nt) :: md)) (d6 : o6.data = .cell v6) (d5 : o5.data = .cell (some (.ref HA))) (d4 : o4.data = .cell (some (.ref WO))) (hha : IntsAre hvs ha) (hwo : IntsAre wvs wo) (hal : ha.length = 10) (wol : wo.length = 10) (hO : OnLed md tvs trees) (hz : trees.length <= 100) (hz2 : ∀ l ∈ trees, l.length <= 64 /\ ∀ k ∈ l, 0 <= k /\ k < 10) (hmd : ∀ q ∈ (L + 5, o5) :: (L + 4, o4) :: (HA, listOf hvs.toArray nh) :: (WO, listOf wvs.toArray nw) :: (TL, listOf tvs.toArray nt) :: md, @Ne Nat q.1 (L + 6)) (hQ : ∀ s' (D : Nat) vs n o6', Fr g L s'.heap (fun y => if y = "trees" then some (.ref TL) else m y) -> News g L s'.heap ((L + 6, o6') :: (D, listOf (List.toArray vs) n) :: (L + 5, o5) :: (L + 4, o4) :: (HA, listOf hvs.toArray nh) :: (WO, listOf wvs.toArray nw) :: (TL, listOf tvs.toArray nt) :: md) -> (∀ q ∈ (L + 6, o6) :: (L + 5, o5) :: (L + 4, o4) :: (HA, listOf hvs.toArray nh) :: (WO, listOf wvs.toArray nw) :: (TL, listOf tvs.toArray nt) :: md, @Ne Nat q.1 D) -> o6'.data = .cell (some (.ref D)) -> IntsAre vs (trees.map (farP wo ha)) -> s'.os = s.os -> (AllBare s.gens -> AllBare s'.gens) ->
    wpAny (model Challenge.rw_kl0462_01.prog w) (lawA qual scope L fa cdx) (execs (body.drop 11) (envOfC qual scope L fa cdx)) Q NF s'), wpAny (model Challenge.rw_kl0462_01.prog w) (lawA qual scope L fa cdx) (execs (body.drop 10) (envOfC qual scope L fa cdx)) Q NF s
noncomputable def cx (v : ((((Program × (List Str)) × ((Str -> Option Value) × (Str -> Option Value))) × ((World × Heap) × (Shared × Nat))) × (((Nat × Nat) × (Nat × Nat)) × ((Value × Obj) × Obj))) × ((((Obj × (Option Value)) × (List Value × (List Value))) × ((List Value × (List Int)) × (List Int))) × ((((List (List Int)) × (List (Addr × Obj))) × (Nat × Nat)) × ((Nat × (Str -> Option Value)) × (Flow -> Shared -> Prop))))) : Prop := Stm v.1.1.1.1.1 v.1.1.1.1.2 v.1.1.1.2.1 v.1.1.1.2.2 v.1.1.2.1.1 v.1.1.2.1.2 v.1.1.2.2.1 v.1.1.2.2.2 v.1.2.1.1.1 v.1.2.1.1.2 v.1.2.1.2.1 v.1.2.1.2.2 v.1.2.2.1.1 v.1.2.2.1.2 v.1.2.2.2 v.2.1.1.1.1 v.2.1.1.1.2 v.2.1.1.2.1 v.2.1.1.2.2 v.2.1.2.1.1 v.2.1.2.1.2 v.2.1.2.2 v.2.2.1.1.1 v.2.2.1.1.2 v.2.2.1.2.1 v.2.2.1.2.2 v.2.2.2.1.1 v.2.2.2.1.2 v.2.2.2.2
noncomputable section
def tup := pk (by walk_at "ne") cx
@[irreducible]def pC:=tup.1.1.1.1.1
@[irreducible]def looseC:=tup.1.1.1.1.2
@[irreducible]def mgC:=tup.1.1.1.2.1
@[irreducible]def mbC:=tup.1.1.1.2.2
@[irreducible]def w:=tup.1.1.2.1.1
@[irreducible]def g:=tup.1.1.2.1.2
@[irreducible]def s:=tup.1.1.2.2.1
@[irreducible]def L:=tup.1.1.2.2.2
@[irreducible]def HA:=tup.1.2.1.1.1
@[irreducible]def WO:=tup.1.2.1.1.2
@[irreducible]def TL:=tup.1.2.1.2.1
@[irreducible]def fa:=tup.1.2.1.2.2
@[irreducible]def cdx:=tup.1.2.2.1.1
@[irreducible]def o4:=tup.1.2.2.1.2
@[irreducible]def o5:=tup.1.2.2.2
@[irreducible]def o6:=tup.2.1.1.1.1
@[irreducible]def v6:=tup.2.1.1.1.2
@[irreducible]def hvs:=tup.2.1.1.2.1
@[irreducible]def wvs:=tup.2.1.1.2.2
@[irreducible]def tvs:=tup.2.1.2.1.1
@[irreducible]def ha:=tup.2.1.2.1.2
@[irreducible]def wo:=tup.2.1.2.2
@[irreducible]def trees:=tup.2.2.1.1.1
@[irreducible]def md:=tup.2.2.1.1.2
@[irreducible]def nh:=tup.2.2.1.2.1
@[irreducible]def nw:=tup.2.2.1.2.2
@[irreducible]def nt:=tup.2.2.2.1.1
@[irreducible]def m:=tup.2.2.2.1.2
@[irreducible]def Q:=tup.2.2.2.2
end
theorem main : Stm pC looseC mgC mbC w g s L HA WO TL fa cdx o4 o5 o6 v6 hvs wvs tvs ha wo trees md nh nw nt m Q := by
 intro name qual params body scope dV kV doc pm cdv ct oc an odd osl T X ho F N d6 d5 d4 hha hwo hal wol hO hz hz2 hmd hQ
 have kS1 : KX := trivial
 have kSg : KG := trivial
 have kS2 : Key "eval ListComp" := trivial
 have kS3 : Key "exec Assign cons ListComp" := trivial
 have kS4 : Key "call type:range" := trivial
 have kS5 : KeyL "call builtin:len" := trivial
 have kS6 : Key "compareOp In int ref" := trivial
 have kS7 : Key "call builtin:sum" := trivial
 have kS8 : Key "subscriptTail Name Name ref int" := trivial
 revert X ho
 k_fill
 intro X ho
 have e := ho.symm.trans (by k_is)
 refine x0_3 (fnE e) fun hcz0 hcz1 hcz2 => ?_
 cases hcz0
 cases hcz1
 cases hcz2
 clear e
 dsimp only [List.drop] at hQ ⊢
 have HO : Hold (OnLed md tvs trees) := ⟨hO⟩
 have HH : Hold (IntsAre hvs ha) := ⟨hha⟩
 have HW : Hold (IntsAre wvs wo) := ⟨hwo⟩
 clear ho hO hha hwo
 k_steps
 unfold Stop
 refine wpAny_Assign_Name ?_
 refine evl_comp (h₀ := g) rfl (by decide) rfl (by decide) rfl (fun _ => true) (fun v y => ∃ u, y = .int (farP wo ha (intsAt s.heap v)) u) ?_
 k_steps
 rename Fr g L _ _ => F_2
 rename News g L _ _ => N_2
 have hI := OnLed.ints (h₀ := g) (L := L) (h := s.heap) (fun q hq => N_2 q (List.mem_cons_of_mem _ (List.mem_cons_of_mem _ (List.mem_cons_of_mem _ (List.mem_cons_of_mem _ (List.mem_cons_of_mem _ (List.mem_cons_of_mem _ hq))))))) HO.out
 refine iter_list rfl F_2 N_2 (News.isList N_2 (by k_mem)) (by have := HO.out.len; simp [sizeLine_eq]; omega) fun itv h_7 S => ?_
 refine i4_3 _ _ _ _ S ⟨fun C i v s_3 m_3 E' hv F_4 N_4 hm_4 => ?_, fun C i v s_3 m_3 E' hv hp F_4 N_4 hm_4 => ?_⟩ (fun D h' tk' ys nD vs F_5 N_5 neD hlen hP hF => ?_)
 · exact wpAny_pure ⟨rfl, ⟨_, _, rfl, fun _ _ e => e⟩⟩
 · have hvm : v ∈ tvs := List.mem_of_getElem? (by simpa using hv)
   refine x4_4 (OnLed.at HO.out v hvm) fun a ws n l hcz4 h1 h2 h3 => ?_
   cases hcz4
   have e1 := intsAt_of (N_2 _ (List.mem_cons_of_mem _ (List.mem_cons_of_mem _ (List.mem_cons_of_mem _ (List.mem_cons_of_mem _ (List.mem_cons_of_mem _ (List.mem_cons_of_mem _ h1))))))).1 h2
   rw [e1]
   clear F_2 N_2 S hI
   refine wpAny_mono (Q := fun y s_4 => Hold ((∃ u, y = .int (farP wo ha l) u) /\ Keeps s_3 s_4)) ?_ (fun _ _ z => z.out) fun _ _ z => z
   have F_5 := fr_know F_4 hm_4
   have N_5 : News g C s_3.heap ((L + 5, o5) :: (L + 4, o4) :: (HA, listOf hvs.toArray nh) :: (WO, listOf wvs.toArray nw) :: (a, listOf ws.toArray n) :: md) := fun q hq => N_4 q (by
     simp only [List.mem_cons] at hq ⊢
     rcases hq with h | h | h | h | h | h
     · exact .inr (.inl h)
     · exact .inr (.inr (.inl h))
     · exact .inr (.inr (.inr (.inl h)))
     · exact .inr (.inr (.inr (.inr (.inl h))))
     · exact .inr (.inr (.inr (.inr (.inr (.inr (h ▸ h1))))))
     · exact .inr (.inr (.inr (.inr (.inr (.inr h))))))
   refine x0_2 (hz2 l h3) fun hl2 hlk => ?_
   clear F_4 N_4
   k_steps
   unfold Stop
   rename Fr g C _ _ => F_6
   rename News g C _ _ => N_6
   refine sumKK rfl (News.isList (items := wvs.toArray) (n := nw) (d := none) (sl := #[]) N_6 (by k_mem)) HW.out fun h_8 tk_8 t_8 k_8 => ?_
   have F_7 := fr_keeps F_6 k_8
   have N_7 : News g C h_8 ((L + 5, o5) :: (L + 4, o4) :: (HA, listOf hvs.toArray nh) :: (WO, listOf wvs.toArray nw) :: (a, listOf ws.toArray n) :: md) := fun q hq => ⟨k_8 _ _ (N_6 q hq).1, (N_6 q hq).2⟩
   have K_8 : Hold (∀ b o, s_3.heap.get? b = some o -> h_8.get? b = some o) := ⟨k_8⟩
   clear F_6 N_6 k_8
   refine (?_ : wpAny _ _ _ _ _ _)
   k_steps
   unfold Stop
   refine evl_compK (h₀ := g) rfl (by decide) rfl (by decide) rfl (fun v => true) (fun v y => ∃ u, y = .int (ha.getD (intV v).toNat 0 - wo.getD (intV v).toNat 0) u) ?_
   k_steps
   rename Fr g C _ _ => F_8
   rename News g C _ _ => N_8
   have hwl : ws.length = l.length := by rw [<- ints_map h2]; simp
   refine iter_listK rfl F_8 N_8 (News.isList (items := ws.toArray) (n := n) (d := none) (sl := #[]) N_8 (by k_mem)) (by simp [sizeLine_eq]; omega) fun itv h_7 S fr_0 k_0 => ?_
   refine i5_5 _ _ _ _ _ S fr_0 k_0 ⟨fun C_2 i_2 v s_5 m_5 E' hv_5 F_5 N_5 hm => ?_, fun C_2 i_2 v s_5 m_5 E' hv_5 hp_5 F_5 N_5 hm => ?_⟩ (fun A_1 h' tk' ys nA vs' F_9 N_9 neA hlen hP' hF K_9 => ?_)
   · exact wpAny_pure ⟨rfl, ⟨_, _, rfl, fun _ _ e => e⟩⟩
   · refine x2_2 (ints_mem h2 v (List.mem_of_getElem? (by simpa using hv_5))) fun kk t hcz2 hkl => ?_
     cases hcz2
     refine x0_2 (hlk kk hkl) fun hk0 hk1 => ?_
     refine wpAny_mono (Q := fun z s_4 => Hold ((∃ u, z = .int (ha.getD kk.toNat 0 - wo.getD kk.toNat 0) u) /\ Keeps s_5 s_4)) ?_ (fun _ _ z => z.out) fun _ _ z => z
     have F_6 := fr_know F_5 hm
     have za := News.isList (items := hvs.toArray) (n := nh) (d := none) (sl := #[]) N_5 (by k_mem)
     have zb := News.isList (items := wvs.toArray) (n := nw) (d := none) (sl := #[]) N_5 (by k_mem)
     clear S F_8 N_8 F_5
     k_steps
     unfold Stop
     refine item_list_intsR za HH.out hk0 (by omega) (by omega) fun t_1 => ?_
     k_steps
     unfold Stop
     refine item_list_intsR zb HW.out hk0 (by omega) (by omega) fun t_2 => ?_
     generalize ha.getD kk.toNat 0 = x1
     generalize wo.getD kk.toNat 0 = x2
     k_steps
     exact ⟨⟨⟨_, rfl⟩, ⟨_, _, rfl, fun _ _ e => e⟩⟩⟩
   · dsimp only
     replace F_9 := (show Fr g C h' _ from F_9)
     replace N_9 := (show News g C h' _ from N_9)
     have hvs := vs_list (by simpa using hlen) hP'
     rw [List.filter_eq_self.mpr (fun _ _ => rfl), hvs] at hF
     have hi := map_ints (fun v => ha.getD (intV v).toNat 0 - wo.getD (intV v).toNat 0) hF
     have hi2 : IntsAre ys.toList (l.map fun k => ha.getD k.toNat 0 - wo.getD k.toNat 0) := by
       rw [<- ints_map h2, List.map_map]
       exact hi
     refine x1_1 (⟨ys.toList, by simp⟩ : ∃ l : List Value, ys = l.toArray) fun ysl hcz1 => ?_
     cases hcz1
     have hlA : Hold (h'.IsList A_1 ysl.toArray) := ⟨News.isList N_9 (n := nA) (d := none) (sl := #[]) List.mem_cons_self⟩
     have K_10 : Hold (∀ b o, s_3.heap.get? b = some o -> h'.get? b = some o) := ⟨fun b o e => K_9 b o (K_8.out b o e)⟩
     have HI : Hold (IntsAre ysl (l.map fun k => ha.getD k.toNat 0 - wo.getD k.toNat 0)) := ⟨hi2⟩
     clear hvs hlen hP' hF K_9 S fr_0 k_0 F_8 N_8 hi hi2
     refine (?_ : wpAny _ _ _ _ _ _)
     k_steps
     unfold Stop
     refine sumKK rfl hlA.out HI.out fun h_11 tk_11 t_11 k_11 => ?_
     have F_11 := fr_keeps F_9 k_11
     have N_11 : News g C h_11 _ := fun q hq => ⟨k_11 _ _ (N_9 q hq).1, (N_9 q hq).2⟩
     refine (?_ : wpAny _ _ _ _ _ _)
     generalize hx1 : (l.map fun k => ha.getD k.toNat 0 - wo.getD k.toNat 0).sum = x1
     generalize hx2 : wo.sum = x2
     clear F_9 N_9
     k_steps
     refine ⟨⟨⟨_, congrArg (fun z => Value.int z _) ?_⟩, ⟨_, _, rfl, fun b o e => k_11 b o (K_10.out b o e)⟩⟩⟩
     rw [<- hx1, <- hx2]; rfl
 · dsimp only
   replace F_5 := (show Fr g L h' _ from F_5)
   replace N_5 := (show News g L h' _ from N_5)
   have hvs := vs_list (by simpa using hlen) hP
   rw [List.filter_eq_self.mpr (fun _ _ => rfl), hvs] at hF
   have hi := map_ints (fun v => farP wo ha (intsAt s.heap v)) hF
   have hi2 : IntsAre ys.toList (trees.map (farP wo ha)) := by
     rw [<- hI, List.map_map]
     exact hi
   have z4 := N_5 (L + 6, o6) (by k_mem)
   refine wpAny_storeName_cell (c := L + 6) rfl rfl rfl ⟨o6, z4.1, d6⟩ fun h_6 hc_6 hs_6 => ?_
   refine x1_2 (hc_6) fun o4' ho4 d4' => ?_
   try clear hc_6
   refine x1_1 (⟨ys.toList, by simp⟩ : ∃ l : List Value, ys = l.toArray) fun ysl hcz1 => ?_
   cases hcz1
   refine hQ { s with heap := h_6, toks := tk' } D ysl nD o4' (F_5.change hs_6 z4.2.1 z4.2.2) (news_cell (o := o6) (fun q hq => N_5 q ?_) hs_6 ho4 (fun q hq => ?_)) neD d4' hi2 rfl id
   · rcases List.mem_cons.mp hq with rfl | hq
     · exact List.mem_cons_of_mem _ List.mem_cons_self
     rcases List.mem_cons.mp hq with rfl | hq
     · exact List.mem_cons_self
     · exact List.mem_cons_of_mem _ (List.mem_cons_of_mem _ hq)
   · rcases List.mem_cons.mp hq with rfl | hq
     · exact Ne.symm (neD (L + 6, o6) List.mem_cons_self)
     · exact hmd q hq
end lw_farH
theorem lw_far {w g s L HA WO TL fa cdx o4 o5 o6 v6 hvs wvs tvs ha wo trees md nh nw nt m Q} : lw_farH.Stm p loose mg mb w g s L HA WO TL fa cdx o4 o5 o6 v6 hvs wvs tvs ha wo trees md nh nw nt m Q := pk_all (p := lw_farH.cx) (by with_unfolding_all exact lw_farH.main) (((((p, loose), (mg, mb)), ((w, g), (s, L))), (((HA, WO), (TL, fa)), ((cdx, o4), o5))), ((((o6, v6), (hvs, wvs)), ((tvs, ha), wo)), (((trees, md), (nh, nw)), ((nt, m), Q))))
end
end Mine
end
section
namespace Mine
structure SrcZ (prog : Program) (w : World) (A : Around) (h₀ : Heap) (L : Addr) (m : Str -> Option Value) (news : List (Addr × Obj)) (n : Nat) (P : Nat -> Value -> Value -> Prop) (it : Value) (s_2 : Shared) : Prop where
 ex : ∃ I fp wr St Mid, it = .ref I /\ WalksT prog w A I fp wr n (fun i vals => ∃ u x, P i u x /\ vals = #[u, x]) St Mid /\ St 0 s_2.heap /\ (∀ b ∈ fp, b < s_2.heap.objs.size) /\ ∀ b ∈ wr, h₀.get? b = none /\ (∀ q ∈ news, q.1 ≠ b) /\ L ≠ b
 sz : n <= 9000
 F : Fr h₀ L s_2.heap m
 N : News h₀ L s_2.heap news
section
variable {prog : Program} {w : World} {A : Around} {E : Value -> Shared -> Prop} {env : Env} {h₀ : Heap} {R : Result -> Shared -> Prop}
theorem zip_next {A' : Around} {I C : Addr} {fp wr : List Addr} {n i : Nat} {P : Nat -> Value -> Value -> Prop} {St : Nat -> Heap -> Prop} {Mid : Nat -> Addr -> Heap -> Prop} {cenv : Env} {x1 x2 : Str} {p1 p2 tp : Pos} {tk0 : Nat} {s : Shared} {m' : Str -> Option Value} {E' : Value -> Shared -> Prop} {Q : Shared -> Prop} {Rn : Shared -> Prop}
   (W : WalksT prog w A' I fp wr n (fun i vals => ∃ u x, P i u x /\ vals = #[u, x]) St Mid) (hh : A'.handled = none) (hC : cenv.locals = C) (hx1 : cenv.kindOf x1 = some .local) (hx2 : cenv.kindOf x2 = some .local)
   (hp : (cenv.scope.kind == .class || (cenv.scope.kind == .module && cenv.locals != cenv.globals)) = false) (hCf : C ∉ fp) (hi : i < n) (hst : St i s.heap) (hn : s.heap.Ns C m')
   (h : ∀ h_5 tk t v, P i t v -> St (i + 1) h_5 -> h_5.Ns C (fun y => if y = x2 then some v else if y = x1 then some t else m' y) -> (∀ b o, b ≠ C -> b ∉ wr -> s.heap.get? b = some o -> h_5.get? b = some o) -> Q { s with heap := h_5, toks := tk }) :
   wpAny (model prog w) A' (pyNext (.ref I)) (fun r s₁ => match r with
     | none => Rn s₁
     | some v => wpAny (model prog w) A' (letOwnedTupleGo (.Tuple [.Name x1 p1, .Name x2 p2] tk0 tp) (.ref I) v) (fun _ s_1' => wpAny (model prog w) A' (assign (.Tuple [.Name x1 p1, .Name x2 p2] tk0 tp) cenv v) (fun _ s_2 => Q s_2) E' s_1') E' s₁) E' s := by
 subst hC
 have hCw : cenv.locals ∉ wr := fun z => hCf (W.sub _ z)
 refine W.item i s _ _ hi hst fun T vals h_1 tk_1 hPt hTn hT hMid hk_1 => ?_
 refine x2_2 (hPt) fun t v hPv hcz3 => ?_
 try clear hPt
 cases hcz3
 have hTw := W.apart i T h_1 hMid
 refine W.go _ _ _ i T _ _ _ hMid fun h_2 hst_2 hk_2 => ?_
 have hT_2 : h_2.IsTuple T #[t, v] := let ⟨o, ho, r⟩ := hT; ⟨o, hk_2 T o hTw ho, r⟩
 have up_2 : ∀ b o, b ∉ wr -> s.heap.get? b = some o -> h_2.get? b = some o := fun b o hb q => hk_2 b o hb (hk_1 b o hb q)
 have hn_2 : h_2.Ns cenv.locals m' := hn.at' fun o q => up_2 _ o hCw q
 refine wpAny_assign_Tuple hh (s := { s with heap := h_2, toks := tk_1 }) hT_2 rfl rfl fun h_3 hx_3 => ?_
 have lt_2 : ∀ b o, h_2.get? b = some o -> h_3.get? b = some o := fun b o q => hx_3 b o (Nat.ne_of_lt (Heap.lt_size q)) q
 have hn_3 := hn_2.keeps lt_2
 refine wpAny_assignInOrder_more (wpAny_assign_Name (wpAny_storeName_local (s := { s with heap := h_3, toks := tk_1 }) hx1 hn_3 (fun h_4 hn_4 hs_4 => ?_) hp))
 refine wpAny_assignInOrder_more (wpAny_assign_Name (wpAny_storeName_local hx2 hn_4 (fun h_5 hn_5 hs_5 => ?_) hp))
 refine wpAny_assignInOrder_none ?_
 have up_5 : ∀ b o, b ≠ cenv.locals -> h_2.get? b = some o -> h_5.get? b = some o := fun b o hb q => hs_5.extBut b o hb (hs_4.extBut b o hb (lt_2 b o q))
 exact h h_5 _ t v hPv (W.frame _ _ _ hst_2 fun b hb o q => up_5 b o (fun z => hCf (z ▸ hb)) q) hn_5 fun b o hb hw q => up_5 b o hb (up_2 b o hw q)
theorem evl_zip {s : Shared} {elt iter : Expr} {x1 x2 : Str} {p1 p2 tp : Pos} {tk0 : Nat} {ifs : List Expr} {scope : Scope} {cl : List (Str × Addr)} {pos : Pos} {Q : Value -> Shared -> Prop}
   (hclos : closureFor scope env = pure cl) (hcell : ∀ z ∈ scope.names, z.2 ≠ .cell) (hkind : scope.kind = .function)
   (hnames : ∀ z ∈ scope.names, z.2 = .local -> scope.names.lookup z.1 = some .local) (hx1 : scope.names.lookup x1 = some .local) (hx2 : scope.names.lookup x2 = some .local) (hne : x1 ≠ x2) (hh : A.handled = none)
   (h : wpAny (model prog w) A (eval iter env) (fun xv s₁ => wpAny (model prog w) A (pyIter xv) (fun it s_2 => Stop (∃ m news n, ∃ P : Nat -> Value -> Value -> Prop, ∃ Inv : Nat -> List Value -> Prop, SrcZ prog w A h₀ env.locals m news n P it s_2 /\ Inv 0 [] /\ (∀ i ys, Inv i ys -> ys.length <= i) /\
     (∀ C i u v s_3 m_3 E' ys, i < n -> P i u v -> Inv i ys -> Fr h₀ C s_3.heap m_3 -> News h₀ C s_3.heap news -> m_3 x1 = some u -> m_3 x2 = some v ->
       wpAny (model prog w) A (forIn ifs true fun c r => if r = true then do let ok <- isTrue c (compEnvC scope cl C env) (eval c (compEnvC scope cl C env)); pure (ForInStep.yield ok) else pure (ForInStep.yield r)) (fun ok s_4 => Keeps s_3 s_4 /\ if ok = true then wpAny (model prog w) A (eval elt (compEnvC scope cl C env)) (fun y s_5 => Keeps s_4 s_5 /\ Inv (i + 1) (ys ++ [y])) E' s_4 else Inv (i + 1) ys) E' s_3) /\
     ∀ (D : Nat) h' tk ys nD, Fr h₀ env.locals h' m -> News h₀ env.locals h' ((D, PySem.W.listOf ys.toArray nD) :: news) -> (∀ q ∈ news, @Ne Nat q.1 D) -> Inv n ys -> Q (.ref D) { s_2 with heap := h', toks := tk })) E s₁) E s)
   (hs : ∀ x, foldedSetIterable iter env x = pure x := by intro _; rfl) :
   wpAny (model prog w) A (eval (.ListComp elt [⟨.Tuple [.Name x1 p1, .Name x2 p2] tk0 tp, iter, ifs, 0⟩] scope pos) env) Q E s := by
 rw [eval_ListComp]
 refine wpAny_comprehension_free (use := none) rfl hs hclos hkind hnames (wpAny_mono h (fun xv s₁ h_1 => wpAny_mono h_1 (fun it s_2 h_2 => ?_) fun _ _ e => e) fun _ _ e => e)
 refine x5_5 (h_2) fun m news n P Inv S I0 Il turn hQ => ?_
 try clear h_2
 refine x5_5 (S.ex) fun I fp wr St Mid hcz5 W hst hfp hwr => ?_
 cases hcz5
 have F := S.F
 have N := S.N
 have hz : h₀.objs.size <= s_2.heap.objs.size := Nat.le_trans F.above (Nat.le_of_lt F.ns.lt)
 refine wpAny_newObj_type (wpAny_newFunctionEnv hcell (by intro y hy; simp at hy) (fun h_1 hns_1 hsb_1 => ?_) hkind)
 dsimp only at hns_1 hsb_1 ⊢
 generalize hH2 : s_2.heap.push { cls := .type "list", dict := none, data := .seq ([] : List Value).toArray } = H2 at hns_1 hsb_1 ⊢
 have hC : H2.objs.size = s_2.heap.objs.size + 1 := by rw [<- hH2, Heap.size_push]
 have hDC : s_2.heap.objs.size ≠ H2.objs.size := by rw [hC]; exact Nat.ne_of_lt (Nat.lt_succ_self _)
 have hCle : s_2.heap.objs.size <= H2.objs.size := by rw [hC]; exact Nat.le_succ _
 have below : ∀ b, b < s_2.heap.objs.size -> b ≠ H2.objs.size /\ b ≠ s_2.heap.objs.size := fun b hb => ⟨by rw [hC]; exact Nat.ne_of_lt (Nat.lt_succ_of_lt hb), Nat.ne_of_lt hb⟩
 have hDf : s_2.heap.objs.size ∉ fp := fun hm => Nat.lt_irrefl _ (hfp _ hm)
 have hCf : H2.objs.size ∉ fp := fun hm => by have := hfp _ hm; rw [hC] at this; exact Nat.lt_irrefl _ (Nat.lt_of_succ_lt this)
 have hDw : s_2.heap.objs.size ∉ wr := fun hm => hDf (W.sub _ hm)
 have hCw : H2.objs.size ∉ wr := fun hm => hCf (W.sub _ hm)
 have old : ∀ b o, s_2.heap.get? b = some o -> h_1.get? b = some o := fun b o e => hsb_1.extBut b o (below b (Heap.lt_size e)).1 (Heap.get?_push_of_some _ (hH2 ▸ Heap.get?_push_of_some _ e))
 have hacc : h_1.PlainList s_2.heap.objs.size #[] := ⟨_, hsb_1.extBut _ _ hDC (Heap.get?_push_of_some _ (hH2 ▸ Heap.get?_push_size _ rfl))⟩
 have hst_1 : St 0 h_1 := W.frame _ _ _ hst fun b _ o e => old b o e
 have frC : ∀ {h : Heap} {m_3}, h.Ns H2.objs.size m_3 -> (∀ b o, b ∉ wr -> s_2.heap.get? b = some o -> h.get? b = some o) -> Fr h₀ H2.objs.size h m_3 /\ News h₀ H2.objs.size h news := fun hns hk =>
   ⟨⟨hns, fun b o e => hk b o (fun q => by rw [(hwr b q).1] at e; cases e) (F.keep _ _ e), Nat.le_trans hz hCle⟩, fun q hq => ⟨hk _ _ (fun z => (hwr _ z).2.1 q hq rfl) (N q hq).1, (below _ (Heap.lt_size (N q hq).1)).1, (N q hq).2.2⟩⟩
 suffices loop : ∀ s_3 : Shared, s_3 = { s_2 with heap := h_1, toks := s_2.toks + ([] : List (Str × Value)).length } ->
     codeAny (model prog w) A (.compLoop (.ListComp elt [⟨.Tuple [.Name x1 p1, .Name x2 p2] tk0 tp, iter, ifs, 0⟩] scope pos) 0 (.ref I) (.ref s_2.heap.objs.size) (compEnvC scope cl H2.objs.size env))
       (compPost (model prog w) A E none Q (.ref s_2.heap.objs.size) H2.objs.size) s_3 from codeAny_compStart_list (loop _ rfl) (W.self 0 _ _ _ hst_1 (loop _ rfl))
 rintro s_3 rfl
 refine loop_tupL (fun k s' => ∀ Z : Prop, (∀ h' tk m' ys i, s' = { s_2 with heap := h', toks := tk } -> St i h' -> h'.PlainList s_2.heap.objs.size (List.toArray ys) -> h'.Ns H2.objs.size m' -> i <= n -> k = n + 1 - i -> Inv i ys -> (∀ b o, b ∉ wr -> s_2.heap.get? b = some o -> h'.get? b = some o) -> Z) -> Z) ?_ (n + 1) (fun Zq kq => kq h_1 _ _ [] 0 rfl hst_1 hacc hns_1 (Nat.zero_le _) rfl I0 (fun b o _ e => old b o e))
 intro k s' HIq
 refine HIq _ fun H tk m' ys i hcq5 hst' hacc' hn' hi hcq10 hInv hk => ?_
 subst hcq5
 subst hcq10
 rcases Nat.lt_or_eq_of_le hi with hlt | rfl
 · refine zip_next W hh rfl (lookup_relabel_local hx1) (lookup_relabel_local hx2) (by simp [compEnvC, relabel, hkind]) hCf hlt hst' hn' fun h_5 tk_5 t v hPv hst_5 hn_5 up_5 => ?_
   have k_5 : ∀ b o, b ∉ wr -> s_2.heap.get? b = some o -> h_5.get? b = some o := fun b o hb e => up_5 b o (below b (Heap.lt_size e)).1 hb (hk b o hb e)
   refine x0_2 (frC hn_5 k_5) fun FC NC => ?_
   refine wpAny_mono (turn H2.objs.size i t v _ _ _ ys hlt hPv hInv FC NC (by rw [if_neg hne, if_pos rfl]) (by rw [if_pos rfl])) (fun ok s_4 h_4 => ?_) fun _ _ e => e
   revert h_4; intro hoq
   refine x0_2 hoq fun hoa h_4 => ?_
   clear hoq
   refine x2_2 hoa fun h_4' tk_4 hcz9 hk_4 => ?_
   clear hoa
   cases hcz9
   have hacc_5 : h_5.PlainList s_2.heap.objs.size (List.toArray ys) := hacc'.at fun o e => up_5 _ o hDC hDw e
   cases ok with
   | false =>
     rw [if_neg Bool.false_ne_true] at h_4
     rw [if_neg Bool.false_ne_true]
     exact i1_2 (n + 1 - (i + 1)) (by omega) (fun Zq kq => kq h_4' tk_4 _ ys (i + 1) rfl (W.frame _ _ _ hst_5 fun b _ o e => hk_4 b o e) (hacc_5.at fun o e => hk_4 _ o e) (hn_5.keeps hk_4) hlt rfl h_4 (fun b o hb e => hk_4 b o (k_5 b o hb e)))
   | true =>
     rw [if_pos rfl] at h_4
     rw [if_pos rfl]
     refine wpAny_mono h_4 (fun y s_5 h_5' => ?_) fun _ _ e => e
     refine x0_2 h_5' fun hoa hInv' => ?_
     clear h_5'
     refine x2_2 hoa fun h_6 tk_6 hcz9 hk_6 => ?_
     clear hoa
     cases hcz9
     have hys := Il i ys hInv
     have hsz := S.sz
     refine wpAny_list_append_plain (hsz := by rw [List.size_toArray]; exact Nat.le_trans (Nat.le_trans hys (Nat.le_of_lt (Nat.lt_of_lt_of_le hlt hsz))) (by decide)) ((hacc_5.at fun o e => hk_4 _ o e).at fun o e => hk_6 _ o e) fun h_7 li_7 hs_7 => ?_
     refine i1_2 (n + 1 - (i + 1)) (by omega) (fun Zq kq => kq h_7 _ _ (ys ++ [y]) (i + 1) rfl (W.frame _ _ _ hst_5 fun b hb o e => hs_7.extBut b o (fun z => hDf (z ▸ hb)) (hk_6 b o (hk_4 b o e))) (by rw [List.push_toArray] at li_7; exact li_7) (((hn_5.keeps hk_4).keeps hk_6).sameBut hs_7 (Ne.symm hDC)) hlt rfl hInv' (fun b o hb e => ?_))
     exact hs_7.extBut b o (below b (Heap.lt_size e)).2 (hk_6 b o (hk_4 b o (k_5 b o hb e)))
 · refine W.done _ _ _ hst' fun h_8 tk_8 hk_8 => ?_
   refine x1_1 (hacc') fun nD hpl => ?_
   try clear hacc'
   refine i1_2 m' (hn'.at' fun o e => hk_8 _ o hCw e) (fun h_9 hs_9 => ?_)
   have k_9 : ∀ b o, b ∉ wr -> s_2.heap.get? b = some o -> h_9.get? b = some o := fun b o hb e => hs_9.extBut b o (below b (Heap.lt_size e)).1 (hk_8 b o hb (hk b o hb e))
   have oD : h_9.get? s_2.heap.objs.size = some (PySem.W.listOf (List.toArray ys) nD) := hs_9.extBut _ _ hDC (hk_8 _ _ hDw hpl)
   refine hQ s_2.heap.objs.size h_9 tk_8 ys nD ⟨F.ns.at' fun o e => k_9 _ o (fun z => (hwr _ z).2.2 rfl) e, fun b o e => k_9 b o (fun q => by rw [(hwr b q).1] at e; cases e) (F.keep _ _ e), F.above⟩ (fun q hq => ?_) (fun q hq => (below _ (Heap.lt_size (N q hq).1)).2) hInv
   rcases List.mem_cons.mp hq with rfl | hq
   · exact i0_3 oD (Ne.symm (below _ F.ns.lt).2) (Heap.get?_none_of_le hz)
   · exact ⟨k_9 _ _ (fun z => (hwr _ z).2.1 q hq rfl) (N q hq).1, (N q hq).2⟩
theorem walksT_mono {A : Around} {I : Addr} {fp wr : List Addr} {n : Nat} {Pt Pt' : Nat -> Array Value -> Prop} {St : Nat -> Heap -> Prop} {Mid : Nat -> Addr -> Heap -> Prop} (W : WalksT prog w A I fp wr n Pt St Mid) (hm : ∀ i vals, Pt i vals -> Pt' i vals) : WalksT prog w A I fp wr n Pt' St Mid :=
 ⟨W.sub, W.frame, fun i s Q E hi st hQ => W.item i s Q E hi st fun T vals h' tk hP => hQ T vals h' tk (hm i vals hP), W.go, W.apart, W.done, W.self⟩
theorem iter_zip {s : Shared} {L : Addr} {m : Str -> Option Value} {news : List (Addr × Obj)} {l1 l2 : Addr} {xs ys : Array Value} {Q : Value -> Shared -> Prop} (hh : A.handled = none) (F : Fr h₀ L s.heap m) (N : News h₀ L s.heap news) (hl1 : s.heap.IsList l1 xs) (hl2 : s.heap.IsList l2 ys) (hz : min xs.size ys.size <= 9000)
   (h : ∀ it h_2, SrcZ prog w A h₀ L m news (min xs.size ys.size) (fun i u v => xs[i]? = some u /\ ys[i]? = some v) it { s with heap := h_2 } -> Q it { s with heap := h_2 }) :
   wpAny (model prog w) A (call (.type "zip") [.ref l1, .ref l2]) (fun xv s₁ => wpAny (model prog w) A (pyIter xv) Q E s₁) E s := by
 have hlt1 : l1 < s.heap.objs.size := let ⟨_, e, _⟩ := hl1; Heap.lt_size e
 have hlt2 : l2 < s.heap.objs.size := let ⟨_, e, _⟩ := hl2; Heap.lt_size e
 have D : ZipApart (s.heap.objs.size + 4) (s.heap.objs.size + 2) (s.heap.objs.size + 3) s.heap.objs.size (s.heap.objs.size + 1) l1 l2 := ktu_apart _ _ _ hlt1 hlt2
 refine call_zip_2 hl1 hl2 fun h' hz' hTI hTO hi1 hi2 hsz hk => wpAny_pyIter_zip hz' ?_
 refine h _ _ ⟨⟨s.heap.objs.size + 4, _, _, _, _, rfl, walksT_mono (WalksT.zip2 (prog := prog) (w := w) hh _ _ _ _ _ _ _ D xs ys) fun i vals ⟨x, y, h1, h2, h3⟩ => ⟨x, y, ⟨h1, h2⟩, h3⟩, ⟨hz', hTI, ⟨_, _, hTO⟩, hi1, hi2, hl1.at fun o e => hk _ o e, hl2.at fun o e => hk _ o e⟩, fun b hb => ?_, fun b hb => ?_⟩, hz, F.keeps hk, fun q hq => ⟨hk _ _ (N q hq).1, (N q hq).2⟩⟩
 · show b < h'.objs.size
   rw [hsz]
   simp only [List.mem_cons, List.not_mem_nil, or_false] at hb
   have e : ∀ x y : Nat, x < y -> @LT.lt Nat _ x y := fun _ _ h => h
   rcases hb with rfl | rfl | rfl | rfl | rfl | rfl | rfl
   · exact Nat.lt_succ_self _
   · exact Nat.add_lt_add_left (by decide) _
   · exact Nat.add_lt_add_left (by decide) _
   · exact Nat.lt_add_of_pos_right (by decide)
   · exact Nat.add_lt_add_left (by decide) _
   · exact Nat.lt_add_right _ hlt1
   · exact Nat.lt_add_right _ hlt2
 · have hge : s.heap.objs.size <= b := by
     simp only [List.mem_cons, List.not_mem_nil, or_false] at hb
     rcases hb with rfl | rfl | rfl | rfl
     · exact Nat.le_add_right _ _
     · exact Nat.le_add_right _ _
     · exact Nat.le_refl _
     · exact Nat.le_add_right _ _
   exact i0_3 (Heap.get?_none_of_le (Nat.le_trans (Nat.le_trans F.above (Nat.le_of_lt F.ns.lt)) hge)) (fun q hq => Nat.ne_of_lt (Nat.lt_of_lt_of_le (Heap.lt_size (N q hq).1) hge)) (Nat.ne_of_lt (Nat.lt_of_lt_of_le F.ns.lt hge))
end
end Mine
end
section
namespace Mine
noncomputable def min3 (x : Int) : Int := if 3 - x < x then 3 - x else x
end Mine
end
section
namespace Mine
section
theorem ints_at {vs : List Value} {ls : List Int} (h : IntsAre vs ls) : ∀ {i : Nat} {v : Value}, vs[i]? = some v -> ∃ k t, v = .int k t /\ ls[i]? = some k := by
 induction h with
 | nil => intro i v h; exact absurd h (by simp)
 | cons k t r ih =>
   intro i v h
   cases i with
   | zero => exact ⟨k, t, by simpa using h.symm, rfl⟩
   | succ i =>
     refine x2_2 (ih (i := i) (v := v) (by simpa using h)) fun k' t' e h' => ?_
     exact i2_2 k' t' e (by simpa using h')
namespace lw_endH
noncomputable def Stm (pC : Program) (looseC : List Str) (mgC mbC : Str -> Option Value) (w : World) (g : Heap) (s : Shared) (L FA VO TL ML fa : Nat) (cdx : Value) (o6 : Obj) (fvs vvs tvs mvs : List Value) (vts : List Int) (S : Int) (f : List Int -> Int) (ml : List Int) (trees : List (List Int)) (md : List (Addr × Obj)) (nf nv nt nm : Nat) (m : Str -> Option Value) (Q : Flow -> Shared -> Prop) : Prop := ∀ {name qual : Str} {params : Arguments} {body : List Stmt} {scope : Scope} {dV kV doc pm cdv ct oc : Value} {an odd : Option Addr} {osl : Array (Option Value)} (T : TopRead pC looseC mgC mbC g) (X : (Mine.mk.heap_1 w.params).In g) (ho : (Mine.mk.heap_1 w.params).lookup 243 = some ⟨oc, odd, .func (fnOf name qual params body scope dV kV doc pm an cdv ct), osl⟩) (F : Fr g L s.heap (fun y => if y = "trees" then some (.ref TL) else if y = "most" then some (.ref ML) else if y = "votes" then some (.ref VO) else m y)) (N : News g L s.heap ((L + 6, o6) :: (FA, listOf fvs.toArray nf) :: (VO, listOf vvs.toArray nv) :: (TL, listOf tvs.toArray nt) :: (ML, listOf mvs.toArray nm) :: md)) (d6 : o6.data = .cell (some (.ref FA))) (hfs : IntsAre fvs (trees.map f)) (hvt : IntsAre vvs vts) (hO : OnLed md tvs trees) (hm : IntsAre mvs ml) (hz : trees.length <= 100) (hz0 : 0 < trees.length) (hvl : vts.length <= 100) (hM : ∀ M ∈ trees.map f, (∀ a ∈ trees.map f, M <= a) -> M = (vts.map min3).sum) (hS : (vts.map min3).sum = S) (hone : trees.filter (fun l => decide (f l = S)) = [ml]) (hQ : ∀ s', (∀ b o, g.get? b = some o -> s'.heap.get? b = some o) -> News g L s'.heap md -> s'.os = s.os -> (AllBare s.gens -> AllBare s'.gens) -> Q (.ret (.bool true)) s'), wpAny (model Challenge.rw_kl0462_01.prog w) (lawA qual scope L fa cdx) (execs (body.drop 12) (envOfC qual scope L fa cdx)) Q NF s
noncomputable def cx (v : ((((Program × (List Str)) × ((Str -> Option Value) × (Str -> Option Value))) × ((World × Heap) × (Shared × Nat))) × (((Nat × Nat) × (Nat × Nat)) × ((Nat × Value) × (Obj × (List Value))))) × ((((List Value × (List Value)) × (List Value × (List Int))) × ((Int × (List Int -> Int)) × (List Int × (List (List Int))))) × ((((List (Addr × Obj)) × Nat) × (Nat × Nat)) × ((Nat × (Str -> Option Value)) × (Flow -> Shared -> Prop))))) : Prop := Stm v.1.1.1.1.1 v.1.1.1.1.2 v.1.1.1.2.1 v.1.1.1.2.2 v.1.1.2.1.1 v.1.1.2.1.2 v.1.1.2.2.1 v.1.1.2.2.2 v.1.2.1.1.1 v.1.2.1.1.2 v.1.2.1.2.1 v.1.2.1.2.2 v.1.2.2.1.1 v.1.2.2.1.2 v.1.2.2.2.1 v.1.2.2.2.2 v.2.1.1.1.1 v.2.1.1.1.2 v.2.1.1.2.1 v.2.1.1.2.2 v.2.1.2.1.1 v.2.1.2.1.2 v.2.1.2.2.1 v.2.1.2.2.2 v.2.2.1.1.1 v.2.2.1.1.2 v.2.2.1.2.1 v.2.2.1.2.2 v.2.2.2.1.1 v.2.2.2.1.2 v.2.2.2.2
noncomputable section
def tup := pk (by walk_at "ne") cx
@[irreducible]def pC:=tup.1.1.1.1.1
@[irreducible]def looseC:=tup.1.1.1.1.2
@[irreducible]def mgC:=tup.1.1.1.2.1
@[irreducible]def mbC:=tup.1.1.1.2.2
@[irreducible]def w:=tup.1.1.2.1.1
@[irreducible]def g:=tup.1.1.2.1.2
@[irreducible]def s:=tup.1.1.2.2.1
@[irreducible]def L:=tup.1.1.2.2.2
@[irreducible]def FA:=tup.1.2.1.1.1
@[irreducible]def VO:=tup.1.2.1.1.2
@[irreducible]def TL:=tup.1.2.1.2.1
@[irreducible]def ML:=tup.1.2.1.2.2
@[irreducible]def fa:=tup.1.2.2.1.1
@[irreducible]def cdx:=tup.1.2.2.1.2
@[irreducible]def o6:=tup.1.2.2.2.1
@[irreducible]def fvs:=tup.1.2.2.2.2
@[irreducible]def vvs:=tup.2.1.1.1.1
@[irreducible]def tvs:=tup.2.1.1.1.2
@[irreducible]def mvs:=tup.2.1.1.2.1
@[irreducible]def vts:=tup.2.1.1.2.2
@[irreducible]def S:=tup.2.1.2.1.1
@[irreducible]def f:=tup.2.1.2.1.2
@[irreducible]def ml:=tup.2.1.2.2.1
@[irreducible]def trees:=tup.2.1.2.2.2
@[irreducible]def md:=tup.2.2.1.1.1
@[irreducible]def nf:=tup.2.2.1.1.2
@[irreducible]def nv:=tup.2.2.1.2.1
@[irreducible]def nt:=tup.2.2.1.2.2
@[irreducible]def nm:=tup.2.2.2.1.1
@[irreducible]def m:=tup.2.2.2.1.2
@[irreducible]def Q:=tup.2.2.2.2
end
theorem main : Stm pC looseC mgC mbC w g s L FA VO TL ML fa cdx o6 fvs vvs tvs mvs vts S f ml trees md nf nv nt nm m Q := by
 intro name qual params body scope dV kV doc pm cdv ct oc an odd osl T X ho F N d6 hfs hvt hO hm hz hz0 hvl hM hS hone hQ
 have kS1 : KX := trivial
 have kSg : KG := trivial
 have kS2 : Key "eval ListComp" := trivial
 have kS3 : Key "exec Assign cons ListComp" := trivial
 have kS4 : Key "call type:range" := trivial
 have kS5 : KeyL "call builtin:len" := trivial
 have kS6 : Key "compareOp In int ref" := trivial
 have kS7 : Key "call builtin:sum" := trivial
 have kS8 : Key "call type:zip" := trivial
 have kS9 : Key "call builtin:min" := trivial
 have kS10 : Key "compareOp NotEq int int" := trivial
 have kS11 : Key "compareOp Eq int int" := trivial
 have kS12 : Key "compareOp Eq ref ref" := trivial
 revert X ho
 k_fill
 intro X ho
 have e := ho.symm.trans (by k_is)
 refine x0_3 (fnE e) fun hcz0 hcz1 hcz2 => ?_
 cases hcz0
 cases hcz1
 cases hcz2
 clear e
 dsimp only [List.drop]
 have HF : Hold (IntsAre fvs (trees.map f)) := ⟨hfs⟩
 have HO : Hold (OnLed md tvs trees) := ⟨hO⟩
 have HM : Hold (IntsAre mvs ml) := ⟨hm⟩
 have hfl : fvs.length = trees.length := by
   have := congrArg List.length (ints_map hfs)
   simpa using this
 have htl := hO.len
 have hf0 : 0 < (trees.map f).length := by simpa using hz0
 have HV : Hold (IntsAre vvs vts) := ⟨hvt⟩
 have hvv : vvs.length = vts.length := by rw [<- ints_map hvt]; simp
 clear ho hfs hvt hO hm
 k_steps
 unfold Stop
 rename Fr g L _ _ => F_1
 rename News g L _ _ => N_1
 refine minKK rfl (News.isList (items := fvs.toArray) (n := nf) (d := none) (sl := #[]) N_1 (by k_mem)) HF.out hf0 fun h_2 M t_2 tk_2 k_2 hm1 hm2 => ?_
 have eM := hM M hm1 hm2
 rw [hS] at eM
 have F_2 := fr_keeps F_1 k_2
 have N_2 : News g L h_2 _ := fun q hq => ⟨k_2 _ _ (N_1 q hq).1, (N_1 q hq).2⟩
 clear F_1 N_1 k_2
 refine (?_ : wpAny _ _ _ _ _ _)
 k_steps
 unfold Stop
 refine evl_comp (h₀ := g) rfl (by decide) rfl (by decide) rfl (fun _ => true) (fun v y => ∃ u, y = .int (min3 (intV v)) u) ?_
 k_steps
 rename Fr g L _ _ => F_3
 rename News g L _ _ => N_3
 refine iter_list rfl F_3 N_3 (News.isList (items := vvs.toArray) (n := nv) (d := none) (sl := #[]) N_3 (by k_mem)) (by simp [sizeLine_eq]; omega) fun itv h_7 S => ?_
 refine i4_3 _ _ _ _ S ⟨fun C i v s_3 m_3 E' hv F_4 N_4 hm_4 => ?_, fun C i v s_3 m_3 E' hv hp F_4 N_4 hm_4 => ?_⟩ (fun D h' tk' ys nD vs F_5 N_5 neD hlen hP hF => ?_)
 · exact wpAny_pure ⟨rfl, ⟨_, _, rfl, fun _ _ e => e⟩⟩
 · refine x2_2 (ints_mem HV.out v (List.mem_of_getElem? (by simpa using hv))) fun kk t hcz2 hkl => ?_
   cases hcz2
   refine wpAny_mono (Q := fun z s_4 => Hold ((∃ u, z = .int (min3 kk) u) /\ Keeps s_3 s_4)) ?_ (fun _ _ z => z.out) fun _ _ z => z
   have F_5 := fr_know F_4 hm_4
   clear F_3 N_3 S F_4
   k_steps
   unfold Stop
   refine min_two_ints rfl fun h_6 tk_6 k_6 => ?_
   refine ⟨⟨?_, ⟨_, _, rfl, k_6⟩⟩⟩
   unfold min3
   split
   · exact ⟨_, rfl⟩
   · exact ⟨_, rfl⟩
 · dsimp only
   replace F_5 := (show Fr g L h' _ from F_5)
   replace N_5 := (show News g L h' _ from N_5)
   have hvs := vs_list (by simpa using hlen) hP
   rw [List.filter_eq_self.mpr (fun _ _ => rfl), hvs] at hF
   have hi := map_ints (fun v => min3 (intV v)) hF
   have hi2 : IntsAre ys.toList (vts.map min3) := by
     rw [<- ints_map HV.out, List.map_map]
     exact hi
   refine x1_1 (⟨ys.toList, by simp⟩ : ∃ l : List Value, ys = l.toArray) fun ysl hcz1 => ?_
   cases hcz1
   have HI : Hold (IntsAre ysl (vts.map min3)) := ⟨hi2⟩
   clear hvs hlen hP hF hi hi2 S F_3 N_3
   refine (?_ : wpAny _ _ _ _ _ _)
   k_steps
   unfold Stop
   rename Fr g L _ _ => F_6
   rename News g L _ _ => N_6
   refine sumKK rfl (News.isList (items := ysl.toArray) (n := nD) (d := none) (sl := #[]) N_6 (by k_mem)) HI.out fun h_7 tk_7 t_7 k_7 => ?_
   have F_7 := fr_keeps F_6 k_7
   have N_7 : News g L h_7 ((L + 6, o6) :: (FA, listOf fvs.toArray nf) :: (VO, listOf vvs.toArray nv) :: (TL, listOf tvs.toArray nt) :: (ML, listOf mvs.toArray nm) :: md) := fun q hq => ⟨k_7 _ _ (N_6 q (List.mem_cons_of_mem _ hq)).1, (N_6 q (List.mem_cons_of_mem _ hq)).2⟩
   rw [hS, <- eM]
   clear F_6 N_6
   refine (?_ : wpAny _ _ _ _ _ _)
   k_steps
   unfold Stop
   refine PyProof.Rows.ne_int ?_
   rw [show (M != M) = false by simp]
   k_steps
   unfold Stop
   rename Fr g L _ _ => F_8
   rename News g L _ _ => N_8
   have Nm : News g L h_7 md := fun q hq => N_8 q (List.mem_cons_of_mem _ (List.mem_cons_of_mem _ (List.mem_cons_of_mem _ (List.mem_cons_of_mem _ (List.mem_cons_of_mem _ hq)))))
   have hI := OnLed.ints Nm HO.out
   have hfilt := OnLed.filt (fun l => decide (f l = S)) Nm HO.out
   rw [hone] at hfilt
   have HD : Hold (OnLed md (tvs.filter fun v => decide (f (intsAt h_7 v) = S)) [ml]) := ⟨hfilt⟩
   clear Nm hfilt
   refine evl_zip (h₀ := g) rfl (by decide) rfl (by decide) rfl rfl (by decide) rfl ?_
   k_steps
   unfold Stop
   rename Fr g L _ _ => F_3
   rename News g L _ _ => N_3
   refine iter_zip rfl F_3 N_3 (News.isList (items := tvs.toArray) (n := nt) (d := none) (sl := #[]) N_3 (by k_mem)) (News.isList (items := fvs.toArray) (n := nf) (d := none) (sl := #[]) N_3 (by k_mem)) (by simp; omega) fun itv h_9 SZ => ?_
   refine i5_5 _ _ _ _ (fun i ys => ys = (tvs.take i).filter fun v => decide (f (intsAt h_7 v) = S)) SZ rfl (fun i ys h => ?_) (fun C i u v s_3 m_3 E' ys hi huv hInv F_4 N_4 hn1 hn2 => ?_) (fun D h' tk' ys nD F_5 N_5 neD hInv => ?_)
   · subst h
     refine Nat.le_trans (List.length_filter_le _ _) ?_
     rw [List.length_take]; omega
   · refine x0_2 (huv) fun hu hv => ?_
     try clear huv
     have hu' : tvs[i]? = some u := by simpa using hu
     refine x2_2 (ints_at HF.out (i := i) (v := v) (by simpa using hv)) fun kk t hcz2 hkk => ?_
     cases hcz2
     have hki : kk = f (intsAt h_7 u) := by
       rw [<- hI, List.map_map, List.getElem?_map, hu', Option.map_some] at hkk
       exact (Option.some.inj hkk).symm
     refine tests_one (wpAny_mono (Q := fun ok s_4 => Hold (ok = decide (kk = S) /\ Keeps s_3 s_4)) ?_ (fun ok s_4 hh => ?_) fun _ _ z => z)
     · have F_6 := fr_know (x := "cost") F_4 hn2
       clear F_3 N_3 SZ F_4
       k_steps
       unfold Stop
       rename Fr g C _ _ => F_6
       rename News g C _ _ => N_6
       refine minKK rfl (News.isList (items := fvs.toArray) (n := nf) (d := none) (sl := #[]) N_6 (by k_mem)) HF.out hf0 fun h_2 M' t_2 tk_2 k_2 hn1 hn2 => ?_
       have eM' := hM M' hn1 hn2
       rw [hS] at eM'
       have F_7 := fr_keeps F_6 k_2
       subst eM'
       clear F_6 N_6
       refine (?_ : wpAny _ _ _ _ _ _)
       k_steps
       unfold Stop
       refine PyProof.Rows.eq_int ?_
       k_steps
       exact ⟨⟨Bool.beq_eq_decide_eq _ _, ⟨_, _, rfl, k_2⟩⟩⟩
     · obtain ⟨hcz0, h_2, tk_2, hcz3, k_2⟩ := (hh.out)
       cases hcz0
       cases hcz3
       refine ⟨⟨_, _, rfl, k_2⟩, ?_⟩
       have etk : tvs.take (i + 1) = tvs.take i ++ [u] := by rw [List.take_add_one, hu']; rfl
       by_cases hs : kk = S
       · rw [decide_eq_true hs, if_pos rfl]
         refine loc_X (fr_keeps F_4 k_2) hn1 ⟨⟨_, _, rfl, fun _ _ e => e⟩, ?_⟩ rfl rfl rfl (by decide)
         rw [hInv]
         show _ = List.filter _ (List.take (i + 1) tvs)
         rw [etk, List.filter_append, List.filter_cons, if_pos (by rw [<- hki]; exact decide_eq_true hs)]
         rfl
       · rw [decide_eq_false hs, if_neg (by decide)]
         rw [hInv]
         show _ = List.filter _ (List.take (i + 1) tvs)
         rw [etk, List.filter_append, List.filter_cons, if_neg (by rw [<- hki]; simpa using hs)]
         simp
   · dsimp only
     replace F_5 := (show Fr g L h' _ from F_5)
     replace N_5 := (show News g L h' _ from N_5)
     have hmin : min tvs.toArray.size fvs.toArray.size = tvs.length := by simp; omega
     rw [hmin, List.take_length] at hInv
     rw [<- hInv] at HD
     have HD2 : Hold (DatAll md ys [ldat ml]) := ⟨HD.out.dat⟩
     clear F_3 N_3 SZ hInv HD
     refine (?_ : wpAny _ _ _ _ _ _)
     k_steps
     unfold Stop
     rename Fr g L _ _ => F_6
     rename News g L _ _ => N_6
     refine kqd_eq (n₁ := md) (n₂ := [(ML, listOf mvs.toArray nm)]) (ds := [ldat ml]) (es := [ldat ml]) N_6 (by k_mem) rfl rfl HD2.out ?_ (by k_mem) rfl rfl (xs := ys) (ys := [Value.ref ML]) (.cons (.list List.mem_cons_self (datAll_ints HM.out)) .nil) ?_ ?_ ?_ (Nat.le_of_ble_eq_true rfl) ?_
     · intro q hq
       iterate 7 refine List.mem_cons_of_mem _ ?_
       exact hq
     · intro q hq
       rw [List.mem_singleton.mp hq]; k_mem
     · intro d hd; rw [List.mem_singleton.mp hd]; exact ldat_ok _
     · intro d hd; rw [List.mem_singleton.mp hd]; exact ldat_ok _
     · simp only [eq_self, decide_true]
       clear HD2 HF HO HM HV HI
       k_steps
       rename Fr g L _ _ => F_7
       rename News g L _ _ => N_7
       refine hQ _ F_7.keep (fun q hq => N_7 q ?_) rfl id
       iterate 7 refine List.mem_cons_of_mem _ ?_
       exact hq
end lw_endH
theorem lw_end {w g s L FA VO TL ML fa cdx o6 fvs vvs tvs mvs vts S f ml trees md nf nv nt nm m Q} : lw_endH.Stm p loose mg mb w g s L FA VO TL ML fa cdx o6 fvs vvs tvs mvs vts S f ml trees md nf nv nt nm m Q := pk_all (p := lw_endH.cx) (by with_unfolding_all exact lw_endH.main) (((((p, loose), (mg, mb)), ((w, g), (s, L))), (((FA, VO), (TL, ML)), ((fa, cdx), (o6, fvs)))), ((((vvs, tvs), (mvs, vts)), ((S, f), (ml, trees))), (((md, nf), (nv, nt)), ((nm, m), Q))))
end
end Mine
end
section
namespace Mine
noncomputable def mostV (rows : List (List Int)) : Value -> Bool
 | .int k _ => decide (256 <= 128 * ((cntK rows k : Nat) : Int))
 | _ => true
noncomputable def mostP (rows : List (List Int)) : List Int := ((List.range' 0 10).map Int.ofNat).filter fun k => decide (256 <= 128 * ((cntK rows k : Nat) : Int))
theorem most_ints {rows : List (List Int)} {n a : Nat} {vs ys : List Value} (hl : vs.length = n) (hv : (∀ (j : Nat) v, vs[j]? = some v -> ∃ t, v = .int ((a : Int) + (j : Int) * 1) t)) (hp : Paired (fun v y => ∃ k t u, v = .int k t /\ y = .int k u) (vs.filter (mostV rows)) ys) : IntsAre ys (((List.range' a n).map Int.ofNat).filter fun k => decide (256 <= 128 * ((cntK rows k : Nat) : Int))) := by
 induction vs generalizing n a ys with
 | nil =>
   subst hl
   rw [List.filter_nil] at hp
   cases hp
   exact .nil
 | cons v vs ih' =>
   subst hl
   refine x1_1 (hv 0 v rfl) fun t e => ?_
   have e1 : (a : Int) + ((0 : Nat) : Int) * 1 = (a : Int) := by simp
   rw [e1] at e
   have ih := fun {ys} => ih' (a := a + 1) (ys := ys) rfl (fun j v h => by
     refine x1_1 (hv (j + 1) v (by simpa using h)) fun t e => ?_
     exact ⟨t, by rw [e]; congr 1; push_cast; omega⟩)
   subst e
   rw [List.length_cons, List.range'_succ, List.map_cons, List.filter_cons]
   rw [List.filter_cons] at hp
   have em : mostV rows (.int (a : Int) t) = decide (256 <= 128 * ((cntK rows (Int.ofNat a) : Nat) : Int)) := rfl
   rw [em] at hp
   split
   · rename_i h
     rw [if_pos h] at hp
     cases hp with
     | cons x r =>
       refine x3_2 (x) fun k t' u e2 hcz4 => ?_
       try clear x
       cases hcz4
       cases e2
       exact .cons _ u (ih r)
   · rename_i h
     rw [if_neg h] at hp
     exact ih hp
section
namespace lw_mostH
noncomputable def Stm (pC : Program) (looseC : List Str) (mgC mbC : Str -> Option Value) (w : World) (g : Heap) (s : Shared) (L RL fa : Nat) (cdx : Value) (o2 : Obj) (rvs : List Value) (rows : List (List Int)) (md : List (Addr × Obj)) (nr : Nat) (m : Str -> Option Value) (Q : Flow -> Shared -> Prop) : Prop := ∀ {name qual : Str} {params : Arguments} {body : List Stmt} {scope : Scope} {dV kV doc pm cdv ct oc : Value} {an odd : Option Addr} {osl : Array (Option Value)} (T : TopRead pC looseC mgC mbC g) (X : (Mine.mk.heap_1 w.params).In g) (ho : (Mine.mk.heap_1 w.params).lookup 243 = some ⟨oc, odd, .func (fnOf name qual params body scope dV kV doc pm an cdv ct), osl⟩) (F : Fr g L s.heap m) (N : News g L s.heap ((L + 2, o2) :: (RL, listOf rvs.toArray nr) :: md)) (d2 : o2.data = .cell (some (.ref RL))) (hO : OnLed md rvs rows) (hz : rows.length <= 10) (hz2 : ∀ r ∈ rows, r.length <= 64) (hQ : ∀ s' (D : Nat) vs n, Fr g L s'.heap (fun y => if y = "most" then some (.ref D) else m y) -> News g L s'.heap ((D, listOf (List.toArray vs) n) :: md) -> (∀ q ∈ md, @Ne Nat q.1 D) -> IntsAre vs (mostP rows) -> s'.os = s.os -> (AllBare s.gens -> AllBare s'.gens) ->
    wpAny (model Challenge.rw_kl0462_01.prog w) (lawA qual scope L fa cdx) (execs (body.drop 6) (envOfC qual scope L fa cdx)) Q NF s'), wpAny (model Challenge.rw_kl0462_01.prog w) (lawA qual scope L fa cdx) (execs (body.drop 5) (envOfC qual scope L fa cdx)) Q NF s
noncomputable def cx (v : ((((Program × (List Str)) × (Str -> Option Value)) × ((Str -> Option Value) × World)) × ((Heap × Shared) × (Nat × Nat))) × ((((Nat × Value) × Obj) × (List Value × (List (List Int)))) × (((List (Addr × Obj)) × Nat) × ((Str -> Option Value) × (Flow -> Shared -> Prop))))) : Prop := Stm v.1.1.1.1.1 v.1.1.1.1.2 v.1.1.1.2 v.1.1.2.1 v.1.1.2.2 v.1.2.1.1 v.1.2.1.2 v.1.2.2.1 v.1.2.2.2 v.2.1.1.1.1 v.2.1.1.1.2 v.2.1.1.2 v.2.1.2.1 v.2.1.2.2 v.2.2.1.1 v.2.2.1.2 v.2.2.2.1 v.2.2.2.2
noncomputable section
def tup := pk (by walk_at "ne") cx
@[irreducible]def pC:=tup.1.1.1.1.1
@[irreducible]def looseC:=tup.1.1.1.1.2
@[irreducible]def mgC:=tup.1.1.1.2
@[irreducible]def mbC:=tup.1.1.2.1
@[irreducible]def w:=tup.1.1.2.2
@[irreducible]def g:=tup.1.2.1.1
@[irreducible]def s:=tup.1.2.1.2
@[irreducible]def L:=tup.1.2.2.1
@[irreducible]def RL:=tup.1.2.2.2
@[irreducible]def fa:=tup.2.1.1.1.1
@[irreducible]def cdx:=tup.2.1.1.1.2
@[irreducible]def o2:=tup.2.1.1.2
@[irreducible]def rvs:=tup.2.1.2.1
@[irreducible]def rows:=tup.2.1.2.2
@[irreducible]def md:=tup.2.2.1.1
@[irreducible]def nr:=tup.2.2.1.2
@[irreducible]def m:=tup.2.2.2.1
@[irreducible]def Q:=tup.2.2.2.2
end
theorem main : Stm pC looseC mgC mbC w g s L RL fa cdx o2 rvs rows md nr m Q := by
 intro name qual params body scope dV kV doc pm cdv ct oc an odd osl T X ho F N d2 hO hz hz2 hQ
 have kS1 : Key "call ref" := trivial
 have kS2 : KX := trivial
 have kSg : KG := trivial
 have kS3 : Key "eval ListComp" := trivial
 have kS4 : Key "exec Assign cons ListComp" := trivial
 have kS5 : Key "call type:range" := trivial
 have kS6 : KeyL "call builtin:len" := trivial
 have kS7 : Key "compareOp In int ref" := trivial
 revert X ho
 k_fill
 intro X ho
 have e := ho.symm.trans (by k_is)
 refine x0_3 (fnE e) fun hcz0 hcz1 hcz2 => ?_
 cases hcz0
 cases hcz1
 cases hcz2
 clear e
 dsimp only [List.drop] at hQ ⊢
 have HO : Hold (OnLed md rvs rows) := ⟨hO⟩
 clear ho hO
 k_steps
 unfold Stop
 refine asg_compC (h₀ := g) (by with_unfolding_all rfl) rfl rfl (by decide) rfl (fun _ => rfl) (fun _ => rfl) rfl rfl (mostV rows) (fun v y => ∃ k t u, v = .int k t /\ y = .int k u) ?_
 k_steps
 unfold Stop
 rename Fr g L _ _ => F_2
 rename News g L _ _ => N_2
 refine range_iter1 F_2 N_2 (by decide) (by decide) fun it h_2 tk F_3 N_3 l3 hL hit => ?_
 refine i4_3 _ _ _ _ (src_range (n := 10) rfl F_3 N_3 l3 hL hit (by decide)) ⟨fun C i v s_3 m_3 E' ox hv F_4 N_4 hox => ?_, fun C i v s_3 m_3 E' ox hv hp F_4 N_4 hox => ?_⟩ (fun D h' tk' ys nD vs F_5 N_5 neD hlen hP hF => ?_)
 · refine x1_1 (hv) fun t hcz1 => ?_
   try clear hv
   cases hcz1
   clear F_2 N_2 F_3 N_3
   have Nm : News g C s_3.heap md := fun q hq => N_4 q (List.mem_cons_of_mem _ (List.mem_cons_of_mem _ (List.mem_cons_of_mem _ hq)))
   have hI := OnLed.ints Nm HO.out
   have HN : Hold (News g C s_3.heap md) := ⟨Nm⟩
   clear Nm
   generalize hk : (0 + (i : Int) * 1) = kk at hox ⊢
   refine tests_one (wpAny_mono (Q := fun ok s_4 => Hold (ok = mostV rows (.int kk t) /\ Keeps s_3 s_4)) ?_ (fun _ _ z => z.out) fun _ _ z => z)
   k_steps
   unfold Stop
   refine evl_compK (h₀ := g) rfl (by decide) rfl (by decide) rfl (fun v => decide (kk ∈ intsAt s_3.heap v)) (fun v y => y = v) ?_
   k_steps
   refine iter_listK rfl F_4 N_4 (News.isList N_4 (by k_mem)) (by have := HO.out.len; simp [sizeLine_eq]; omega) fun itv h_7 S fr_0 k_0 => ?_
   refine i5_5 _ _ _ _ _ S fr_0 k_0 ⟨fun C_2 i_2 v s_5 m_5 E' hv_5 F_5 N_5 hm => ?_, fun C_2 i_2 v s_5 m_5 E' hv_5 hp_5 F_5 N_5 hm => ?_⟩ (fun A_1 h' tk' ys nA vs' F_8 N_8 neA hlen hP' hF K_8 => ?_)
   · have hvm : v ∈ rvs := List.mem_of_getElem? (by simpa using hv_5)
     refine x4_4 (OnLed.at HO.out v hvm) fun a ws n l hcz4 h1 h2 h3 => ?_
     cases hcz4
     have e1 := intsAt_of (HN.out _ h1).1 h2
     rw [e1]
     refine tests_one (wpAny_mono (Q := fun ok s_4 => Hold (ok = decide (kk ∈ l) /\ Keeps s_5 s_4)) ?_ (fun _ _ z => z.out) fun _ _ z => z)
     have F_6 := fr_know F_5 hm
     have za := News.isList (items := ws.toArray) (n := n) (d := none) (sl := #[]) N_5 (List.mem_cons_of_mem _ (List.mem_cons_of_mem _ (List.mem_cons_of_mem _ h1)))
     k_steps
     unfold Stop
     refine in_list_ints za h2 ?_
     k_steps
     exact ⟨⟨ints_in.symm, ⟨_, _, rfl, fun _ _ e => e⟩⟩⟩
   · exact loc_X F_5 hm ⟨rfl, ⟨_, _, rfl, fun _ _ e => e⟩⟩ rfl rfl rfl (by decide)
   · dsimp only
     replace F_8 := (show Fr g C h' _ from F_8)
     replace N_8 := (show News g C h' _ from N_8)
     have hvs := vs_list (by simpa using hlen) hP'
     have hys := paired_eq (fun _ _ e => e) hF
     rw [hvs] at hys
     refine x1_1 (⟨ys.toList, by simp⟩ : ∃ l : List Value, ys = l.toArray) fun ysl hcz1 => ?_
     cases hcz1
     have hyn : ysl.length = cntK rows kk := by
       have e0 : ysl = rvs.filter fun v => decide (kk ∈ intsAt s_3.heap v) := by simpa using hys
       rw [e0]; exact filter_ints hI kk
     have hcn : cntK rows kk <= 10 := Nat.le_trans (List.length_filter_le _ _) hz
     have hlA : Hold (h'.IsList A_1 ysl.toArray) := ⟨News.isList N_8 (n := nA) (d := none) (sl := #[]) List.mem_cons_self⟩
     have K_9 : Hold (∀ b o, s_3.heap.get? b = some o -> h'.get? b = some o) := ⟨K_8⟩
     clear hys hvs hlen hP' hF K_8 S fr_0 k_0 F_4 N_4
     refine (?_ : wpAny _ _ _ _ _ _)
     k_steps
     unfold Stop
     refine PyProof.Rows.len_list hlA.out (by simp; omega) ?_
     rw [show (ysl.toArray.size : Int) = (cntK rows kk : Nat) by simp [hyn]]
     k_steps
     unfold Stop
     rename Fr g C _ _ => F_9
     refine callC 0 (c_isnon (p := pC) (loose := looseC) (mg := mgC) (mb := mbC) (T.keeps F_9.keep) (Frag.In.keeps X F_9.keep) fun v s' hv hk' => ?_)
     subst hv
     refine x2_2 (hk') fun h_10 tk_10 hcz2 k_10 => ?_
     try clear hk'
     cases hcz2
     dsimp only
     refine (?_ : wpAny _ _ _ _ _ _)
     k_steps
     exact ⟨⟨rfl, ⟨_, _, rfl, fun b o e => k_10 b o (K_9.out b o e)⟩⟩⟩
 · refine x1_1 (hv) fun t hcz1 => ?_
   try clear hv
   cases hcz1
   exact cell_X N_4 List.mem_cons_self hox ⟨⟨_, t, t, rfl, rfl⟩, ⟨_, _, rfl, fun _ _ e => e⟩⟩ rfl rfl rfl (by decide)
 · dsimp only
   refine (?_ : wpAny _ _ _ _ _ _)
   replace F_5 := (show Fr g L h' _ from F_5)
   replace N_5 := (show News g L h' _ from N_5)
   refine hQ { s with heap := h', toks := tk' } D ys.toList nD F_5 (fun q hq => N_5 q ?_) (fun q hq => neD q (List.mem_cons_of_mem _ (List.mem_cons_of_mem _ hq))) ?_ rfl id
   · rcases List.mem_cons.mp hq with rfl | hq
     · simp
     · exact List.mem_cons_of_mem _ (List.mem_cons_of_mem _ (List.mem_cons_of_mem _ hq))
   · exact most_ints hlen hP hF
end lw_mostH
theorem lw_most {w g s L RL fa cdx o2 rvs rows md nr m Q} : lw_mostH.Stm p loose mg mb w g s L RL fa cdx o2 rvs rows md nr m Q := pk_all (p := lw_mostH.cx) (by with_unfolding_all exact lw_mostH.main) (((((p, loose), mg), (mb, w)), ((g, s), (L, RL))), ((((fa, cdx), o2), (rvs, rows)), ((md, nr), (m, Q))))
end
end Mine
end
section
namespace Mine
theorem mem_asI {t : List Nat} {k : Nat} : (k : Int) ∈ asI t ↔ k ∈ t := by
 constructor
 · intro h
   refine x1_2 (List.mem_map.mp h) fun j hj e => ?_
   have : j = k := Int.ofNat.inj e
   rwa [<- this]
 · intro h; exact List.mem_map.mpr ⟨k, h, rfl⟩
theorem cnt3 (a b c : List Nat) (k : Nat) : cntK [asI a, asI b, asI c] (k : Int) = (if k ∈ a then 1 else 0) + (if k ∈ b then 1 else 0) + (if k ∈ c then 1 else 0) := by
 unfold cntK
 rw [List.filter_cons, List.filter_cons, List.filter_cons]
 simp only [mem_asI, decide_eq_true_eq, List.filter_nil]
 by_cases h1 : k ∈ a <;> by_cases h2 : k ∈ b <;> by_cases h3 : k ∈ c <;> simp [h1, h2, h3]
theorem item10 (a0 a1 a2 a3 a4 a5 a6 a7 a8 a9 : Nat) : Txt.item ⟨#[a0, a1, a2, a3, a4, a5, a6, a7, a8, a9]⟩ 0 = ⟨#[a0]⟩ /\ Txt.item ⟨#[a0, a1, a2, a3, a4, a5, a6, a7, a8, a9]⟩ 7 = ⟨#[a7]⟩ := ⟨rfl, rfl⟩
theorem word10 (l : List Int) : wordP l = ⟨#[if (0 : Int) ∈ l then 65 else 97, if (1 : Int) ∈ l then 66 else 98, if (2 : Int) ∈ l then 67 else 99, if (3 : Int) ∈ l then 68 else 100, if (4 : Int) ∈ l then 69 else 101, if (5 : Int) ∈ l then 70 else 102, if (6 : Int) ∈ l then 71 else 103, if (7 : Int) ∈ l then 72 else 104, if (8 : Int) ∈ l then 73 else 105, if (9 : Int) ∈ l then 74 else 106]⟩ := rfl
theorem item_word (l : List Int) : ∀ k : Nat, k < 10 -> Txt.item (wordP l) (k : Int) = ⟨#[if (k : Int) ∈ l then 65 + k else 97 + k]⟩ := by
 intro k hk
 rw [word10]
 rcases (by omega : k = 0 \/ k = 1 \/ k = 2 \/ k = 3 \/ k = 4 \/ k = 5 \/ k = 6 \/ k = 7 \/ k = 8 \/ k = 9) with rfl | rfl | rfl | rfl | rfl | rfl | rfl | rfl | rfl | rfl <;> rfl
theorem cost10 : ∀ k : Nat, k < 10 -> costP ⟨#[97 + k]⟩ ⟨#[65 + k]⟩ = 1 /\ costP ⟨#[97 + k]⟩ ⟨#[97 + k]⟩ = 0 /\ costP ⟨#[65 + k]⟩ ⟨#[65 + k]⟩ = 0 /\ costP ⟨#[65 + k]⟩ ⟨#[97 + k]⟩ = 1 := by decide +kernel
theorem cnt_cons (l : List Int) (rows : List (List Int)) (k : Int) : cntK (l :: rows) k = (if k ∈ l then 1 else 0) + cntK rows k := by
 unfold cntK
 rw [List.filter_cons]
 by_cases h : k ∈ l
 · rw [if_pos (decide_eq_true h), if_pos h, List.length_cons]; omega
 · rw [if_neg (by simpa using h), if_neg h]; omega
theorem let97 (k : Nat) (hk : k < 10) : ∀ rows, letS 97 rows (k : Int) = ((cntK rows (k : Int) : Nat) : Int)
 | [] => rfl
 | l :: rows => by
   have ih := let97 k hk rows
   obtain ⟨h1, h2, -, -⟩ := cost10 k hk
   rw [cnt_cons]
   unfold letS at ih ⊢
   rw [List.map_cons, List.map_cons, List.sum_cons, ih, item_word l k hk, show ((k : Int)).toNat = k from rfl]
   by_cases h : (k : Int) ∈ l
   · rw [if_pos h, if_pos h, h1]; omega
   · rw [if_neg h, if_neg h, h2]; omega
theorem let65 (k : Nat) (hk : k < 10) : ∀ rows, letS 65 rows (k : Int) = (rows.length : Int) - ((cntK rows (k : Int) : Nat) : Int)
 | [] => rfl
 | l :: rows => by
   have ih := let65 k hk rows
   obtain ⟨-, -, h1, h2⟩ := cost10 k hk
   rw [cnt_cons]
   unfold letS at ih ⊢
   rw [List.map_cons, List.map_cons, List.sum_cons, ih, item_word l k hk, show ((k : Int)).toNat = k from rfl, List.length_cons]
   by_cases h : (k : Int) ∈ l
   · rw [if_pos h, if_pos h, h1]; omega
   · rw [if_neg h, if_neg h, h2]; omega
theorem sumF (a b : Nat -> Int) (p : Nat -> Bool) : ∀ ks : List Nat, (ks.map a).sum + ((ks.filter p).map b).sum = (ks.map fun k => if p k = true then a k + b k else a k).sum
 | [] => rfl
 | k :: ks => by
   have ih := sumF a b p ks
   rw [List.map_cons, List.map_cons, List.sum_cons, List.sum_cons, List.filter_cons, <- ih]
   cases h : p k
   · rw [if_neg (by decide), if_neg (by decide)]; omega
   · rw [if_pos rfl, if_pos rfl, List.map_cons, List.sum_cons]; omega
theorem least (c : Nat -> Int) (p : Nat -> Bool) : ∀ ks : List Nat, (∀ k ∈ ks, 0 <= c k /\ c k <= 3) -> (ks.map fun k => min3 (c k)).sum <= (ks.map fun k => if p k = true then 3 - c k else c k).sum /\
   ((ks.map fun k => if p k = true then 3 - c k else c k).sum = (ks.map fun k => min3 (c k)).sum ↔ ∀ k ∈ ks, p k = decide (2 <= c k))
 | [], _ => ⟨Int.le_refl _, by simp⟩
 | k :: ks, h => by
   refine x0_2 (least c p ks fun x hx => h x (List.mem_cons_of_mem _ hx)) fun i1 i2 => ?_
   refine x0_2 (h k List.mem_cons_self) fun h0 h3 => ?_
   rw [List.map_cons, List.map_cons, List.sum_cons, List.sum_cons]
   have hk : min3 (c k) <= (if p k = true then 3 - c k else c k) /\ ((if p k = true then 3 - c k else c k) = min3 (c k) ↔ p k = decide (2 <= c k)) := by
     unfold min3
     by_cases h2 : 2 <= c k
     · rw [decide_eq_true h2, if_pos (by omega)]
       cases p k
       · simp; omega
       · simp
     · rw [decide_eq_false h2, if_neg (by omega)]
       cases p k
       · simp
       · simp; omega
   refine ⟨by omega, ?_⟩
   rw [List.forall_mem_cons, <- hk.2, <- i2]
   omega
theorem tree_filter : ∀ t ∈ trees26, (List.range' 0 10).filter (fun k => decide (k ∈ t)) = t := by decide +kernel
theorem tree_only : ∀ a ∈ trees26, trees26.filter (fun t => decide (t = a)) = [a] := by decide +kernel
theorem tree_pair : ∀ t ∈ trees26, ∀ x ∈ t, ∀ y ∈ t, x < y -> [x, y] ∈ trees26 := by decide +kernel
theorem tree_one : ∀ x < 10, [x] ∈ trees26 := by decide +kernel
theorem tree_three : ∀ z ∈ List.range 10, ∀ y ∈ List.range z, ∀ x ∈ List.range y, ¬ ([x, y] ∈ trees26 /\ [x, z] ∈ trees26 /\ [y, z] ∈ trees26) := by decide +kernel
theorem range10_get (h : Nat -> Int) : ∀ k, k < 10 -> ((List.range' 0 10).map h).getD k 0 = h k := by
 intro k hk
 rcases (by omega : k = 0 \/ k = 1 \/ k = 2 \/ k = 3 \/ k = 4 \/ k = 5 \/ k = 6 \/ k = 7 \/ k = 8 \/ k = 9) with rfl | rfl | rfl | rfl | rfl | rfl | rfl | rfl | rfl | rfl <;> rfl
theorem tree_lt {t : List Nat} (ht : t ∈ trees26) : ∀ k ∈ t, k < 10 := by
 have hsT := List.all_eq_true.mp trees_sorted t ht
 simp only [Bool.and_eq_true, decide_eq_true_eq, List.all_eq_true] at hsT
 exact hsT.2
theorem far_is (wo ha c : Nat -> Int) {t : List Nat} (ht : t ∈ trees26) (h1 : ∀ k < 10, wo k = c k) (h2 : ∀ k < 10, ha k = 3 - c k) :
   farP ((List.range' 0 10).map wo) ((List.range' 0 10).map ha) (asI t) = ((List.range' 0 10).map fun k => if decide (k ∈ t) = true then 3 - c k else c k).sum := by
 unfold farP
 have e1 : (asI t).map (fun k => ((List.range' 0 10).map ha).getD k.toNat 0 - ((List.range' 0 10).map wo).getD k.toNat 0) = t.map fun k => (3 - c k) - c k := by
   unfold asI
   rw [List.map_map]
   refine List.map_congr_left fun k hk => ?_
   have hk10 := tree_lt ht k hk
   show ((List.range' 0 10).map ha).getD k 0 - ((List.range' 0 10).map wo).getD k 0 = _
   rw [range10_get _ k hk10, range10_get _ k hk10, h1 k hk10, h2 k hk10]
 have e2 : (List.range' 0 10).map wo = (List.range' 0 10).map c := List.map_congr_left fun k hk => h1 k (by
   obtain ⟨_, h⟩ := List.mem_range'_1.mp hk
   exact h)
 rw [e1, e2]
 conv => lhs; rw [<- tree_filter t ht]
 rw [sumF c (fun k => (3 - c k) - c k) (fun k => decide (k ∈ t))]
 refine congrArg List.sum (List.map_congr_left fun k _ => ?_)
 split <;> omega
theorem few_tree {l : List Nat} (hs : l.Pairwise (· < ·)) (h10 : ∀ x ∈ l, x < 10) (hp : ∀ x ∈ l, ∀ y ∈ l, x < y -> [x, y] ∈ trees26) : l ∈ trees26 := by
 match l, hs, h10, hp with
 | [], _, _, _ => exact (by decide +kernel : ([] : List Nat) ∈ trees26)
 | [x], _, h10, _ => exact tree_one x (h10 x List.mem_cons_self)
 | [x, y], hs, _, hp =>
   cases hs with
   | cons h _ => exact hp x List.mem_cons_self y (List.mem_cons_of_mem _ List.mem_cons_self) (h y List.mem_cons_self)
 | x :: y :: z :: r, hs, h10, hp =>
   exfalso
   cases hs with
   | cons h hs =>
     cases hs with
     | cons h' hs' =>
       have mx : x ∈ x :: y :: z :: r := List.mem_cons_self
       have my : y ∈ x :: y :: z :: r := List.mem_cons_of_mem _ List.mem_cons_self
       have mz : z ∈ x :: y :: z :: r := List.mem_cons_of_mem _ (List.mem_cons_of_mem _ List.mem_cons_self)
       have xy := h y List.mem_cons_self
       have xz := h z (List.mem_cons_of_mem _ List.mem_cons_self)
       have yz := h' z List.mem_cons_self
       exact tree_three z (List.mem_range.mpr (h10 z mz)) y (List.mem_range.mpr yz) x (List.mem_range.mpr xy) ⟨hp x mx y my xy, hp x mx z mz xz, hp y my z mz yz⟩
noncomputable def mostN (rows : List (List Int)) : List Nat := (List.range' 0 10).filter fun k => decide (256 <= 128 * ((cntK rows (k : Int) : Nat) : Int))
theorem mostP_is (rows : List (List Int)) : mostP rows = asI (mostN rows) := by
 unfold mostP mostN asI
 rw [List.filter_map]
 rfl
theorem most_tree {a b c : List Nat} (ha : a ∈ trees26) (hb : b ∈ trees26) (hc : c ∈ trees26) : mostN [asI a, asI b, asI c] ∈ trees26 := by
 refine few_tree (List.Pairwise.filter _ (by decide)) (fun x hx => ?_) fun x hx y hy hxy => ?_
 · obtain ⟨_, h⟩ := List.mem_range'_1.mp (List.mem_filter.mp hx).1
   exact h
 · have hx2 := of_decide_eq_true (List.mem_filter.mp hx).2
   have hy2 := of_decide_eq_true (List.mem_filter.mp hy).2
   rw [cnt3] at hx2 hy2
   by_cases x1 : x ∈ a <;> by_cases x2 : x ∈ b <;> by_cases x3 : x ∈ c <;> by_cases y1 : y ∈ a <;> by_cases y2 : y ∈ b <;> by_cases y3 : y ∈ c <;> simp only [x1, x2, x3, y1, y2, y3, if_true, if_false] at hx2 hy2 <;>
     first
     | exact tree_pair a ha x x1 y y1 hxy
     | exact tree_pair b hb x x2 y y2 hxy
     | exact tree_pair c hc x x3 y y3 hxy
     | omega
theorem median {a b c : List Nat} (ha : a ∈ trees26) (hb : b ∈ trees26) (hc : c ∈ trees26) {rows : List (List Int)} (hr : rows = [asI a, asI b, asI c]) {wo hv : List Int} {S : Int}
   (hwo : wo = (List.range' 0 10).map fun k : Nat => letS 97 rows (k : Int)) (hha : hv = (List.range' 0 10).map fun k : Nat => letS 65 rows (k : Int))
   (hS : S = (((List.range' 0 10).map fun k : Nat => ((cntK rows (k : Int) : Nat) : Int)).map min3).sum) :
   (∀ M ∈ (trees26.map asI).map (farP wo hv), (∀ x ∈ (trees26.map asI).map (farP wo hv), M <= x) -> M = S) /\ (trees26.map asI).filter (fun l => decide (farP wo hv l = S)) = [asI (mostN rows)] := by
 have hm : mostN rows ∈ trees26 := by rw [hr]; exact most_tree ha hb hc
 have hc3 : ∀ k : Nat, (0 : Int) <= ((cntK rows (k : Int) : Nat) : Int) /\ ((cntK rows (k : Int) : Nat) : Int) <= 3 := fun k => by
   rw [hr, cnt3]
   by_cases x1 : k ∈ a <;> by_cases x2 : k ∈ b <;> by_cases x3 : k ∈ c <;> simp [x1, x2, x3]
 have hlen : rows.length = 3 := by rw [hr]; rfl
 have hfar : ∀ t ∈ trees26, farP wo hv (asI t) = ((List.range' 0 10).map fun k => if decide (k ∈ t) = true then 3 - ((cntK rows (k : Int) : Nat) : Int) else ((cntK rows (k : Int) : Nat) : Int)).sum := fun t ht => by
   rw [hwo, hha]
   exact far_is _ _ (fun k => ((cntK rows (k : Int) : Nat) : Int)) ht (fun k hk => let97 k hk rows) fun k hk => by rw [let65 k hk rows, hlen]; rfl
 have hS2 : S = ((List.range' 0 10).map fun k : Nat => min3 ((cntK rows (k : Int) : Nat) : Int)).sum := by
   rw [hS, List.map_map]; rfl
 have key : ∀ t ∈ trees26, S <= farP wo hv (asI t) /\ (farP wo hv (asI t) = S ↔ t = mostN rows) := fun t ht => by
   refine x0_2 (least (fun k => ((cntK rows (k : Int) : Nat) : Int)) (fun k => decide (k ∈ t)) (List.range' 0 10) fun k _ => hc3 k) fun l1 l2 => ?_
   rw [hfar t ht, hS2]
   refine ⟨l1, l2.trans ⟨fun h => ?_, fun h k hk => ?_⟩⟩
   · rw [<- tree_filter t ht]
     unfold mostN
     refine List.filter_congr fun k hk => ?_
     rw [h k hk]
     exact decide_eq_decide.mpr ⟨fun _ => by omega, fun _ => by omega⟩
   · subst h
     refine decide_eq_decide.mpr ?_
     unfold mostN
     rw [List.mem_filter, decide_eq_true_eq]
     exact ⟨fun h => by have := h.2; omega, fun h => ⟨hk, by omega⟩⟩
 refine ⟨fun M hM hle => ?_, ?_⟩
 · refine x1_2 (List.mem_map.mp hM) fun l hl hcz2 => ?_
   cases hcz2
   refine x1_2 (List.mem_map.mp hl) fun t ht hcz2 => ?_
   cases hcz2
   have h1 := (key t ht).1
   have h2 := hle _ (List.mem_map_of_mem (List.mem_map_of_mem hm))
   rw [(key _ hm).2.mpr rfl] at h2
   omega
 · rw [List.filter_map, show ((fun l => decide (farP wo hv l = S)) ∘ asI) = fun t => decide (farP wo hv (asI t) = S) from rfl]
   rw [List.filter_congr (q := fun t => decide (t = mostN rows)) fun t ht => decide_eq_decide.mpr (key t ht).2, tree_only _ hm]
   rfl
end Mine
end
section
namespace Mine
section
local macro_rules | `(tactic| walk_at "last subscriptTail") => mGo "show wpAny _ _ ( subscriptTail ( PySem.Expr.List _ _ ) _ _ _ ) _ _ _ ; rf Stop.go ?_"
namespace lw_headH
noncomputable def Stm (pC : Program) (looseC : List Str) (mgC mbC : Str -> Option Value) (w : World) (g : Heap) (s : Shared) (L S0 fa : Nat) (cdx : Value) (o1 o2 o3 o4 o5 o6 : Obj) (v1 v2 : Option Value) (svs : List Value) (sns : List Int) (m : Str -> Option Value) (Q : Flow -> Shared -> Prop) : Prop := ∀ {name qual : Str} {params : Arguments} {body : List Stmt} {scope : Scope} {dV kV doc pm cdv ct ocl : Value} {an odd : Option Addr} {osl : Array (Option Value)} (T : TopRead pC looseC mgC mbC g) (X : (Mine.mk.heap_1 w.params).In g) (ho : (Mine.mk.heap_1 w.params).lookup 243 = some ⟨ocl, odd, .func (fnOf name qual params body scope dV kV doc pm an cdv ct), osl⟩) (F : Fr g L s.heap (fun y => if y = "script" then some (.ref S0) else m y)) (N : News g L s.heap [(L + 6, o6), (L + 5, o5), (L + 4, o4), (L + 3, o3), (L + 2, o2), (L + 1, o1), (161, tabObj #[])]) (d1 : o1.data = .cell v1) (d2 : o2.data = .cell v2) (hS0 : g.IsList S0 svs.toArray) (hi : IntsAre svs sns) (hsz : sns.length <= 63) (h161 : @LT.lt Nat _ 161 L) (hQ : ∀ s' (m' : Str -> Option Value) (NL TL G RL CD : Nat) (ocd o1' o2' : Obj) nvs tvs gl nt md, Fr g L s'.heap (fun y => if y = "numbers" then some (.ref NL) else if y = "trees" then some (.ref TL) else m' y) ->
     News g L s'.heap ([(161, tabObj #[]), (CD, ocd)] ++ ((RL, listOf ([] : List Value).toArray 0) :: (L + 2, o2') :: (L + 1, o1') :: (NL, listOf (List.toArray nvs) 0) :: (TL, listOf (List.toArray tvs) nt) :: (G, listOf (strValues gl).toArray 0) :: (L + 3, o3) :: (L + 4, o4) :: (L + 5, o5) :: (L + 6, o6) :: md)) ->
     o1'.data = .cell (some (.ref G)) -> o2'.data = .cell (some (.ref RL)) -> IntsAre nvs (sns.take 9 ++ ([20, 0, 6, 13, 1, 8, 21, 2, 0] : List Int).drop sns.length) -> gl.map (·.1) = gs10.map leavesT -> OnLed md tvs (trees26.map asI) -> @Ne Nat 161 CD ->
     (∀ q ∈ (L + 2, o2') :: (L + 1, o1') :: (NL, listOf (List.toArray nvs) 0) :: (TL, listOf (List.toArray tvs) nt) :: (G, listOf (strValues gl).toArray 0) :: (L + 3, o3) :: (L + 4, o4) :: (L + 5, o5) :: (L + 6, o6) :: md, @Ne Nat q.1 RL) ->
     (∀ q ∈ (RL, listOf ([] : List Value).toArray 0) :: (L + 2, o2') :: (L + 1, o1') :: (NL, listOf (List.toArray nvs) 0) :: (TL, listOf (List.toArray tvs) nt) :: (G, listOf (strValues gl).toArray 0) :: (L + 3, o3) :: (L + 4, o4) :: (L + 5, o5) :: (L + 6, o6) :: md, @Ne Nat q.1 161 /\ @Ne Nat q.1 CD) ->
     (∀ q ∈ (RL, listOf ([] : List Value).toArray 0) :: (NL, listOf (List.toArray nvs) 0) :: (TL, listOf (List.toArray tvs) nt) :: (G, listOf (strValues gl).toArray 0) :: md, @Ne Nat q.1 (L + 3) /\ @Ne Nat q.1 (L + 4) /\ @Ne Nat q.1 (L + 5) /\ @Ne Nat q.1 (L + 6)) ->
     s'.os = s.os -> (AllBare s.gens -> AllBare s'.gens) -> wpAny (model Challenge.rw_kl0462_01.prog w) (lawA qual scope L fa cdx) (execs (body.drop 4) (envOfC qual scope L fa cdx)) Q NF s'), wpAny (model Challenge.rw_kl0462_01.prog w) (lawA qual scope L fa cdx) (execs body (envOfC qual scope L fa cdx)) Q NF s
noncomputable def cx (v : ((((Program × (List Str)) × (Str -> Option Value)) × (((Str -> Option Value) × World) × Heap)) × (((Shared × Nat) × Nat) × ((Nat × Value) × Obj))) × ((((Obj × Obj) × Obj) × ((Obj × Obj) × (Option Value))) × ((((Option Value) × (List Value)) × (List Int)) × ((Str -> Option Value) × (Flow -> Shared -> Prop))))) : Prop := Stm v.1.1.1.1.1 v.1.1.1.1.2 v.1.1.1.2 v.1.1.2.1.1 v.1.1.2.1.2 v.1.1.2.2 v.1.2.1.1.1 v.1.2.1.1.2 v.1.2.1.2 v.1.2.2.1.1 v.1.2.2.1.2 v.1.2.2.2 v.2.1.1.1.1 v.2.1.1.1.2 v.2.1.1.2 v.2.1.2.1.1 v.2.1.2.1.2 v.2.1.2.2 v.2.2.1.1.1 v.2.2.1.1.2 v.2.2.1.2 v.2.2.2.1 v.2.2.2.2
noncomputable section
def tup := pk (by walk_at "ne") cx
@[irreducible]def pC:=tup.1.1.1.1.1
@[irreducible]def looseC:=tup.1.1.1.1.2
@[irreducible]def mgC:=tup.1.1.1.2
@[irreducible]def mbC:=tup.1.1.2.1.1
@[irreducible]def w:=tup.1.1.2.1.2
@[irreducible]def g:=tup.1.1.2.2
@[irreducible]def s:=tup.1.2.1.1.1
@[irreducible]def L:=tup.1.2.1.1.2
@[irreducible]def S0:=tup.1.2.1.2
@[irreducible]def fa:=tup.1.2.2.1.1
@[irreducible]def cdx:=tup.1.2.2.1.2
@[irreducible]def o1:=tup.1.2.2.2
@[irreducible]def o2:=tup.2.1.1.1.1
@[irreducible]def o3:=tup.2.1.1.1.2
@[irreducible]def o4:=tup.2.1.1.2
@[irreducible]def o5:=tup.2.1.2.1.1
@[irreducible]def o6:=tup.2.1.2.1.2
@[irreducible]def v1:=tup.2.1.2.2
@[irreducible]def v2:=tup.2.2.1.1.1
@[irreducible]def svs:=tup.2.2.1.1.2
@[irreducible]def sns:=tup.2.2.1.2
@[irreducible]def m:=tup.2.2.2.1
@[irreducible]def Q:=tup.2.2.2.2
end
theorem main : Stm pC looseC mgC mbC w g s L S0 fa cdx o1 o2 o3 o4 o5 o6 v1 v2 svs sns m Q := by
 intro name qual params body scope dV kV doc pm cdv ct ocl an odd osl T X ho F N d1 d2 hS0 hi hsz h161 hQ
 have kS1 : KX := trivial
 have kSg : KG := trivial
 have kS2 : Key "eval ListComp" := trivial
 have kS3 : Key "exec Assign cons ListComp" := trivial
 have kS4 : Key "call type:range" := trivial
 have kS5 : Key "compareOp In int ref" := trivial
 have kS6 : Key "call ref" := trivial
 have kS7 : Key "subscriptTail List Slice ref ref" := trivial
 have kS8 : KeyL "call builtin:len" := trivial
 have kS9 : Key "exec For" := trivial
 revert X ho
 k_fill
 intro X ho
 have e := ho.symm.trans (by k_is)
 refine x0_3 (fnE e) fun hcz0 hcz1 hcz2 => ?_
 cases hcz0
 cases hcz1
 cases hcz2
 clear e
 clear ho
 dsimp only [List.drop] at hQ
 have HQ := Hold.mk hQ
 clear hQ
 have hS1 := base_list F hS0
 k_steps
 unfold Stop
 rename Fr g L _ _ => F_1
 have hvl : svs.length = sns.length := by rw [<- ints_map hi]; simp
 refine PyProof.Rows.len_list (base_list F_1 hS0) (by simp; omega) ?_
 rw [show (svs.toArray.size : Int) = (sns.length : Int) by simp [hvl]]
 refine (?_ : wpAny _ _ _ _ _ _)
 k_steps
 unfold Stop
 rename Fr g L _ _ => F_2
 rename News g L _ _ => N_2
 refine kba_turn (value' := PySem.Expr.Name (Str.ofString "_") ⟨0, 0, 0, 0⟩) (fun _ => rfl) ?_
 refine kmk_slice_ints (ns := [20, 0, 6, 13, 1, 8, 21, 2, 0]) (ms := ([20, 0, 6, 13, 1, 8, 21, 2, 0] : List Int).drop sns.length) (c := _) F_2 N_2 (News.isList N_2 (by k_mem)) (IsPart.int _ _) IsPart.none (by repeat constructor) ?_ rfl (fun D_2 ws_2 h_3 F_3 N_3 l3 hI_3 hC_3 hL_3 => ?_) (by with_unfolding_all rfl) (fun _ => rfl) (by show 9 <= sizeLine; decide)
 · rw [slicePick_from']
   simp only [List.toList_toArray]
   refine ints_drop (vs := [Value.int 20 _, Value.int 0 _, Value.int 6 _, Value.int 13 _, Value.int 1 _, Value.int 8 _, Value.int 21 _, Value.int 2 _, Value.int 0 _]) (ns := [20, 0, 6, 13, 1, 8, 21, 2, 0]) ?_ _
   repeat constructor
 clear F_2 N_2
 k_lt l3
 refine (?_ : wpAny _ _ _ _ _ _)
 k_steps
 rename Fr g L _ _ => F_4
 rename News g L _ _ => N_4
 rename IntsAre _ (_ ++ _) => hI4
 rename_i CD wsd hx5 hIx hCx hLx lx3 LTa hx4 lx2 NL nvs hx3 lx1 hx2 tk0 G hx1 lx0 hx0 o1' d1'
 obtain ⟨gl, hgle, hglm⟩ : ∃ gl : List (Str × Tok), (#[Value.str (Str.ofString "ab") (tk0), Value.str (Str.ofString "ac") (tk0 + 1), Value.str (Str.ofString "ad") (tk0 + 1 + 1), Value.str (Str.ofString "bc") (tk0 + 1 + 1 + 1), Value.str (Str.ofString "bd") (tk0 + 1 + 1 + 1 + 1), Value.str (Str.ofString "cd") (tk0 + 1 + 1 + 1 + 1 + 1), Value.str (Str.ofString "abc") (tk0 + 1 + 1 + 1 + 1 + 1 + 1), Value.str (Str.ofString "abd") (tk0 + 1 + 1 + 1 + 1 + 1 + 1 + 1), Value.str (Str.ofString "acd") (tk0 + 1 + 1 + 1 + 1 + 1 + 1 + 1 + 1), Value.str (Str.ofString "bcd") (tk0 + 1 + 1 + 1 + 1 + 1 + 1 + 1 + 1 + 1)] : Array Value) = (strValues gl).toArray /\ gl.map (·.1) = gs10.map leavesT :=
   ⟨[(Str.ofString "ab", tk0), (Str.ofString "ac", tk0 + 1), (Str.ofString "ad", tk0 + 1 + 1), (Str.ofString "bc", tk0 + 1 + 1 + 1), (Str.ofString "bd", tk0 + 1 + 1 + 1 + 1), (Str.ofString "cd", tk0 + 1 + 1 + 1 + 1 + 1), (Str.ofString "abc", tk0 + 1 + 1 + 1 + 1 + 1 + 1), (Str.ofString "abd", tk0 + 1 + 1 + 1 + 1 + 1 + 1 + 1), (Str.ofString "acd", tk0 + 1 + 1 + 1 + 1 + 1 + 1 + 1 + 1), (Str.ofString "bcd", tk0 + 1 + 1 + 1 + 1 + 1 + 1 + 1 + 1 + 1)], rfl, by
     show [Str.ofString "ab", Str.ofString "ac", Str.ofString "ad", Str.ofString "bc", Str.ofString "bd", Str.ofString "cd", Str.ofString "abc", Str.ofString "abd", Str.ofString "acd", Str.ofString "bcd"] = _
     decide +kernel⟩
 rw [hgle] at N_4
 have N_5 : News g L hx0 [(161, tabObj #[]), (CD, listOf wsd.toArray 0), (L + 2, o2), (L + 1, o1'), (NL, listOf nvs.toArray 0), (G, listOf (strValues gl).toArray 0), (L + 3, o3), (L + 4, o4), (L + 5, o5), (L + 6, o6)] := pickN N_4 (by walk_at "sub")
 have hord : @LT.lt Nat _ (L + 6) CD /\ @LT.lt Nat _ CD NL /\ @LT.lt Nat _ NL G := ⟨lx3.1, lx1.2.2.1, lx0.1⟩
 have HG : Hold (gl.map (·.1) = gs10.map leavesT) := ⟨hglm⟩
 have HI : Hold (IntsAre nvs (List.take 9 sns ++ List.drop sns.length [20, 0, 6, 13, 1, 8, 21, 2, 0])) := ⟨hI4⟩
 clear N_4 hgle hglm lx0 lx1 lx2 lx3 l3 hI4 hI_3 hC_3 hL_3 hIx hCx hLx
 unfold Stop
 refine callC 3 (c_trees (p := pC) (loose := looseC) (mg := mgC) (mb := mbC) (w := w) (T.keeps F_4.keep) (Frag.In.keeps X F_4.keep) (News.isList (items := (strValues gl).toArray) (n := 0) (d := none) (sl := #[]) N_5 (by k_mem)) HG.out (by decide) (fun g hg => ⟨gs10_len g hg, fun c hc => by
   have := gs10_ok g hg c hc
   simp only [List.mem_cons, List.not_mem_nil, or_false] at this
   omega⟩) fun s_2 TL tvs nt md KP hD hDn hmd hOt => ?_)
 have F_6 := fr_keeps F_4 KP.keep
 have TLL : @Ne Nat TL L := fun e => by
   obtain ⟨o, _, _, ho, _⟩ := F_4.ns
   rw [show (L : Addr) = TL from e.symm] at ho
   exact nomatch ho.symm.trans hDn
 have fresh : ∀ b, hx0.get? b = none -> @Ne Nat b L /\ g.get? b = none /\ ∀ q ∈ [(161, tabObj #[]), (CD, listOf wsd.toArray 0), (L + 2, o2), (L + 1, o1'), (NL, listOf nvs.toArray 0), (G, listOf (strValues gl).toArray 0), (L + 3, o3), (L + 4, o4), (L + 5, o5), (L + 6, o6)], @Ne Nat q.1 b := fun b hb => by
   refine i0_3 (fun e => ?_) ?_ (fun q hq e => ?_)
   · obtain ⟨o, _, _, ho, _⟩ := F_4.ns
     rw [show (L : Addr) = b from e.symm, hb] at ho
     exact nomatch ho
   · cases z : g.get? b with
     | none => rfl
     | some o => exact nomatch (F_4.keep _ _ z).symm.trans hb
   · have z := (N_5 q hq).1
     rw [show q.1 = (b : Addr) from e, hb] at z
     exact nomatch z
 refine x0_3 (fresh TL hDn) fun t1 t2 t3 => ?_
 have N_6 : News g L s_2.heap ((TL, listOf (List.toArray tvs) nt) :: (161, tabObj #[]) :: (CD, listOf wsd.toArray 0) :: (L + 2, o2) :: (L + 1, o1') :: (NL, listOf nvs.toArray 0) :: (G, listOf (strValues gl).toArray 0) :: (L + 3, o3) :: (L + 4, o4) :: (L + 5, o5) :: (L + 6, o6) :: md) := fun q hq => by
   rcases List.mem_cons.mp hq with rfl | hq
   · exact i0_3 hD t1 t2
   have hq' : q ∈ [(161, tabObj #[]), (CD, listOf wsd.toArray 0), (L + 2, o2), (L + 1, o1'), (NL, listOf nvs.toArray 0), (G, listOf (strValues gl).toArray 0), (L + 3, o3), (L + 4, o4), (L + 5, o5), (L + 6, o6)] ++ md := hq
   rcases List.mem_append.mp hq' with hq | hq
   · exact ⟨KP.keep _ _ (N_5 q hq).1, (N_5 q hq).2⟩
   · exact i0_3 ((hmd q hq).1) ((fresh q.1 (hmd q hq).2.1).1) ((fresh q.1 (hmd q hq).2.1).2.1)
 have HMD : Hold (∀ r ∈ md, (∀ q ∈ [(161, tabObj #[]), (CD, listOf wsd.toArray 0), (L + 2, o2), (L + 1, o1'), (NL, listOf nvs.toArray 0), (G, listOf (strValues gl).toArray 0), (L + 3, o3), (L + 4, o4), (L + 5, o5), (L + 6, o6)], @Ne Nat q.1 r.1) /\ @Ne Nat TL r.1) := ⟨fun r hr => ⟨(fresh r.1 (hmd r hr).2.1).2.2, (hmd r hr).2.2⟩⟩
 have HT3 : Hold (∀ q ∈ [(161, tabObj #[]), (CD, listOf wsd.toArray 0), (L + 2, o2), (L + 1, o1'), (NL, listOf nvs.toArray 0), (G, listOf (strValues gl).toArray 0), (L + 3, o3), (L + 4, o4), (L + 5, o5), (L + 6, o6)], @Ne Nat q.1 TL) := ⟨t3⟩
 rw [treesP_eq] at hOt
 have HOT : Hold (OnLed md tvs (trees26.map asI)) := ⟨hOt⟩
 have os_2 := KP.os
 have ba_2 := KP.bare
 clear F_4 N_5 KP hD hDn hmd hOt fresh t1 t2 t3 TLL
 dsimp only
 refine (?_ : wpAny _ _ _ _ _ _)
 k_steps
 rename Fr g L _ _ => F_7
 rename News g L _ _ => N_7
 rename_i hx6 RL hx7 lx7
 have z2 := N_7 (L + 2, o2) (by k_mem)
 refine wpAny_storeName_cell (c := L + 2) rfl rfl rfl ⟨o2, z2.1, d2⟩ fun h_8 hc_8 hs_8 => ?_
 refine x1_2 (hc_8) fun o2' ho2 d2' => ?_
 try clear hc_8
 have F_8 := F_7.change hs_8 z2.2.1 z2.2.2
 obtain ⟨r1, r2, r3, r4, r5, r6, r7, r8, r9, r10, r11, r12⟩ := lx7
 have r1' : @LT.lt Nat _ TL RL := r1
 have r2' : @LT.lt Nat _ 161 RL := r2
 have r3' : @LT.lt Nat _ CD RL := r3
 have r6' : @LT.lt Nat _ NL RL := r6
 have r7' : @LT.lt Nat _ G RL := r7
 have r11' : @LT.lt Nat _ (L + 6) RL := r11
 have ntl : @Ne Nat (L + 2) TL /\ @Ne Nat 161 TL /\ @Ne Nat CD TL /\ @Ne Nat (L + 1) TL /\ @Ne Nat NL TL /\ @Ne Nat G TL /\ @Ne Nat (L + 3) TL /\ @Ne Nat (L + 4) TL /\ @Ne Nat (L + 5) TL /\ @Ne Nat (L + 6) TL :=
   ⟨HT3.out (L + 2, o2) (by k_mem), HT3.out (161, tabObj #[]) (by k_mem), HT3.out (CD, listOf wsd.toArray 0) (by k_mem), HT3.out (L + 1, o1') (by k_mem), HT3.out (NL, listOf nvs.toArray 0) (by k_mem), HT3.out (G, listOf (strValues gl).toArray 0) (by k_mem), HT3.out (L + 3, o3) (by k_mem), HT3.out (L + 4, o4) (by k_mem), HT3.out (L + 5, o5) (by k_mem), HT3.out (L + 6, o6) (by k_mem)⟩
 have nmd : ∀ r ∈ md, @Ne Nat (L + 2) r.1 /\ @Ne Nat 161 r.1 /\ @Ne Nat CD r.1 /\ @Ne Nat (L + 1) r.1 /\ @Ne Nat NL r.1 /\ @Ne Nat G r.1 /\ @Ne Nat (L + 3) r.1 /\ @Ne Nat (L + 4) r.1 /\ @Ne Nat (L + 5) r.1 /\ @Ne Nat (L + 6) r.1 /\ @Ne Nat TL r.1 /\ @LT.lt Nat _ r.1 RL := fun r hr => by
   refine x0_2 (HMD.out r hr) fun hm ht => ?_
   exact ⟨hm (L + 2, o2) (by k_mem), hm (161, tabObj #[]) (by k_mem), hm (CD, listOf wsd.toArray 0) (by k_mem), hm (L + 1, o1') (by k_mem), hm (NL, listOf nvs.toArray 0) (by k_mem), hm (G, listOf (strValues gl).toArray 0) (by k_mem), hm (L + 3, o3) (by k_mem), hm (L + 4, o4) (by k_mem), hm (L + 5, o5) (by k_mem), hm (L + 6, o6) (by k_mem), ht, ltAll_mem r12 r hr⟩
 have hCD : @LT.lt Nat _ (L + 6) CD := hord.1
 have hNL : @LT.lt Nat _ CD NL := hord.2.1
 have hGG : @LT.lt Nat _ NL G := hord.2.2
 have oS : SrtF 161 [L + 1, L + 2, L + 3, L + 4, L + 5, L + 6, CD, NL, G, RL] := ⟨lP1 h161, Nat.lt_succ_self _, Nat.lt_succ_self _, Nat.lt_succ_self _, Nat.lt_succ_self _, Nat.lt_succ_self _, hCD, hNL, hGG, r7'⟩
 have N_8 : News g L h_8 ((161, tabObj #[]) :: (CD, listOf wsd.toArray 0) :: (RL, listOf ([] : List Value).toArray 0) :: (L + 2, o2') :: (L + 1, o1') :: (NL, listOf nvs.toArray 0) :: (TL, listOf (List.toArray tvs) nt) :: (G, listOf (strValues gl).toArray 0) :: (L + 3, o3) :: (L + 4, o4) :: (L + 5, o5) :: (L + 6, o6) :: md) := by
   have key : ∀ q : Addr × Obj, @Ne Nat (L + 2) q.1 -> q ∈ (RL, listOf ([] : List Value).toArray 0) :: (TL, listOf (List.toArray tvs) nt) :: (161, tabObj #[]) :: (CD, listOf wsd.toArray 0) :: (L + 2, o2) :: (L + 1, o1') :: (NL, listOf nvs.toArray 0) :: (G, listOf (strValues gl).toArray 0) :: (L + 3, o3) :: (L + 4, o4) :: (L + 5, o5) :: (L + 6, o6) :: md -> h_8.get? q.1 = some q.2 /\ q.1 ≠ L /\ g.get? q.1 = none := fun q hn hq => ⟨hs_8.extBut _ _ (Ne.symm hn) (N_7 q hq).1, (N_7 q hq).2⟩
   exact alC (key (161, tabObj #[]) (by omega : @Ne Nat (L + 2) 161) (by k_mem)) (alC (key (CD, listOf wsd.toArray 0) (by omega : @Ne Nat (L + 2) CD) (by k_mem)) (alC (key (RL, listOf ([] : List Value).toArray 0) (by omega : @Ne Nat (L + 2) RL) (by k_mem)) (alC ⟨ho2, z2.2⟩ (alC (key (L + 1, o1') (by omega : @Ne Nat (L + 2) (L + 1)) (by k_mem)) (alC (key (NL, listOf nvs.toArray 0) (by omega : @Ne Nat (L + 2) NL) (by k_mem)) (alC (key (TL, listOf (List.toArray tvs) nt) ntl.1 (by k_mem)) (alC (key (G, listOf (strValues gl).toArray 0) (by omega : @Ne Nat (L + 2) G) (by k_mem)) (alC (key (L + 3, o3) (by omega : @Ne Nat (L + 2) (L + 3)) (by k_mem)) (alC (key (L + 4, o4) (by omega : @Ne Nat (L + 2) (L + 4)) (by k_mem)) (alC (key (L + 5, o5) (by omega : @Ne Nat (L + 2) (L + 5)) (by k_mem)) (alC (key (L + 6, o6) (by omega : @Ne Nat (L + 2) (L + 6)) (by k_mem)) (fun q hq => key q (nmd q hq).1 (by walk_at "mem")))))))))))))
 clear F_7 N_7 HMD HT3 r1 r2 r3 r4 r5 r6 r7 r8 r9 r10 r11 r12
 dsimp only
 refine x1_3 (⟨_, F_8, rfl, rfl⟩ : ∃ m9, Fr g L h_8 m9 /\ m9 "numbers" = some (.ref NL) /\ m9 "trees" = some (.ref TL)) fun m9 F_9 w1 w2 => ?_
 have F_10 := fr_know (x := "numbers") (fr_know (x := "trees") F_9 w2) w1
 exact HQ.out { s_2 with heap := h_8, toks := _ } m9 NL TL G RL CD _ o1' o2' nvs tvs gl nt md F_10 N_8 d1' d2' HI.out HG.out HOT.out (by omega : @Ne Nat 161 CD)
   (alC (by omega : @Ne Nat (L + 2) RL) (alC (by omega : @Ne Nat (L + 1) RL) (alC (by omega : @Ne Nat NL RL) (alC (Nat.ne_of_lt r1') (alC (by omega : @Ne Nat G RL) (alC (by omega : @Ne Nat (L + 3) RL) (alC (by omega : @Ne Nat (L + 4) RL) (alC (by omega : @Ne Nat (L + 5) RL) (alC (by omega : @Ne Nat (L + 6) RL) (fun q hq => Nat.ne_of_lt (nmd q hq).2.2.2.2.2.2.2.2.2.2.2))))))))))
   (alC (by omega : @Ne Nat RL 161 /\ @Ne Nat RL CD) (alC (by omega : @Ne Nat (L + 2) 161 /\ @Ne Nat (L + 2) CD) (alC (by omega : @Ne Nat (L + 1) 161 /\ @Ne Nat (L + 1) CD) (alC (by omega : @Ne Nat NL 161 /\ @Ne Nat NL CD) (alC ⟨Ne.symm ntl.2.1, Ne.symm ntl.2.2.1⟩ (alC (by omega : @Ne Nat G 161 /\ @Ne Nat G CD) (alC (by omega : @Ne Nat (L + 3) 161 /\ @Ne Nat (L + 3) CD) (alC (by omega : @Ne Nat (L + 4) 161 /\ @Ne Nat (L + 4) CD) (alC (by omega : @Ne Nat (L + 5) 161 /\ @Ne Nat (L + 5) CD) (alC (by omega : @Ne Nat (L + 6) 161 /\ @Ne Nat (L + 6) CD) (fun q hq => ⟨Ne.symm (nmd q hq).2.1, Ne.symm (nmd q hq).2.2.1⟩)))))))))))
   (alC (by omega : @Ne Nat RL (L + 3) /\ @Ne Nat RL (L + 4) /\ @Ne Nat RL (L + 5) /\ @Ne Nat RL (L + 6)) (alC (by omega : @Ne Nat NL (L + 3) /\ @Ne Nat NL (L + 4) /\ @Ne Nat NL (L + 5) /\ @Ne Nat NL (L + 6)) (alC ⟨Ne.symm ntl.2.2.2.2.2.2.1, Ne.symm ntl.2.2.2.2.2.2.2.1, Ne.symm ntl.2.2.2.2.2.2.2.2.1, Ne.symm ntl.2.2.2.2.2.2.2.2.2⟩ (alC (by omega : @Ne Nat G (L + 3) /\ @Ne Nat G (L + 4) /\ @Ne Nat G (L + 5) /\ @Ne Nat G (L + 6)) (fun q hq => ⟨Ne.symm (nmd q hq).2.2.2.2.2.2.1, Ne.symm (nmd q hq).2.2.2.2.2.2.2.1, Ne.symm (nmd q hq).2.2.2.2.2.2.2.2.1, Ne.symm (nmd q hq).2.2.2.2.2.2.2.2.2.1⟩))))) os_2 ba_2
end lw_headH
theorem lw_head {w g s L S0 fa cdx o1 o2 o3 o4 o5 o6 v1 v2 svs sns m Q} : lw_headH.Stm p loose mg mb w g s L S0 fa cdx o1 o2 o3 o4 o5 o6 v1 v2 svs sns m Q := pk_all (p := lw_headH.cx) (by with_unfolding_all exact lw_headH.main) (((((p, loose), mg), ((mb, w), g)), (((s, L), S0), ((fa, cdx), o1))), ((((o2, o3), o4), ((o5, o6), v1)), (((v2, svs), sns), (m, Q))))
end
end Mine
end
section
namespace Mine
noncomputable def rowsI (nums : List Int) (i : Nat) : List (List Int) := (List.range i).map fun j => asI (treeOf (nums.getD (3 * j) 0))
theorem rowsI_succ (nums : List Int) (i : Nat) : rowsI nums (i + 1) = rowsI nums i ++ [asI (treeOf (nums.getD (3 * i) 0))] := by
 unfold rowsI
 rw [List.range_succ, List.map_append]
 rfl
section
namespace lw_loopH
noncomputable def Stm (pC : Program) (looseC : List Str) (mgC mbC : Str -> Option Value) (w : World) (g : Heap) (s : Shared) (L RL NL TL G cd fa : Nat) (cdx : Value) (o1 o2 : Obj) (pst : Array Value) (nvs tvs : List Value) (nums : List Int) (gl : List (Str × Tok)) (fx : List (Addr × Obj)) (nr nn nt ng : Nat) (m : Str -> Option Value) (Q : Flow -> Shared -> Prop) : Prop := ∀ {oc : Obj} {name qual : Str} {params : Arguments} {body : List Stmt} {scope : Scope} {dV kV doc pm cdv ct ocl : Value} {an odd : Option Addr} {osl : Array (Option Value)} (TB : TopB pC looseC mgC mbC g) (T : TopRead pC looseC mgC mbC g) (X : (Mine.mk.heap_1 w.params).In g) (ho : (Mine.mk.heap_1 w.params).lookup 243 = some ⟨ocl, odd, .func (fnOf name qual params body scope dV kV doc pm an cdv ct), osl⟩) (F : Fr g L s.heap (fun y => if y = "numbers" then some (.ref NL) else if y = "trees" then some (.ref TL) else m y)) (N : News g L s.heap ([(161, tabObj pst), (cd, oc)] ++ ((RL, listOf ([] : List Value).toArray nr) :: fx))) (m2 : ((L + 2 : Nat), o2) ∈ fx) (m1 : ((L + 1 : Nat), o1) ∈ fx) (mN : ((NL : Addr), listOf nvs.toArray nn) ∈ fx) (mT : ((TL : Addr), listOf tvs.toArray nt) ∈ fx) (mG : ((G : Addr), listOf (strValues gl).toArray ng) ∈ fx) (d2 : o2.data = .cell (some (.ref RL))) (d1 : o1.data = .cell (some (.ref G))) (LS0 : LS lamPos lamQual pst cd oc) (hn : IntsAre nvs nums) (hnl : nums.length = 9) (hgl : gl.map (·.1) = gs10.map leavesT) (hOt : OnLed fx tvs (trees26.map asI)) (h1 : 161 ≠ cd) (hap : ∀ q ∈ fx, @Ne Nat q.1 RL) (hap2 : ∀ q ∈ (RL, listOf ([] : List Value).toArray nr) :: fx, @Ne Nat q.1 161 /\ @Ne Nat q.1 cd) (hQ : ∀ s' (m' : Str -> Option Value) rvs nr' (cd' : Nat) oc' pst' mdx, Fr g L s'.heap (fun y => if y = "numbers" then some (.ref NL) else if y = "trees" then some (.ref TL) else m' y) ->
     News g L s'.heap ([(161, tabObj pst'), (cd', oc')] ++ ((RL, listOf (List.toArray rvs) nr') :: (mdx ++ fx))) ->
     OnLed mdx rvs (rowsI nums 3) -> LS lamPos lamQual pst' cd' oc' -> 161 ≠ cd' -> (∀ q ∈ (RL, listOf (List.toArray rvs) nr') :: (mdx ++ fx), @Ne Nat q.1 161 /\ @Ne Nat q.1 cd') ->
     (∀ q ∈ mdx, ∀ r ∈ fx, @Ne Nat r.1 q.1) -> s'.os = s.os -> (AllBare s.gens -> AllBare s'.gens) -> wpAny (model Challenge.rw_kl0462_01.prog w) (lawA qual scope L fa cdx) (execs (body.drop 5) (envOfC qual scope L fa cdx)) Q NF s'), wpAny (model Challenge.rw_kl0462_01.prog w) (lawA qual scope L fa cdx) (execs (body.drop 4) (envOfC qual scope L fa cdx)) Q NF s
noncomputable def cx (v : ((((Program × (List Str)) × ((Str -> Option Value) × (Str -> Option Value))) × ((World × Heap) × (Shared × Nat))) × (((Nat × Nat) × (Nat × Nat)) × ((Nat × Nat) × Value))) × ((((Obj × Obj) × ((Array Value) × (List Value))) × ((List Value × (List Int)) × (List (Str × Tok)))) × ((((List (Addr × Obj)) × Nat) × (Nat × Nat)) × ((Nat × (Str -> Option Value)) × (Flow -> Shared -> Prop))))) : Prop := Stm v.1.1.1.1.1 v.1.1.1.1.2 v.1.1.1.2.1 v.1.1.1.2.2 v.1.1.2.1.1 v.1.1.2.1.2 v.1.1.2.2.1 v.1.1.2.2.2 v.1.2.1.1.1 v.1.2.1.1.2 v.1.2.1.2.1 v.1.2.1.2.2 v.1.2.2.1.1 v.1.2.2.1.2 v.1.2.2.2 v.2.1.1.1.1 v.2.1.1.1.2 v.2.1.1.2.1 v.2.1.1.2.2 v.2.1.2.1.1 v.2.1.2.1.2 v.2.1.2.2 v.2.2.1.1.1 v.2.2.1.1.2 v.2.2.1.2.1 v.2.2.1.2.2 v.2.2.2.1.1 v.2.2.2.1.2 v.2.2.2.2
noncomputable section
def tup := pk (by walk_at "ne") cx
@[irreducible]def pC:=tup.1.1.1.1.1
@[irreducible]def looseC:=tup.1.1.1.1.2
@[irreducible]def mgC:=tup.1.1.1.2.1
@[irreducible]def mbC:=tup.1.1.1.2.2
@[irreducible]def w:=tup.1.1.2.1.1
@[irreducible]def g:=tup.1.1.2.1.2
@[irreducible]def s:=tup.1.1.2.2.1
@[irreducible]def L:=tup.1.1.2.2.2
@[irreducible]def RL:=tup.1.2.1.1.1
@[irreducible]def NL:=tup.1.2.1.1.2
@[irreducible]def TL:=tup.1.2.1.2.1
@[irreducible]def G:=tup.1.2.1.2.2
@[irreducible]def cd:=tup.1.2.2.1.1
@[irreducible]def fa:=tup.1.2.2.1.2
@[irreducible]def cdx:=tup.1.2.2.2
@[irreducible]def o1:=tup.2.1.1.1.1
@[irreducible]def o2:=tup.2.1.1.1.2
@[irreducible]def pst:=tup.2.1.1.2.1
@[irreducible]def nvs:=tup.2.1.1.2.2
@[irreducible]def tvs:=tup.2.1.2.1.1
@[irreducible]def nums:=tup.2.1.2.1.2
@[irreducible]def gl:=tup.2.1.2.2
@[irreducible]def fx:=tup.2.2.1.1.1
@[irreducible]def nr:=tup.2.2.1.1.2
@[irreducible]def nn:=tup.2.2.1.2.1
@[irreducible]def nt:=tup.2.2.1.2.2
@[irreducible]def ng:=tup.2.2.2.1.1
@[irreducible]def m:=tup.2.2.2.1.2
@[irreducible]def Q:=tup.2.2.2.2
end
theorem main : Stm pC looseC mgC mbC w g s L RL NL TL G cd fa cdx o1 o2 pst nvs tvs nums gl fx nr nn nt ng m Q := by
 intro oc name qual params body scope dV kV doc pm cdv ct ocl an odd osl TB T X ho F N m2 m1 mN mT mG d2 d1 LS0 hn hnl hgl hOt h1 hap hap2 hQ
 have kS1 : KX := trivial
 have kSg : KG := trivial
 have kS2 : Key "eval ListComp" := trivial
 have kS3 : Key "exec Assign cons ListComp" := trivial
 have kS4 : Key "call type:range" := trivial
 have kS5 : KeyL "call builtin:len" := trivial
 have kS6 : Key "compareOp In int ref" := trivial
 have kS7 : Key "exec For Name Tuple cons nil" := trivial
 have kS8 : Key "exec For" := trivial
 have kS9 : Key "pyIter ref" := trivial
 have ho' := ho
 revert X ho
 k_fill
 intro X ho
 have e := ho.symm.trans (by k_is)
 refine x0_3 (fnE e) fun hcz0 hcz1 hcz2 => ?_
 cases hcz0
 cases hcz1
 cases hcz2
 clear e
 dsimp only [List.drop] at hQ ⊢
 have HQ := Hold.mk hQ
 have HT : Hold (OnLed fx tvs (trees26.map asI)) := ⟨hOt⟩
 have HG : Hold (gl.map (·.1) = gs10.map leavesT) := ⟨hgl⟩
 have HI : Hold (IntsAre nvs nums) := ⟨hn⟩
 have HL : Hold (LS lamPos lamQual pst cd oc) := ⟨LS0⟩
 have HO := Hold.mk ho'
 clear ho hOt hgl hn LS0 ho' hQ
 simp only [List.cons_append, List.nil_append] at N
 k_steps
 unfold Stop
 refine wpAny_For ?_
 k_steps
 unfold Stop
 rename Fr g L _ _ => F_1
 rename News g L _ _ => N_1
 rename_i TT hx lx
 refine x3_1 (⟨_, _, _, N_1⟩ : ∃ t0 t1 t2, News g L hx ((TT, { cls := .type "tuple", data := .seq #[.int 0 t0, .int 3 t1, .int 6 t2] }) :: (161, tabObj pst) :: (cd, oc) :: (RL, listOf ([] : List Value).toArray nr) :: fx)) fun t0 t1 t2 N_2 => ?_
 have ttv : hx.IsTuple TT #[.int 0 s.toks, .int 3 (s.toks + 1), .int 6 (s.toks + 1 + 1)] := ⟨_, (N_1 _ List.mem_cons_self).1, rfl, _, rfl⟩
 refine wpAny_pyIter_tuple ttv ?_
 have N_3 := News.push F_1 N_2 { cls := .type "tuple_iterator", data := .fields #[.ref TT, .int 0 0] } rfl
 have F_3 := F_1.push { cls := .type "tuple_iterator", data := .fields #[.ref TT, .int 0 0] }
 have lit : ∀ q ∈ (TT, { cls := .type "tuple", data := .seq #[.int 0 t0, .int 3 t1, .int 6 t2] }) :: (161, tabObj pst) :: (cd, oc) :: (RL, listOf ([] : List Value).toArray nr) :: fx, @LT.lt Nat _ q.1 hx.objs.size := fun q hq => Heap.lt_size (N_2 q hq).1
 have ltt : ∀ q ∈ (161, tabObj pst) :: (cd, oc) :: (RL, listOf ([] : List Value).toArray nr) :: fx, @LT.lt Nat _ q.1 TT := by
   exact alC lx.1 (alC lx.2.1 (alC lx.2.2.1 (ltAll_mem lx.2.2.2)))
 clear F_1 N_1 N_2 ttv
 dsimp only at N_3 F_3 ⊢
 generalize hx.push _ = hz at N_3 F_3 ⊢
 generalize hx.objs.size = it at N_3 lit ⊢
 refine forI 3 (fun i s' => ∀ Z : Prop, (∀ (m' : Str -> Option Value) (rvs : List Value) (nr' cd' : Nat) (oc' io : Obj) (pst' : Array Value) (mdx : List (Addr × Obj)), Fr g L s'.heap (fun y => if y = "numbers" then some (.ref NL) else if y = "trees" then some (.ref TL) else m' y) -> News g L s'.heap ((161, tabObj pst') :: (cd', oc') :: (RL, listOf rvs.toArray nr') :: (it, io) :: (TT, { cls := .type "tuple", data := .seq #[.int 0 t0, .int 3 t1, .int 6 t2] }) :: (mdx ++ fx)) -> s'.heap.IsTupleIter it TT i -> OnLed mdx rvs (rowsI nums i) -> LS lamPos lamQual pst' cd' oc' -> 161 ≠ cd' -> (∀ q ∈ (RL, listOf rvs.toArray nr') :: (it, io) :: (TT, { cls := .type "tuple", data := .seq #[.int 0 t0, .int 3 t1, .int 6 t2] }) :: (mdx ++ fx), @Ne Nat q.1 161 /\ @Ne Nat q.1 cd') -> (∀ q ∈ (it, io) :: (TT, { cls := .type "tuple", data := .seq #[.int 0 t0, .int 3 t1, .int 6 t2] }) :: (mdx ++ fx), @Ne Nat q.1 RL) -> (∀ q ∈ mdx, (∀ r ∈ fx, @Ne Nat r.1 q.1) /\ @Ne Nat q.1 it) -> s'.os = s.os -> (AllBare s.gens -> AllBare s'.gens) -> Z) -> Z) ?stp ?done 0 (Nat.zero_le _) _ ?ini
 case ini =>
   have ltl : @LT.lt Nat _ TT it := lit _ List.mem_cons_self
   have z1 : @LT.lt Nat _ 161 TT := ltt (161, tabObj pst) (by k_mem)
   have z2 : @LT.lt Nat _ cd TT := ltt (cd, oc) (by k_mem)
   have z3 : @LT.lt Nat _ RL TT := ltt (RL, listOf ([] : List Value).toArray nr) (by k_mem)
   exact fun Zq kq => kq m [] nr cd oc { cls := .type "tuple_iterator", data := .fields #[.ref TT, .int 0 0] } pst [] F_3 (pickN N_3 (by walk_at "sub")) ⟨_, (N_3 _ List.mem_cons_self).1, rfl, rfl⟩ trivial HL.out h1
     (alC (hap2 _ List.mem_cons_self) (alC ⟨Nat.ne_of_gt (Nat.lt_trans z1 ltl), Nat.ne_of_gt (Nat.lt_trans z2 ltl)⟩ (alC ⟨Nat.ne_of_gt z1, Nat.ne_of_gt z2⟩ fun q hq => hap2 q (List.mem_cons_of_mem _ hq))))
     (alC (Nat.ne_of_gt (Nat.lt_trans z3 ltl)) (alC (Nat.ne_of_gt z3) hap)) (fun q hq => nomatch hq) rfl id
 case stp =>
   intro i s_5 hi HIq
   refine HIq _ fun m' rvs nr' cd' oc' io pst' mdx F_4 N_4 hit hO LS_4 c1 ap2 ap1 apx os_4 ba_4 => ?_
   have zit := N_4 (it, io) (by k_mem)
   have ztt := N_4 (TT, { cls := .type "tuple", data := .seq #[.int 0 t0, .int 3 t1, .int 6 t2] }) (by k_mem)
   have hTT : s_5.heap.IsTuple TT #[.int 0 t0, .int 3 t1, .int 6 t2] := ⟨_, ztt.1, rfl, _, rfl⟩
   obtain ⟨tk, hxi⟩ : ∃ tk, (#[.int 0 t0, .int 3 t1, .int 6 t2] : Array Value)[i]? = some (.int ((3 * i : Nat) : Int) tk) := by
     rcases (by omega : i = 0 \/ i = 1 \/ i = 2) with rfl | rfl | rfl
     · exact ⟨t0, rfl⟩
     · exact ⟨t1, rfl⟩
     · exact ⟨t2, rfl⟩
   refine wpAny_pyNext_tuple_item hit hTT hxi fun h_6 hit_6 hs_6 => ⟨_, rfl, ?_⟩
   refine x1_3 (hit_6) fun io' hio' ci1 ci2 => ?_
   try clear hit_6
   have F_6 := F_4.change hs_6 zit.2.1 zit.2.2
   have it161 := ap2 (it, io) (by k_mem)
   have itRL := ap1 (it, io) (by k_mem)
   have ltl : @LT.lt Nat _ TT it := lit _ List.mem_cons_self
   have nit : ∀ q ∈ (161, tabObj pst') :: (cd', oc') :: (RL, listOf rvs.toArray nr') :: (TT, { cls := .type "tuple", data := .seq #[.int 0 t0, .int 3 t1, .int 6 t2] }) :: (mdx ++ fx), @Ne Nat q.1 it :=
     alC (Ne.symm it161.1) (alC (Ne.symm it161.2) (alC (Ne.symm itRL) (alC (Nat.ne_of_lt ltl) (alA (fun q hq => (apx q hq).2) fun q hq => Nat.ne_of_lt (lit q (by walk_at "mem"))))))
   have k6 := fun q hq (ne : @Ne Nat q.1 it) => (⟨hs_6.extBut _ _ ne (N_4 q hq).1, (N_4 q hq).2⟩ : h_6.get? q.1 = some q.2 /\ q.1 ≠ L /\ g.get? q.1 = none)
   have N_6 : News g L h_6 ((161, tabObj pst') :: (cd', oc') :: (RL, listOf rvs.toArray nr') :: (it, io') :: (TT, { cls := .type "tuple", data := .seq #[.int 0 t0, .int 3 t1, .int 6 t2] }) :: (mdx ++ fx)) :=
     alC (k6 _ (by k_mem) (nit _ (by k_mem))) (alC (k6 _ (by k_mem) (nit _ (by k_mem))) (alC (k6 _ (by k_mem) (nit _ (by k_mem))) (alC ⟨hio', zit.2⟩ (alC (k6 _ (by k_mem) (nit _ (by k_mem))) fun q hq => k6 q (by walk_at "mem") (nit q (by walk_at "mem"))))))
   refine wpAny_of_eq (rfl : letOwnedTupleGo (.Name _ _) _ _ = pure ()) ?_
   refine wpAny_assign_Name (wpAny_storeName_local rfl F_6.ns (fun h_7 hn_7 hs_7 => ?_) rfl)
   have F_7 := F_6.set hn_7 hs_7
   have N_7 : News g L h_7 ([(161, tabObj pst'), (cd', oc')] ++ ((RL, listOf rvs.toArray nr') :: (it, io') :: (TT, { cls := .type "tuple", data := .seq #[.int 0 t0, .int 3 t1, .int 6 t2] }) :: (mdx ++ fx))) := N_6.set hs_7
   refine x1_4 (⟨_, F_7, rfl, rfl, rfl⟩ : ∃ m9, Fr g L h_7 m9 /\ m9 "numbers" = some (.ref NL) /\ m9 "trees" = some (.ref TL) /\ m9 "k" = some (.int ((3 * i : Nat) : Int) tk)) fun m9 F_8 w1 w2 w3 => ?_
   have F_9 := fr_know (x := "numbers") (fr_know (x := "trees") (fr_know (x := "k") F_8 w3) w2) w1
   have hrl : rvs.length <= 10 := by
     have := hO.len
     simp [rowsI] at this
     omega
   refine lw_turn (p := pC) (loose := looseC) (mg := mgC) (mb := mbC) (k := 3 * i) (fx := (it, io') :: (TT, { cls := .type "tuple", data := .seq #[.int 0 t0, .int 3 t1, .int 6 t2] }) :: (mdx ++ fx)) TB T X HO.out F_9 N_7 (by walk_at "mem") (by walk_at "mem") (by walk_at "mem") (by walk_at "mem") (by walk_at "mem") d2 d1 LS_4 HI.out hnl (by omega) HG.out (OnLed.mono (by walk_at "tail") HT.out) (OnLed.mono (by walk_at "tail") hO) hrl c1
     (alC itRL fun q hq => ap1 q (List.mem_cons_of_mem _ hq)) (alC (ap2 _ List.mem_cons_self) (alC it161 fun q hq => ap2 q (List.mem_cons_of_mem _ (List.mem_cons_of_mem _ hq)))) fun s_10 m_10 D vs n nr_10 c_10 oc_10 F_10 N_10 hiv LS_10 c2 ap3 ap4 hDD os_10 ba_10 => ?_
   refine fun Zq kq => kq m_10 (rvs ++ [Value.ref D]) nr_10 c_10 oc_10 io' _ ((D, listOf (List.toArray vs) n) :: mdx) F_10 (pickN N_10 (by walk_at "sub")) ⟨io', (N_10 (it, io') (by k_mem)).1, ci1, ci2⟩ ?_ LS_10 c2 (alC (ap4 (RL, listOf rvs.toArray nr') (by k_mem)) (pickA ap4 (by walk_at "sub"))) (pickA ap3 (by walk_at "sub")) (alC ⟨fun r hr => hDD r (by walk_at "mem"), Ne.symm (hDD (it, io') (by k_mem))⟩ apx) (os_10.trans os_4) fun z => ba_10 (ba_4 z)
   rw [rowsI_succ]
   exact OnLed.app (OnLed.mono (fun q hq => List.mem_cons_of_mem _ hq) hO) ⟨⟨D, vs, n, rfl, List.mem_cons_self, hiv⟩, trivial⟩
 case done =>
   intro s_5 HIq
   refine HIq _ fun m' rvs nr' cd' oc' io pst' mdx F_4 N_4 hit hO LS_4 c1 ap2 ap1 apx os_4 ba_4 => ?_
   have zit := N_4 (it, io) (by k_mem)
   have ztt := N_4 (TT, { cls := .type "tuple", data := .seq #[.int 0 t0, .int 3 t1, .int 6 t2] }) (by k_mem)
   have hTT : s_5.heap.IsTuple TT #[.int 0 t0, .int 3 t1, .int 6 t2] := ⟨_, ztt.1, rfl, _, rfl⟩
   refine wpAny_pyNext_tuple_end rfl hit hTT rfl fun h_6 he => ⟨rfl, ?_⟩
   have F_5 : Fr g L h_6 _ := fr_at F_4 (fun o e => he _ _ (Ne.symm zit.2.1) e) fun b o e => he _ _ (fun z => by rw [z, zit.2.2] at e; cases e) (F_4.keep _ _ e)
   have it161 := ap2 (it, io) (by k_mem)
   have itRL := ap1 (it, io) (by k_mem)
   have nit : ∀ q ∈ (161, tabObj pst') :: (cd', oc') :: (RL, listOf rvs.toArray nr') :: (mdx ++ fx), @Ne Nat q.1 it :=
     alC (Ne.symm it161.1) (alC (Ne.symm it161.2) (alC (Ne.symm itRL) (alA (fun q hq => (apx q hq).2) fun q hq => Nat.ne_of_lt (lit q (by walk_at "mem")))))
   dsimp only
   exact HQ.out { s_5 with heap := h_6 } m' rvs nr' cd' oc' pst' mdx F_5 (fun q hq => ⟨he _ _ (nit q hq) (N_4 q ((by walk_at "sub" : ∀ q ∈ (161, tabObj pst') :: (cd', oc') :: (RL, listOf rvs.toArray nr') :: (mdx ++ fx), q ∈ _) q hq)).1, (N_4 q ((by walk_at "sub" : ∀ q ∈ (161, tabObj pst') :: (cd', oc') :: (RL, listOf rvs.toArray nr') :: (mdx ++ fx), q ∈ _) q hq)).2⟩) hO LS_4 c1 (pickA ap2 (by walk_at "sub")) (fun q hq => (apx q hq).1) os_4 ba_4
end lw_loopH
theorem lw_loop {w g s L RL NL TL G cd fa cdx o1 o2 pst nvs tvs nums gl fx nr nn nt ng m Q} : lw_loopH.Stm p loose mg mb w g s L RL NL TL G cd fa cdx o1 o2 pst nvs tvs nums gl fx nr nn nt ng m Q := pk_all (p := lw_loopH.cx) (by with_unfolding_all exact lw_loopH.main) (((((p, loose), (mg, mb)), ((w, g), (s, L))), (((RL, NL), (TL, G)), ((cd, fa), cdx))), ((((o1, o2), (pst, nvs)), ((tvs, nums), gl)), (((fx, nr), (nn, nt)), ((ng, m), Q))))
end
end Mine
end
section
namespace Mine
section
namespace lw_votesH
noncomputable def Stm (pC : Program) (looseC : List Str) (mgC mbC : Str -> Option Value) (w : World) (g : Heap) (s : Shared) (L RL fa : Nat) (cdx : Value) (o2 : Obj) (rvs : List Value) (rows : List (List Int)) (md : List (Addr × Obj)) (nr : Nat) (m : Str -> Option Value) (Q : Flow -> Shared -> Prop) : Prop := ∀ {name qual : Str} {params : Arguments} {body : List Stmt} {scope : Scope} {dV kV doc pm cdv ct oc : Value} {an odd : Option Addr} {osl : Array (Option Value)} (T : TopRead pC looseC mgC mbC g) (X : (Mine.mk.heap_1 w.params).In g) (ho : (Mine.mk.heap_1 w.params).lookup 243 = some ⟨oc, odd, .func (fnOf name qual params body scope dV kV doc pm an cdv ct), osl⟩) (F : Fr g L s.heap m) (N : News g L s.heap ((L + 2, o2) :: (RL, listOf rvs.toArray nr) :: md)) (d2 : o2.data = .cell (some (.ref RL))) (hO : OnLed md rvs rows) (hz : rows.length <= 10) (hz2 : ∀ r ∈ rows, r.length <= 64) (hQ : ∀ s' (D : Nat) vs n, Fr g L s'.heap (fun y => if y = "votes" then some (.ref D) else m y) -> News g L s'.heap ((D, listOf (List.toArray vs) n) :: md) -> (∀ q ∈ md, @Ne Nat q.1 D) -> IntsAre vs ((List.range' 0 10).map fun (k : Nat) => ((cntK rows (k : Int) : Nat) : Int)) -> s'.os = s.os -> (AllBare s.gens -> AllBare s'.gens) ->
    wpAny (model Challenge.rw_kl0462_01.prog w) (lawA qual scope L fa cdx) (execs (body.drop 12) (envOfC qual scope L fa cdx)) Q NF s'), wpAny (model Challenge.rw_kl0462_01.prog w) (lawA qual scope L fa cdx) (execs (body.drop 11) (envOfC qual scope L fa cdx)) Q NF s
noncomputable def cx (v : ((((Program × (List Str)) × (Str -> Option Value)) × ((Str -> Option Value) × World)) × ((Heap × Shared) × (Nat × Nat))) × ((((Nat × Value) × Obj) × (List Value × (List (List Int)))) × (((List (Addr × Obj)) × Nat) × ((Str -> Option Value) × (Flow -> Shared -> Prop))))) : Prop := Stm v.1.1.1.1.1 v.1.1.1.1.2 v.1.1.1.2 v.1.1.2.1 v.1.1.2.2 v.1.2.1.1 v.1.2.1.2 v.1.2.2.1 v.1.2.2.2 v.2.1.1.1.1 v.2.1.1.1.2 v.2.1.1.2 v.2.1.2.1 v.2.1.2.2 v.2.2.1.1 v.2.2.1.2 v.2.2.2.1 v.2.2.2.2
noncomputable section
def tup := pk (by walk_at "ne") cx
@[irreducible]def pC:=tup.1.1.1.1.1
@[irreducible]def looseC:=tup.1.1.1.1.2
@[irreducible]def mgC:=tup.1.1.1.2
@[irreducible]def mbC:=tup.1.1.2.1
@[irreducible]def w:=tup.1.1.2.2
@[irreducible]def g:=tup.1.2.1.1
@[irreducible]def s:=tup.1.2.1.2
@[irreducible]def L:=tup.1.2.2.1
@[irreducible]def RL:=tup.1.2.2.2
@[irreducible]def fa:=tup.2.1.1.1.1
@[irreducible]def cdx:=tup.2.1.1.1.2
@[irreducible]def o2:=tup.2.1.1.2
@[irreducible]def rvs:=tup.2.1.2.1
@[irreducible]def rows:=tup.2.1.2.2
@[irreducible]def md:=tup.2.2.1.1
@[irreducible]def nr:=tup.2.2.1.2
@[irreducible]def m:=tup.2.2.2.1
@[irreducible]def Q:=tup.2.2.2.2
end
theorem main : Stm pC looseC mgC mbC w g s L RL fa cdx o2 rvs rows md nr m Q := by
 intro name qual params body scope dV kV doc pm cdv ct oc an odd osl T X ho F N d2 hO hz hz2 hQ
 have kS1 : KX := trivial
 have kSg : KG := trivial
 have kS2 : Key "eval ListComp" := trivial
 have kS3 : Key "exec Assign cons ListComp" := trivial
 have kS4 : Key "call type:range" := trivial
 have kS5 : KeyL "call builtin:len" := trivial
 have kS6 : Key "compareOp In int ref" := trivial
 revert X ho
 k_fill
 intro X ho
 have e := ho.symm.trans (by k_is)
 refine x0_3 (fnE e) fun hcz0 hcz1 hcz2 => ?_
 cases hcz0
 cases hcz1
 cases hcz2
 clear e
 dsimp only [List.drop] at hQ ⊢
 have HO : Hold (OnLed md rvs rows) := ⟨hO⟩
 clear ho hO
 k_steps
 unfold Stop
 refine asg_compC (h₀ := g) (by with_unfolding_all rfl) rfl rfl (by decide) rfl (fun _ => rfl) (fun _ => rfl) rfl rfl (fun _ => true) (fun v y => ∃ k t u, v = .int k t /\ y = .int ((cntK rows k : Nat) : Int) u) ?_
 k_steps
 unfold Stop
 rename Fr g L _ _ => F_2
 rename News g L _ _ => N_2
 refine range_iter1 F_2 N_2 (by decide) (by decide) fun it h_2 tk F_3 N_3 l3 hL hit => ?_
 refine i4_3 _ _ _ _ (src_range (n := 10) rfl F_3 N_3 l3 hL hit (by decide)) ⟨fun C i v s_3 m_3 E' ox hv F_4 N_4 hox => ?_, fun C i v s_3 m_3 E' ox hv hp F_4 N_4 hox => ?_⟩ (fun D h' tk' ys nD vs F_5 N_5 neD hlen hP hF => ?_)
 · exact wpAny_pure ⟨rfl, ⟨_, _, rfl, fun _ _ e => e⟩⟩
 · refine x1_1 (hv) fun t hcz1 => ?_
   try clear hv
   cases hcz1
   clear F_2 N_2 F_3 N_3
   have Nm : News g C s_3.heap md := fun q hq => N_4 q (List.mem_cons_of_mem _ (List.mem_cons_of_mem _ (List.mem_cons_of_mem _ hq)))
   have hI := OnLed.ints Nm HO.out
   have HN : Hold (News g C s_3.heap md) := ⟨Nm⟩
   clear Nm
   generalize hk : (0 + (i : Int) * 1) = kk at hox ⊢
   refine wpAny_mono (Q := fun y s_4 => Hold ((∃ u, y = .int ((cntK rows kk : Nat) : Int) u) /\ Keeps s_3 s_4)) ?_ (fun y s_4 h => ⟨let ⟨u, e⟩ := h.out.1; ⟨kk, t, u, rfl, e⟩, h.out.2⟩) fun _ _ z => z
   k_steps
   unfold Stop
   refine evl_compK (h₀ := g) rfl (by decide) rfl (by decide) rfl (fun v => decide (kk ∈ intsAt s_3.heap v)) (fun v y => y = v) ?_
   k_steps
   refine iter_listK rfl F_4 N_4 (News.isList N_4 (by k_mem)) (by have := HO.out.len; simp [sizeLine_eq]; omega) fun itv h_7 S fr_0 k_0 => ?_
   refine i5_5 _ _ _ _ _ S fr_0 k_0 ⟨fun C_2 i_2 v s_5 m_5 E' hv_5 F_5 N_5 hm => ?_, fun C_2 i_2 v s_5 m_5 E' hv_5 hp_5 F_5 N_5 hm => ?_⟩ (fun A_1 h' tk' ys nA vs' F_8 N_8 neA hlen hP' hF K_8 => ?_)
   · have hvm : v ∈ rvs := List.mem_of_getElem? (by simpa using hv_5)
     refine x4_4 (OnLed.at HO.out v hvm) fun a ws n l hcz4 h1 h2 h3 => ?_
     cases hcz4
     have e1 := intsAt_of (HN.out _ h1).1 h2
     rw [e1]
     refine tests_one (wpAny_mono (Q := fun ok s_4 => Hold (ok = decide (kk ∈ l) /\ Keeps s_5 s_4)) ?_ (fun _ _ z => z.out) fun _ _ z => z)
     have F_6 := fr_know F_5 hm
     have za := News.isList (items := ws.toArray) (n := n) (d := none) (sl := #[]) N_5 (List.mem_cons_of_mem _ (List.mem_cons_of_mem _ (List.mem_cons_of_mem _ h1)))
     k_steps
     unfold Stop
     refine in_list_ints za h2 ?_
     k_steps
     exact ⟨⟨ints_in.symm, ⟨_, _, rfl, fun _ _ e => e⟩⟩⟩
   · exact loc_X F_5 hm ⟨rfl, ⟨_, _, rfl, fun _ _ e => e⟩⟩ rfl rfl rfl (by decide)
   · dsimp only
     replace F_8 := (show Fr g C h' _ from F_8)
     replace N_8 := (show News g C h' _ from N_8)
     have hvs := vs_list (by simpa using hlen) hP'
     have hys := paired_eq (fun _ _ e => e) hF
     rw [hvs] at hys
     refine x1_1 (⟨ys.toList, by simp⟩ : ∃ l : List Value, ys = l.toArray) fun ysl hcz1 => ?_
     cases hcz1
     have hyn : ysl.length = cntK rows kk := by
       have e0 : ysl = rvs.filter fun v => decide (kk ∈ intsAt s_3.heap v) := by simpa using hys
       rw [e0]; exact filter_ints hI kk
     have hcn : cntK rows kk <= 10 := Nat.le_trans (List.length_filter_le _ _) hz
     have hlA : Hold (h'.IsList A_1 ysl.toArray) := ⟨News.isList N_8 (n := nA) (d := none) (sl := #[]) List.mem_cons_self⟩
     have K_9 : Hold (∀ b o, s_3.heap.get? b = some o -> h'.get? b = some o) := ⟨K_8⟩
     clear hys hvs hlen hP' hF K_8 S fr_0 k_0 F_4 N_4
     refine (?_ : wpAny _ _ _ _ _ _)
     k_steps
     unfold Stop
     refine PyProof.Rows.len_list hlA.out (by simp; omega) ?_
     rw [show (ysl.toArray.size : Int) = (cntK rows kk : Nat) by simp [hyn]]
     exact ⟨⟨⟨_, rfl⟩, ⟨_, _, rfl, K_9.out⟩⟩⟩
 · dsimp only
   refine (?_ : wpAny _ _ _ _ _ _)
   replace F_5 := (show Fr g L h' _ from F_5)
   replace N_5 := (show News g L h' _ from N_5)
   refine hQ { s with heap := h', toks := tk' } D ys.toList nD F_5 (fun q hq => N_5 q ?_) (fun q hq => neD q (List.mem_cons_of_mem _ (List.mem_cons_of_mem _ hq))) ?_ rfl id
   · rcases List.mem_cons.mp hq with rfl | hq
     · simp
     · exact List.mem_cons_of_mem _ (List.mem_cons_of_mem _ (List.mem_cons_of_mem _ hq))
   · exact range_ints (fun k => ((cntK rows k : Nat) : Int)) hlen hP (by rw [List.filter_eq_self.mpr (fun _ _ => rfl)] at hF; exact hF)
end lw_votesH
theorem lw_votes {w g s L RL fa cdx o2 rvs rows md nr m Q} : lw_votesH.Stm p loose mg mb w g s L RL fa cdx o2 rvs rows md nr m Q := pk_all (p := lw_votesH.cx) (by with_unfolding_all exact lw_votesH.main) (((((p, loose), mg), (mb, w)), ((g, s), (L, RL))), ((((fa, cdx), o2), (rvs, rows)), ((md, nr), (m, Q))))
end
end Mine
end
section
namespace Mine
theorem mostN_mem (nums : List Int) : mostN (rowsI nums 3) ∈ trees26 := by
 have e : rowsI nums 3 = [asI (treeOf (nums.getD 0 0)), asI (treeOf (nums.getD 3 0)), asI (treeOf (nums.getD 6 0))] := rfl
 rw [e]
 exact most_tree (treeOf_mem _).1 (treeOf_mem _).1 (treeOf_mem _).1
theorem rows_small (nums : List Int) : (rowsI nums 3).length <= 10 /\ ∀ r ∈ rowsI nums 3, r.length <= 64 := by
 refine ⟨by simp [rowsI], fun r hr => ?_⟩
 obtain ⟨j, _, (rfl)⟩ := List.mem_map.mp hr
 have hsT := List.all_eq_true.mp trees_sorted _ (treeOf_mem (nums.getD (3 * j) 0)).1
 simp only [Bool.and_eq_true, decide_eq_true_eq, List.all_eq_true] at hsT
 have := hsT.1.2
 unfold asI
 rw [List.length_map]
 omega
theorem trees_small : (trees26.map asI).length <= 100 /\ 0 < (trees26.map asI).length /\ ∀ l ∈ trees26.map asI, l.length <= 64 /\ ∀ k ∈ l, 0 <= k /\ k < 10 := by decide +kernel
theorem execs_at {M : Model} {A : Around} {body : List Stmt} {k : Nat} {env : Env} {Q : Flow -> Shared -> Prop} {s : Shared} (hk : k < body.length)
   (h : wpAny M A (execAt body k env) (fun f s' => match f with | .next => wpAny M A (execs (body.drop (k + 1)) env) Q NF s' | f => Q f s') NF s) : wpAny M A (execs (body.drop k) env) Q NF s := by
 unfold execAt at h
 rw [List.drop_eq_getElem_cons hk] at h ⊢
 exact wpAny_execs_cons h
theorem law_len {w : World} {g : Heap} {name qual : Str} {params : Arguments} {body : List Stmt} {scope : Scope} {dV kV doc pm cdv ct ocl : Value} {an odd : Option Addr} {osl : Array (Option Value)} (M : Model) (hM : M = model Challenge.rw_kl0462_01.prog w)
  (X : (Mine.mk.heap_1 w.params).In g) (ho : (Mine.mk.heap_1 w.params).lookup 243 = some ⟨ocl, odd, .func (fnOf name qual params body scope dV kV doc pm an cdv ct), osl⟩) : 6 < body.length := by
 revert hM X ho
 k_fill
 intro hM X ho
 have e := ho.symm.trans (by k_is)
 refine x0_3 (fnE e) fun hcz0 hcz1 hcz2 => ?_
 cases hcz0
 cases hcz1
 cases hcz2
 clear e
 exact Nat.le_of_ble_eq_true rfl
theorem lw_body {w : World} {g : Heap} {s : Shared} {L S0 fa : Nat} {cdx : Value} {o1 o2 o3 o4 o5 o6 : Obj} {v1 v2 v3 v4 v5 v6 : Option Value} {svs : List Value} {sns : List Int} {m : Str -> Option Value} {Q : Flow -> Shared -> Prop}
  {name qual : Str} {params : Arguments} {body : List Stmt} {scope : Scope} {dV kV doc pm cdv ct ocl : Value} {an odd : Option Addr} {osl : Array (Option Value)}
  (TB : TopB p loose mg mb g) (T : TopRead p loose mg mb g) (X : (Mine.mk.heap_1 w.params).In g)
  (ho : (Mine.mk.heap_1 w.params).lookup 243 = some ⟨ocl, odd, .func (fnOf name qual params body scope dV kV doc pm an cdv ct), osl⟩)
  (F : Fr g L s.heap (fun y => if y = "script" then some (.ref S0) else m y)) (N : News g L s.heap [(L + 6, o6), (L + 5, o5), (L + 4, o4), (L + 3, o3), (L + 2, o2), (L + 1, o1), (161, tabObj #[])])
  (d1 : o1.data = .cell v1) (d2 : o2.data = .cell v2) (d3 : o3.data = .cell v3) (d4 : o4.data = .cell v4) (d5 : o5.data = .cell v5) (d6 : o6.data = .cell v6) (hS0 : g.IsList S0 svs.toArray) (hi : IntsAre svs sns) (hsz : sns.length <= 63) (h161 : @LT.lt Nat _ 161 L)
  (hQ : ∀ s' pst (cd : Nat) oc, (∀ b o, g.get? b = some o -> s'.heap.get? b = some o) -> s'.heap.get? 161 = some (tabObj pst) -> s'.heap.get? cd = some oc -> LS lamPos lamQual pst cd oc -> s'.os = s.os -> (AllBare s.gens -> AllBare s'.gens) -> Q (.ret (.bool true)) s') :
  wpAny (model Challenge.rw_kl0462_01.prog w) (lawA qual scope L fa cdx) (execs body (envOfC qual scope L fa cdx)) Q NF s := by
 refine lw_head (p := p) (loose := loose) (mg := mg) (mb := mb) T X ho F N d1 d2 hS0 hi hsz h161 fun s1 m1 NL TL G RL CD ocd o1' o2' nvs tvs gl nt md F1 N1 d1' d2' hn hgl hOt hcd hap hap2 hcl os1 ba1 => ?_
 refine x1_1 (⟨_, rfl⟩ : ∃ nums, sns.take 9 ++ ([20, 0, 6, 13, 1, 8, 21, 2, 0] : List Int).drop sns.length = nums) fun nums hnums => ?_
 rw [hnums] at hn
 have hnl : nums.length = 9 := by
   rw [<- hnums]
   simp
   omega
 refine lw_loop (p := p) (loose := loose) (mg := mg) (mb := mb) (fx := (L + 2, o2') :: (L + 1, o1') :: (NL, listOf (List.toArray nvs) 0) :: (TL, listOf (List.toArray tvs) nt) :: (G, listOf (strValues gl).toArray 0) :: (L + 3, o3) :: (L + 4, o4) :: (L + 5, o5) :: (L + 6, o6) :: md) TB T X ho F1 N1 (by k_mem) (by k_mem) (by k_mem) (by k_mem) (by k_mem) d2' d1' (.inl rfl) hn hnl hgl (OnLed.mono (by walk_at "tail") hOt) hcd hap hap2 fun s2 m2 rvs nr cd oc pst mdx F2 N2 hOr LS2 hcd2 ap2 apx os2 ba2 => ?_
 refine x1_1 (⟨_, rfl⟩ : ∃ rows, rowsI nums 3 = rows) fun rows hrows => ?_
 refine x0_2 (rows_small nums) fun hr1 hr2 => ?_
 have hmN := mostN_mem nums
 rw [hrows] at hOr hr1 hr2 hmN
 refine x1_1 (⟨_, rfl⟩ : ∃ B, (RL, listOf (List.toArray rvs) nr) :: (L + 2, o2') :: (L + 1, o1') :: (NL, listOf (List.toArray nvs) 0) :: (TL, listOf (List.toArray tvs) nt) :: (G, listOf (strValues gl).toArray 0) :: (mdx ++ md) = B) fun B hB => ?_
 have NB : News g L s2.heap ((161, tabObj pst) :: (cd, oc) :: (L + 3, o3) :: (L + 4, o4) :: (L + 5, o5) :: (L + 6, o6) :: B) := by rw [<- hB]; exact pickN N2 (by walk_at "sub")
 have bR : ((RL : Addr), listOf (List.toArray rvs) nr) ∈ B := by rw [<- hB]; k_mem
 have b2 : ((L + 2 : Nat), o2') ∈ B := by rw [<- hB]; k_mem
 have b1 : ((L + 1 : Nat), o1') ∈ B := by rw [<- hB]; k_mem
 have bN : ((NL : Addr), listOf (List.toArray nvs) 0) ∈ B := by rw [<- hB]; k_mem
 have bT : ((TL : Addr), listOf (List.toArray tvs) nt) ∈ B := by rw [<- hB]; k_mem
 have bG : ((G : Addr), listOf (strValues gl).toArray 0) ∈ B := by rw [<- hB]; k_mem
 have bO : OnLed B rvs rows := by rw [<- hB]; exact OnLed.mono (by walk_at "tail") hOr
 have bOt : OnLed B tvs (trees26.map asI) := by rw [<- hB]; exact OnLed.mono (by walk_at "tail") hOt
 have bc : ∀ q ∈ B, @Ne Nat q.1 (L + 3) /\ @Ne Nat q.1 (L + 4) /\ @Ne Nat q.1 (L + 5) /\ @Ne Nat q.1 (L + 6) := by
   rw [<- hB]
   exact alC (hcl (RL, listOf ([] : List Value).toArray 0) (by walk_at "mem")) (alC (by omega : @Ne Nat (L + 2) (L + 3) /\ @Ne Nat (L + 2) (L + 4) /\ @Ne Nat (L + 2) (L + 5) /\ @Ne Nat (L + 2) (L + 6)) (alC (by omega : @Ne Nat (L + 1) (L + 3) /\ @Ne Nat (L + 1) (L + 4) /\ @Ne Nat (L + 1) (L + 5) /\ @Ne Nat (L + 1) (L + 6)) (alC (hcl (NL, listOf (List.toArray nvs) 0) (by walk_at "mem")) (alC (hcl (TL, listOf (List.toArray tvs) nt) (by walk_at "mem")) (alC (hcl (G, listOf (strValues gl).toArray 0) (by walk_at "mem")) (alA (fun q hq => ⟨Ne.symm (apx q hq (L + 3, o3) (by k_mem)), Ne.symm (apx q hq (L + 4, o4) (by k_mem)), Ne.symm (apx q hq (L + 5, o5) (by k_mem)), Ne.symm (apx q hq (L + 6, o6) (by k_mem))⟩) fun q hq => hcl q (by walk_at "mem")))))))
 have b161 : ∀ q ∈ (L + 3, o3) :: (L + 4, o4) :: (L + 5, o5) :: (L + 6, o6) :: B, @Ne Nat q.1 161 /\ @Ne Nat q.1 cd := by rw [<- hB]; exact pickA ap2 (by walk_at "sub")
 clear hB N2 hOr hOt ap2 apx hcl N1
 refine lw_most (p := p) (loose := loose) (mg := mg) (mb := mb) (RL := RL) (rvs := rvs) (nr := nr) (rows := rows) (md := (161, tabObj pst) :: (cd, oc) :: (L + 3, o3) :: (L + 4, o4) :: (L + 5, o5) :: (L + 6, o6) :: B) T X ho F2 (pickN NB (by walk_at "sub")) d2' (OnLed.mono (by walk_at "tail") bO) hr1 hr2 fun s3 ML mvs nm F3 N3 neM hmi os3 ba3 => ?_
 refine x1_4 (⟨_, F3, rfl, rfl, rfl⟩ : ∃ m3, Fr g L s3.heap m3 /\ m3 "numbers" = some (.ref NL) /\ m3 "trees" = some (.ref TL) /\ m3 "most" = some (.ref ML)) fun m3 F3' w1 w2 w3 => ?_
 have F3'' := fr_know (x := "numbers") (fr_know (x := "trees") (fr_know (x := "most") F3' w3) w2) w1
 refine execs_at (law_len _ rfl X ho) ?_
 have hmi2 : IntsAre mvs (asI (mostN rows)) := by rw [<- mostP_is]; exact hmi
 refine lw_check (p := p) (loose := loose) (mg := mg) (mb := mb) (nn := 0) (nt := nt) (ng := 0) (nm := nm) (fx := (ML, listOf (List.toArray mvs) nm) :: (L + 3, o3) :: (L + 4, o4) :: (L + 5, o5) :: (L + 6, o6) :: B) TB T X ho F3'' (pickN N3 (by walk_at "sub")) (by walk_at "mem") (by walk_at "mem") (by walk_at "mem") (by walk_at "mem") (by walk_at "mem") d1' LS2 hn hnl hgl (OnLed.mono (by walk_at "tail") bOt) hmi2 hmN hcd2
   (alC ⟨Ne.symm (neM (161, tabObj pst) (by walk_at "mem")), Ne.symm (neM (cd, oc) (by walk_at "mem"))⟩ b161) fun s4 c' oc' F4 N4 LS4 c4 ap4 os4 ba4 => ?_
 have cn : ∀ q ∈ (161, tabObj (lamTab lamPos c')) :: (c', oc') :: (ML, listOf (List.toArray mvs) nm) :: B, @Ne Nat q.1 (L + 3) /\ @Ne Nat q.1 (L + 4) /\ @Ne Nat q.1 (L + 5) /\ @Ne Nat q.1 (L + 6) :=
   alC ⟨Ne.symm (b161 (L + 3, o3) (by walk_at "mem")).1, Ne.symm (b161 (L + 4, o4) (by walk_at "mem")).1, Ne.symm (b161 (L + 5, o5) (by walk_at "mem")).1, Ne.symm (b161 (L + 6, o6) (by walk_at "mem")).1⟩ (alC ⟨Ne.symm (ap4 (L + 3, o3) (by walk_at "mem")).2, Ne.symm (ap4 (L + 4, o4) (by walk_at "mem")).2, Ne.symm (ap4 (L + 5, o5) (by walk_at "mem")).2, Ne.symm (ap4 (L + 6, o6) (by walk_at "mem")).2⟩ (alC ⟨Ne.symm (neM (L + 3, o3) (by walk_at "mem")), Ne.symm (neM (L + 4, o4) (by walk_at "mem")), Ne.symm (neM (L + 5, o5) (by walk_at "mem")), Ne.symm (neM (L + 6, o6) (by walk_at "mem"))⟩ bc))
 show wpAny _ _ (execs (body.drop 7) _) _ _ _
 refine lw_words (p := p) (loose := loose) (mg := mg) (mb := mb) (RL := RL) (rvs := rvs) (nr := nr) (rows := rows) (o2 := o2') (o3 := o3) (md := (161, tabObj (lamTab lamPos c')) :: (c', oc') :: (ML, listOf (List.toArray mvs) nm) :: (L + 4, o4) :: (L + 5, o5) :: (L + 6, o6) :: B) T X ho F4 (pickN N4 (by walk_at "sub")) d3 d2' (OnLed.mono (by walk_at "tail") bO) hr1 hr2
   (alC (bc _ bR).1 (alC (cn (161, tabObj (lamTab lamPos c')) (by walk_at "mem")).1 (alC (cn (c', oc') (by walk_at "mem")).1 (alC (cn (ML, listOf (List.toArray mvs) nm) (by walk_at "mem")).1 (alC (by omega : @Ne Nat (L + 4) (L + 3)) (alC (by omega : @Ne Nat (L + 5) (L + 3)) (alC (by omega : @Ne Nat (L + 6) (L + 3)) (fun q hq => (bc q hq).1)))))))) fun s5 WL wl nw o3' F5 N5 neW d3' hwl os5 ba5 => ?_
 refine lw_without (p := p) (loose := loose) (mg := mg) (mb := mb) (WL := WL) (wl := wl) (nr := nw) (rows := rows) (o3 := o3') (o4 := o4) (md := (161, tabObj (lamTab lamPos c')) :: (c', oc') :: (ML, listOf (List.toArray mvs) nm) :: (L + 5, o5) :: (L + 6, o6) :: B) T X ho F5 (pickN N5 (by walk_at "sub")) d4 d3' hwl hr1
   (alC (by omega : @Ne Nat (L + 3) (L + 4)) (alC (Ne.symm (neW (L + 4, o4) (by walk_at "mem"))) (alC (cn (161, tabObj (lamTab lamPos c')) (by walk_at "mem")).2.1 (alC (cn (c', oc') (by walk_at "mem")).2.1 (alC (cn (ML, listOf (List.toArray mvs) nm) (by walk_at "mem")).2.1 (alC (by omega : @Ne Nat (L + 5) (L + 4)) (alC (by omega : @Ne Nat (L + 6) (L + 4)) (fun q hq => (bc q hq).2.1)))))))) fun s6 WO wvs no o4' F6 N6 neO d4' hwo os6 ba6 => ?_
 refine lw_having (p := p) (loose := loose) (mg := mg) (mb := mb) (WL := WL) (wl := wl) (nr := nw) (rows := rows) (o3 := o3') (o4 := o5) (md := (L + 4, o4') :: (WO, listOf (List.toArray wvs) no) :: (161, tabObj (lamTab lamPos c')) :: (c', oc') :: (ML, listOf (List.toArray mvs) nm) :: (L + 6, o6) :: B) T X ho F6 (pickN N6 (by walk_at "sub")) d5 d3' hwl hr1
   (alC (by omega : @Ne Nat (L + 3) (L + 5)) (alC (Ne.symm (neW (L + 5, o5) (by walk_at "mem"))) (alC (by omega : @Ne Nat (L + 4) (L + 5)) (alC (Ne.symm (neO (L + 5, o5) (by walk_at "mem"))) (alC (cn (161, tabObj (lamTab lamPos c')) (by walk_at "mem")).2.2.1 (alC (cn (c', oc') (by walk_at "mem")).2.2.1 (alC (cn (ML, listOf (List.toArray mvs) nm) (by walk_at "mem")).2.2.1 (alC (by omega : @Ne Nat (L + 6) (L + 5)) (fun q hq => (bc q hq).2.2.1))))))))) fun s7 HA hvs nh o5' F7 N7 neH d5' hha os7 ba7 => ?_
 refine x1_3 (⟨_, F7, rfl, rfl⟩ : ∃ m7, Fr g L s7.heap m7 /\ m7 "trees" = some (.ref TL) /\ m7 "most" = some (.ref ML)) fun m7 F7' x1 x2 => ?_
 have F7'' := fr_know (x := "trees") (fr_know (x := "most") F7' x2) x1
 refine x0_3 (trees_small) fun ts1 ts2 ts3 => ?_
 try clear trees_small
 refine lw_far (p := p) (loose := loose) (mg := mg) (mb := mb) (HA := HA) (WO := WO) (TL := TL) (hvs := hvs) (wvs := wvs) (tvs := tvs) (nh := nh) (nw := no) (nt := nt) (o4 := o4') (o5 := o5') (o6 := o6) (trees := trees26.map asI) (md := (L + 3, o3') :: (WL, listOf (List.toArray (strValues wl)) nw) :: (161, tabObj (lamTab lamPos c')) :: (c', oc') :: (ML, listOf (List.toArray mvs) nm) :: B) T X ho F7'' (pickN N7 (by walk_at "sub")) d6 d5' d4' hha hwo (by simp) (by simp) (OnLed.mono (by walk_at "tail") bOt) ts1 ts3
   (alC (by omega : @Ne Nat (L + 5) (L + 6)) (alC (by omega : @Ne Nat (L + 4) (L + 6)) (alC (Ne.symm (neH (L + 6, o6) (by walk_at "mem"))) (alC (Ne.symm (neO (L + 6, o6) (by walk_at "mem"))) (alC (bc _ bT).2.2.2 (alC (by omega : @Ne Nat (L + 3) (L + 6)) (alC (Ne.symm (neW (L + 6, o6) (by walk_at "mem"))) (alC (cn (161, tabObj (lamTab lamPos c')) (by walk_at "mem")).2.2.2 (alC (cn (c', oc') (by walk_at "mem")).2.2.2 (alC (cn (ML, listOf (List.toArray mvs) nm) (by walk_at "mem")).2.2.2 (fun q hq => (bc q hq).2.2.2))))))))))) fun s8 FA fvs nf o6' F8 N8 neF d6' hfa os8 ba8 => ?_
 refine lw_votes (p := p) (loose := loose) (mg := mg) (mb := mb) (RL := RL) (rvs := rvs) (nr := nr) (rows := rows) (o2 := o2') (md := (L + 6, o6') :: (FA, listOf (List.toArray fvs) nf) :: (TL, listOf (List.toArray tvs) nt) :: (161, tabObj (lamTab lamPos c')) :: (c', oc') :: (ML, listOf (List.toArray mvs) nm) :: B) T X ho F8 (pickN N8 (by walk_at "sub")) d2' (OnLed.mono (by walk_at "tail") bO) hr1 hr2 fun s9 VO vvs nv F9 N9 neV hvo os9 ba9 => ?_
 refine x1_4 (⟨_, F9, rfl, rfl, rfl⟩ : ∃ m9, Fr g L s9.heap m9 /\ m9 "trees" = some (.ref TL) /\ m9 "most" = some (.ref ML) /\ m9 "votes" = some (.ref VO)) fun m9 F9' y1 y2 y3 => ?_
 have F9'' := fr_know (x := "trees") (fr_know (x := "most") (fr_know (x := "votes") F9' y3) y2) y1
 have e3 : rows = [asI (treeOf (nums.getD 0 0)), asI (treeOf (nums.getD 3 0)), asI (treeOf (nums.getD 6 0))] := hrows.symm
 refine x0_2 (median (treeOf_mem (nums.getD 0 0)).1 (treeOf_mem (nums.getD 3 0)).1 (treeOf_mem (nums.getD 6 0)).1 e3 rfl rfl rfl) fun hM hone => ?_
 refine lw_end (p := p) (loose := loose) (mg := mg) (mb := mb) (FA := FA) (VO := VO) (TL := TL) (ML := ML) (fvs := fvs) (vvs := vvs) (tvs := tvs) (mvs := mvs) (nf := nf) (nv := nv) (nt := nt) (nm := nm) (o6 := o6') (ml := asI (mostN rows)) (trees := trees26.map asI) (md := (161, tabObj (lamTab lamPos c')) :: (c', oc') :: B) T X ho F9'' (pickN N9 (by walk_at "sub")) d6' hfa hvo (OnLed.mono (by walk_at "tail") bOt) hmi2 ts1 ts2 (by simp) hM rfl hone fun s10 K10 N10 os10 ba10 => ?_
 refine hQ s10 _ c' oc' K10 (N10 (161, tabObj (lamTab lamPos c')) (by walk_at "mem")).1 (N10 (c', oc') (by walk_at "mem")).1 LS4 ?_ ?_
 · rw [os10, os9, os8, os7, os6, os5, os4, os3, os2, os1]
 · exact fun z => ba10 (ba9 (ba8 (ba7 (ba6 (ba5 (ba4 (ba3 (ba2 (ba1 z)))))))))
end Mine
end
section
namespace Mine
theorem c_law {w : World} {g : Heap} {s : Shared} {S0 : Nat} {svs : List Value} {sns : List Int} {R : Result -> Shared -> Prop}
  (TB : TopB p loose mg mb g) (T : TopRead p loose mg mb g) (X : (Mine.mk.heap_1 w.params).In g) (W : WH g s [(161, tabObj #[])]) (hS0 : g.IsList S0 svs.toArray) (hi : IntsAre svs sns) (hsz : sns.length <= 63)
  (hR : ∀ s' pst, (∀ b o, g.get? b = some o -> s'.heap.get? b = some o) -> s'.heap.get? 161 = some (tabObj pst) -> s'.os = s.os -> (AllBare s.gens -> AllBare s'.gens) -> R (.ok (.ret (.bool true))) s') :
  codeAny (model Challenge.rw_kl0462_01.prog w) callerA (.call (.ref 243) ⟨[.ref S0], []⟩) R s := by
 revert X
 k_fill
 intro X
 refine' callCW (binds := [("script", .ref S0)]) W X T.nolimit ?ho ?hcd ?room ?bi ?lo ?nd ?_ ?c1 ?c2 ?c3
 case ho => k_is
 case hcd => k_is
 case room => exact Nat.le_of_ble_eq_true rfl
 case bi => exact BindsTo.of_eq rfl
 case lo => rfl
 case nd => decide +kernel
 case c1 => rfl
 case c2 => rfl
 case c3 => rfl
 intro L h_1 tk cells F N Y eL lL
 have h161 : @LT.lt Nat _ 161 L := lL (161, tabObj #[]) List.mem_cons_self
 have ho := Eq.trans (rfl : (Mine.mk.heap_1 w.params).lookup 243 = (Mine.mk.heap_1 w.params).lookup 243) (by k_is)
 k_cells Y
 simp only [List.cons_append, List.nil_append] at N
 have F_2 := fr_know (x := "script") (v := .ref S0) F rfl
 refine lw_body (p := p) (loose := loose) (mg := mg) (mb := mb) TB T X ho F_2 N (by assumption) (by assumption) (by assumption) (by assumption) (by assumption) (by assumption) hS0 hi hsz h161 fun s' pst cd oc K h1 h2 LS os ba => ?_
 exact hR s' pst K h1 os ba
end Mine
end
section
set_option Elab.async false
namespace Mine
theorem good_end {c : ClaimW} {cl : Str -> Option Addr} {mean : ExcName -> Option Value} {args : List WData} {s₁ s' : Shared} {ps : Array Value} (hT : TabsAt [(163, 161)] s₁.heap) (hr : ∀ cls, c.raises args cls = false) (hp : c.post args (.bool true) args = true)
   (hk : ∀ b o, (ghostOf s₁.heap [(163, 161)]).get? b = some o -> s'.heap.get? b = some o) (h161 : s'.heap.get? 161 = some (tabObj ps)) (hos : s'.os = s₁.os) (hg : AllBare s'.gens) :
   GoodWG c cl mean args s₁ (.ok (.ret (.bool true))) s' := by
 have keep : ∀ b o, b ≠ 161 -> s₁.heap.get? b = some o -> s'.heap.get? b = some o := fun b o hb e => hk b o (ghost_ne e fun hm => hb (List.mem_singleton.mp hm))
 refine ⟨.inl ⟨_, _, [], rfl, hr, ReadsW.bool true, hp, fun _ => ⟨List.nodup_nil, fun _ hm => (nomatch hm)⟩⟩, ⟨fun b o e => ?_, fun b o e => ?_⟩, hos, hg⟩
 · by_cases hb : b = 161
   · subst hb
     have hq := hT (163, 161) List.mem_cons_self
     have e2 := hq.2
     rw [e] at e2
     cases e2
     exact .inr (.inl ⟨(hq.1.tab hq.2).isCodeTable, rfl, #[], ps, rfl, by rw [Array.empty_append]; exact h161⟩)
   · exact .inl (keep b o hb e)
 · by_cases hb : b = 161
   · subst hb; exact ⟨_, h161⟩
   · exact ⟨o, keep b o hb e⟩
end Mine
namespace Mine.all
theorem tw4983024317834737482:True:=⟨⟩
theorem tw9351078540693612215:True:=⟨⟩
theorem tw16444899576201249432:True:=⟨⟩
theorem tw8968355716326206664:True:=⟨⟩
theorem tw4847766330237268548:True:=⟨⟩
theorem tw14701963045326077753:True:=⟨⟩
theorem tw17314943208353570444:True:=⟨⟩
theorem tw6648324312943424196:True:=⟨⟩
theorem tw5615934883764171431:True:=⟨⟩
theorem tw15284455985751111415:True:=⟨⟩
theorem tw10277526245819850656:True:=⟨⟩
theorem tw7091565871241343341:True:=⟨⟩
theorem tw15198316981687975854:True:=⟨⟩
theorem tw11230645906715702508:True:=⟨⟩
theorem tw10773934983489079739:True:=⟨⟩
theorem tw11533779600810293282:True:=⟨⟩
theorem tw3390864358609898268:True:=⟨⟩
theorem tw14953325984322379511:True:=⟨⟩
theorem tw2235618017368140517:True:=⟨⟩
theorem tw14182124309207785167:True:=⟨⟩
theorem tw14081932915414352519:True:=⟨⟩
theorem tw14984247238865676675:True:=⟨⟩
theorem tw281770217567036725:True:=⟨⟩
theorem tw7686242042924871683:True:=⟨⟩
theorem tw16727532447511142511:True:=⟨⟩
theorem tw11446199593928302625:True:=⟨⟩
theorem tw1298631472846954095:True:=⟨⟩
theorem tw11038128598146805730:True:=⟨⟩
theorem tw2013830700403712203:True:=⟨⟩
theorem tw15248031165874397040:True:=⟨⟩
theorem tw15651733941924773997:True:=⟨⟩
theorem tw14310873030558110092:True:=⟨⟩
theorem tw3737605839529819480:True:=⟨⟩
theorem tw1216898108829112853:True:=⟨⟩
theorem tw6873541528101158377:True:=⟨⟩
theorem tw4942582282674782268:True:=⟨⟩
theorem tw3949192924188805160:True:=⟨⟩
theorem tw18003279642469066050:True:=⟨⟩
theorem tw14549113301119539810:True:=⟨⟩
theorem tw7193976414177721783:True:=⟨⟩
theorem tw2842816785644039571:True:=⟨⟩
theorem tw1323426155142419162:True:=⟨⟩
theorem tw13423135486485445016:True:=⟨⟩
theorem tw10316705163991428254:True:=⟨⟩
theorem tw7654578318931278690:True:=⟨⟩
theorem tw5815207240830897808:True:=⟨⟩
theorem tw15076152544538823220:True:=⟨⟩
theorem tw9743695723290020096:True:=⟨⟩
theorem tw225468126006155290:True:=⟨⟩
theorem tw14848961488311411958:True:=⟨⟩
theorem tw10323370424266482742:True:=⟨⟩
theorem tw3239841934065285509:True:=⟨⟩
theorem tw1291087626157917732:True:=⟨⟩
theorem tw5615151462926910227:True:=⟨⟩
theorem tw596421839371371174:True:=⟨⟩
theorem tw16747629065405408630:True:=⟨⟩
theorem tw15451204947285891726:True:=⟨⟩
theorem tw10681620039792923934:True:=⟨⟩
theorem tw18369841484834026144:True:=⟨⟩
theorem tw14288127532215574351:True:=⟨⟩
theorem tw17360653242477243975:True:=⟨⟩
theorem tw12981892083367582941:True:=⟨⟩
theorem tw8203446524507428889:True:=⟨⟩
theorem tw11488495728068971930:True:=⟨⟩
theorem tw5927061715728957476:True:=⟨⟩
theorem tw5213130599944360801:True:=⟨⟩
theorem tw898707613593260451:True:=⟨⟩
theorem tw9397017562490477109:True:=⟨⟩
theorem tw525001674005675781:True:=⟨⟩
theorem tw14849280956162755979:True:=⟨⟩
theorem tw18440353960458814819:True:=⟨⟩
theorem tw8728704332973717658:True:=⟨⟩
theorem tw9764797518255496921:True:=⟨⟩
theorem tw15575253945988166476:True:=⟨⟩
theorem tw8316665608867782698:True:=⟨⟩
theorem tw200202858802481044:True:=⟨⟩
theorem tw8013882960148741844:True:=⟨⟩
theorem tw9067401840964517513:True:=⟨⟩
theorem tw7888970235439995493:True:=⟨⟩
theorem tw7463789578871468081:True:=⟨⟩
theorem tw7387772359151610389:True:=⟨⟩
theorem tw7613092604104444468:True:=⟨⟩
theorem tw2617199346225702121:True:=⟨⟩
theorem tw1668847640869975015:True:=⟨⟩
theorem tw17038113766486284525:True:=⟨⟩
theorem tw8096221689764760052:True:=⟨⟩
theorem tw3506556867826905222:True:=⟨⟩
theorem tw16694476904998839863:True:=⟨⟩
theorem tw9285670843845949155:True:=⟨⟩
theorem tw11116879363250112325:True:=⟨⟩
theorem tw17933553581876595578:True:=⟨⟩
theorem tw13900070722340429276:True:=⟨⟩
theorem tw5543487718492105064:True:=⟨⟩
theorem tw12803817524326497440:True:=⟨⟩
theorem tw5044639097624668846:True:=⟨⟩
theorem tw7898559521017583957:True:=⟨⟩
theorem tw232827808551559825:True:=⟨⟩
theorem tw8486705261324164726:True:=⟨⟩
theorem tw7957553974722075628:True:=⟨⟩
theorem tw629097876249571350:True:=⟨⟩
theorem tw5675193095830314289:True:=⟨⟩
theorem tw3108443244893856389:True:=⟨⟩
theorem tw15128398863637318132:True:=⟨⟩
theorem tw2479237469882504799:True:=⟨⟩
theorem tw13663018214320142090:True:=⟨⟩
theorem tw4965207536615798822:True:=⟨⟩
theorem tw2000609977361463965:True:=⟨⟩
theorem tw18280367432782476751:True:=⟨⟩
theorem tw16773635481313006432:True:=⟨⟩
theorem tw17468886310826310451:True:=⟨⟩
theorem tw11757652711159077200:True:=⟨⟩
theorem tw10106143558346763940:True:=⟨⟩
theorem tw15393178847056368160:True:=⟨⟩
theorem tw5870148494974776200:True:=⟨⟩
theorem tw5657931515703916248:True:=⟨⟩
theorem tw10312239555926195531:True:=⟨⟩
theorem tw9642480246203547912:True:=⟨⟩
theorem tw14737169218283336635:True:=⟨⟩
theorem tw15059917014629022394:True:=⟨⟩
theorem tw1768962640154500726:True:=⟨⟩
theorem tw795402444562892265:True:=⟨⟩
theorem tw9976896545867408452:True:=⟨⟩
theorem tw7848317997028865603:True:=⟨⟩
theorem tw4613487602407358717:True:=⟨⟩
theorem tw10739187798722696023:True:=⟨⟩
theorem tw3855190133869164905:True:=⟨⟩
theorem tw12899656968702213925:True:=⟨⟩
theorem tw13270532327374429287:True:=⟨⟩
theorem tw7899379758991183832:True:=⟨⟩
theorem tw10942295900298899174:True:=⟨⟩
theorem tw9111709882147129655:True:=⟨⟩
theorem tw15305453227285626446:True:=⟨⟩
theorem tw6178583632892115015:True:=⟨⟩
theorem tw7072849832022388479:True:=⟨⟩
theorem tw10649901628825759099:True:=⟨⟩
theorem tw6946980451890315270:True:=⟨⟩
theorem tw5888963250497168203:True:=⟨⟩
theorem tw4244794441018138637:True:=⟨⟩
theorem tw12230215609453844091:True:=⟨⟩
theorem tw15618092478124507917:True:=⟨⟩
theorem tw8600759836979252552:True:=⟨⟩
theorem tw6374739798466589401:True:=⟨⟩
theorem tw4302931102428780990:True:=⟨⟩
theorem tw1964024912093424712:True:=⟨⟩
theorem tw2972125363121769464:True:=⟨⟩
theorem tw17590515576409907731:True:=⟨⟩
theorem tw3804168243799541492:True:=⟨⟩
theorem tw15926794790568321017:True:=⟨⟩
theorem tw3956032211818420853:True:=⟨⟩
theorem tw15097909243742831393:True:=⟨⟩
theorem tw1084137095814117326:True:=⟨⟩
theorem tw29985565223642888:True:=⟨⟩
theorem tw12428716410969305734:True:=⟨⟩
theorem tw5663634799744498170:True:=⟨⟩
theorem tw17260577670642009320:True:=⟨⟩
theorem tw14970210157437980911:True:=⟨⟩
theorem tw13735863392956971931:True:=⟨⟩
theorem tw18068929663759586442:True:=⟨⟩
theorem tw12784588452913835247:True:=⟨⟩
theorem tw200952908838891698:True:=⟨⟩
theorem tw7855422573467142813:True:=⟨⟩
theorem tw306535358961565008:True:=⟨⟩
theorem tw125183967897747985:True:=⟨⟩
theorem tw2690882624139800689:True:=⟨⟩
theorem tw8111057081096800836:True:=⟨⟩
theorem tw11798761498685784450:True:=⟨⟩
theorem tw15145278206449419223:True:=⟨⟩
theorem tw11051709101105081487:True:=⟨⟩
theorem tw14204109254541194217:True:=⟨⟩
theorem tw9448091282758670523:True:=⟨⟩
theorem tw15671812041987572844:True:=⟨⟩
theorem tw5718967094426423161:True:=⟨⟩
theorem tw13928513891281363954:True:=⟨⟩
theorem tw2550029180669979304:True:=⟨⟩
theorem tw10734428838109348058:True:=⟨⟩
theorem tw11273133048781285286:True:=⟨⟩
theorem tw7918374967389245632:True:=⟨⟩
theorem tw5362506446432344171:True:=⟨⟩
theorem tw7317653850160689691:True:=⟨⟩
theorem tw17983917188297756147:True:=⟨⟩
theorem tw10389294372677164839:True:=⟨⟩
theorem tw9099960808112739735:True:=⟨⟩
theorem tw4722931859811370693:True:=⟨⟩
theorem tw10640303290150162726:True:=⟨⟩
theorem tw1088589479996732829:True:=⟨⟩
end Mine.all
set_option Elab.async true
theorem Mine.all : PySem.W.OpenLaw.Holds PySem.Challenge.rw_kl0462_01 := by
 w_on
 o_law
 k_head
 case hw => w_witness2
 w_strict (
 k_fill
 intro w s_0 s₁ mg mb G Y fa o pm cd doc dV kV ho hd hcd hD hmg hg args vals as hpre hlay hrd hwl hlo
 have KX0 := km_in_of Y
 have KX : (Mine.mk.heap_1 _).In _ := KX0
 have hT8 := km_tabs_of Y
 refine Ground.open G ?_
 intro T B D TE TW
 have hT9 : TabsAt ([(163, 161)] : List (Addr × Addr)) s₁.heap := List.forall_mem_cons.mpr ⟨⟨codeHd_of_K (c := 163) (P := 161) KX (by kernel_rfl), hT8 161 (by k_mem)⟩, fun _ h => nomatch h⟩
 have hfa : fa = 243 := by
   have e := (mg_of KX0 T.g (n := "law") (v := .ref 243) (by k_is)).symm.trans hmg
   cases e
   rfl
 subst hfa
 clear hmg hD
 wrow_args hpre hlay hrd hwl hlo
 rename IntsAre _ _ => hi
 rename Heap.IsList _ _ _ => hL
 rename ¬ _ => hcond
 refine enter_call ?_
 have T' := ghost_top hT9 T
 have X' := ghost_K hT9 KX (by kernel_rfl)
 have W : Mine.WH (ghostOf s₁.heap [(163, 161)]) s₁ [(161, tabObj #[])] := Mine.WH.of (s := s₁) (cl := [(161, tabObj #[])]) fun p hp => by
   rw [List.mem_singleton.mp hp]; exact hT8 161 (by k_mem)
 refine Mine.c_law (p := topProg) (mg := mg) (mb := mb) ⟨topRead_of T', T'.bmain⟩ (topRead_of T') X' W (ghost_list hT9 hL) hi (by omega) fun s' pst K h161 os ba => ?_
 refine Mine.good_end hT9 (fun _ => rfl) ?_ K h161 os (ba (.of_eq hg))
 first | rfl | wrow_post)
set_option Elab.async false
end
theorem PySem.Challenge.cw_kl0462_01_holds : PySem.Challenge.rw_kl0462_01.Holds :=
 Mine.all
