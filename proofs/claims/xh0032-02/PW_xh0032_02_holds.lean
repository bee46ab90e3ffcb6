import PyProof.Rows.All
import Wide.All
import OpenK.AllK
import Wide.FinOn
import Lean
import PySem.Challenge.RW_xh0032_02
set_option Elab.async false
set_option linter.all false
set_option tactic.hygienic false
set_option maxHeartbeats 4000000
section
namespace Mine
theorem nv1 {α : Prop} {β : Type v} {x : β} (h : none = some x) : α := nomatch h
theorem nv2 {α : Prop} {β : Type v} {x : β} (h : some x = none) : α := nomatch h
theorem nv3 {α : Prop} (h : true = false) : α := nomatch h
theorem nv4 {α : Prop} (h : false = true) : α := nomatch h
theorem ite_k {α : Sort u} {c : Prop} {i : Decidable c} {a b r : α} {P : Prop} (h : ite c a b = r) (k1 : c → a = r → P) (k2 : ¬ c → b = r → P) : P :=
  i.casesOn (motive := fun i => @ite α c i a b = r → P) (fun n h => k2 n h) (fun y h => k1 y h) h
theorem k0_2 {p0 p1 P : Prop} (h : p0 ∧ p1) (k : p0 → p1 → P) : P := k h.1 h.2
theorem k0_3 {p0 p1 p2 P : Prop} (h : p0 ∧ p1 ∧ p2) (k : p0 → p1 → p2 → P) : P := k h.1 h.2.1 h.2.2
theorem k0_4 {p0 p1 p2 p3 P : Prop} (h : p0 ∧ p1 ∧ p2 ∧ p3) (k : p0 → p1 → p2 → p3 → P) : P := k h.1 h.2.1 h.2.2.1 h.2.2.2
theorem k0_5 {p0 p1 p2 p3 p4 P : Prop} (h : p0 ∧ p1 ∧ p2 ∧ p3 ∧ p4) (k : p0 → p1 → p2 → p3 → p4 → P) : P := k h.1 h.2.1 h.2.2.1 h.2.2.2.1 h.2.2.2.2
theorem k0_6 {p0 p1 p2 p3 p4 p5 P : Prop} (h : p0 ∧ p1 ∧ p2 ∧ p3 ∧ p4 ∧ p5) (k : p0 → p1 → p2 → p3 → p4 → p5 → P) : P := k h.1 h.2.1 h.2.2.1 h.2.2.2.1 h.2.2.2.2.1 h.2.2.2.2.2
theorem k0_7 {p0 p1 p2 p3 p4 p5 p6 P : Prop} (h : p0 ∧ p1 ∧ p2 ∧ p3 ∧ p4 ∧ p5 ∧ p6) (k : p0 → p1 → p2 → p3 → p4 → p5 → p6 → P) : P := k h.1 h.2.1 h.2.2.1 h.2.2.2.1 h.2.2.2.2.1 h.2.2.2.2.2.1 h.2.2.2.2.2.2
theorem k0_9 {p0 p1 p2 p3 p4 p5 p6 p7 p8 P : Prop} (h : p0 ∧ p1 ∧ p2 ∧ p3 ∧ p4 ∧ p5 ∧ p6 ∧ p7 ∧ p8) (k : p0 → p1 → p2 → p3 → p4 → p5 → p6 → p7 → p8 → P) : P := k h.1 h.2.1 h.2.2.1 h.2.2.2.1 h.2.2.2.2.1 h.2.2.2.2.2.1 h.2.2.2.2.2.2.1 h.2.2.2.2.2.2.2.1 h.2.2.2.2.2.2.2.2
theorem k1_1 {α0 : Sort u0} {p0 : α0 → Prop} {P : Prop} (h : ∃ x0, p0 x0) (k : ∀ x0, p0 x0 → P) : P := h.elim fun x0 h => k x0 h
theorem k1_2 {α0 : Sort u0} {p0 p1 : α0 → Prop} {P : Prop} (h : ∃ x0, p0 x0 ∧ p1 x0) (k : ∀ x0, p0 x0 → p1 x0 → P) : P := h.elim fun x0 h => k x0 h.1 h.2
theorem k1_3 {α0 : Sort u0} {p0 p1 p2 : α0 → Prop} {P : Prop} (h : ∃ x0, p0 x0 ∧ p1 x0 ∧ p2 x0) (k : ∀ x0, p0 x0 → p1 x0 → p2 x0 → P) : P := h.elim fun x0 h => k x0 h.1 h.2.1 h.2.2
theorem k1_4 {α0 : Sort u0} {p0 p1 p2 p3 : α0 → Prop} {P : Prop} (h : ∃ x0, p0 x0 ∧ p1 x0 ∧ p2 x0 ∧ p3 x0) (k : ∀ x0, p0 x0 → p1 x0 → p2 x0 → p3 x0 → P) : P := h.elim fun x0 h => k x0 h.1 h.2.1 h.2.2.1 h.2.2.2
theorem k1_5 {α0 : Sort u0} {p0 p1 p2 p3 p4 : α0 → Prop} {P : Prop} (h : ∃ x0, p0 x0 ∧ p1 x0 ∧ p2 x0 ∧ p3 x0 ∧ p4 x0) (k : ∀ x0, p0 x0 → p1 x0 → p2 x0 → p3 x0 → p4 x0 → P) : P := h.elim fun x0 h => k x0 h.1 h.2.1 h.2.2.1 h.2.2.2.1 h.2.2.2.2
theorem k1_7 {α0 : Sort u0} {p0 p1 p2 p3 p4 p5 p6 : α0 → Prop} {P : Prop} (h : ∃ x0, p0 x0 ∧ p1 x0 ∧ p2 x0 ∧ p3 x0 ∧ p4 x0 ∧ p5 x0 ∧ p6 x0) (k : ∀ x0, p0 x0 → p1 x0 → p2 x0 → p3 x0 → p4 x0 → p5 x0 → p6 x0 → P) : P := h.elim fun x0 h => k x0 h.1 h.2.1 h.2.2.1 h.2.2.2.1 h.2.2.2.2.1 h.2.2.2.2.2.1 h.2.2.2.2.2.2
theorem k2_1 {α0 : Sort u0} {α1 : Sort u1} {p0 : α0 → α1 → Prop} {P : Prop} (h : ∃ x0 x1, p0 x0 x1) (k : ∀ x0 x1, p0 x0 x1 → P) : P := h.elim fun x0 h => h.elim fun x1 h => k x0 x1 h
theorem k2_2 {α0 : Sort u0} {α1 : Sort u1} {p0 p1 : α0 → α1 → Prop} {P : Prop} (h : ∃ x0 x1, p0 x0 x1 ∧ p1 x0 x1) (k : ∀ x0 x1, p0 x0 x1 → p1 x0 x1 → P) : P := h.elim fun x0 h => h.elim fun x1 h => k x0 x1 h.1 h.2
theorem k2_3 {α0 : Sort u0} {α1 : Sort u1} {p0 p1 p2 : α0 → α1 → Prop} {P : Prop} (h : ∃ x0 x1, p0 x0 x1 ∧ p1 x0 x1 ∧ p2 x0 x1) (k : ∀ x0 x1, p0 x0 x1 → p1 x0 x1 → p2 x0 x1 → P) : P := h.elim fun x0 h => h.elim fun x1 h => k x0 x1 h.1 h.2.1 h.2.2
theorem k2_4 {α0 : Sort u0} {α1 : Sort u1} {p0 p1 p2 p3 : α0 → α1 → Prop} {P : Prop} (h : ∃ x0 x1, p0 x0 x1 ∧ p1 x0 x1 ∧ p2 x0 x1 ∧ p3 x0 x1) (k : ∀ x0 x1, p0 x0 x1 → p1 x0 x1 → p2 x0 x1 → p3 x0 x1 → P) : P := h.elim fun x0 h => h.elim fun x1 h => k x0 x1 h.1 h.2.1 h.2.2.1 h.2.2.2
theorem k2_5 {α0 : Sort u0} {α1 : Sort u1} {p0 p1 p2 p3 p4 : α0 → α1 → Prop} {P : Prop} (h : ∃ x0 x1, p0 x0 x1 ∧ p1 x0 x1 ∧ p2 x0 x1 ∧ p3 x0 x1 ∧ p4 x0 x1) (k : ∀ x0 x1, p0 x0 x1 → p1 x0 x1 → p2 x0 x1 → p3 x0 x1 → p4 x0 x1 → P) : P := h.elim fun x0 h => h.elim fun x1 h => k x0 x1 h.1 h.2.1 h.2.2.1 h.2.2.2.1 h.2.2.2.2
theorem k2_7 {α0 : Sort u0} {α1 : Sort u1} {p0 p1 p2 p3 p4 p5 p6 : α0 → α1 → Prop} {P : Prop} (h : ∃ x0 x1, p0 x0 x1 ∧ p1 x0 x1 ∧ p2 x0 x1 ∧ p3 x0 x1 ∧ p4 x0 x1 ∧ p5 x0 x1 ∧ p6 x0 x1) (k : ∀ x0 x1, p0 x0 x1 → p1 x0 x1 → p2 x0 x1 → p3 x0 x1 → p4 x0 x1 → p5 x0 x1 → p6 x0 x1 → P) : P := h.elim fun x0 h => h.elim fun x1 h => k x0 x1 h.1 h.2.1 h.2.2.1 h.2.2.2.1 h.2.2.2.2.1 h.2.2.2.2.2.1 h.2.2.2.2.2.2
theorem k2_8 {α0 : Sort u0} {α1 : Sort u1} {p0 p1 p2 p3 p4 p5 p6 p7 : α0 → α1 → Prop} {P : Prop} (h : ∃ x0 x1, p0 x0 x1 ∧ p1 x0 x1 ∧ p2 x0 x1 ∧ p3 x0 x1 ∧ p4 x0 x1 ∧ p5 x0 x1 ∧ p6 x0 x1 ∧ p7 x0 x1) (k : ∀ x0 x1, p0 x0 x1 → p1 x0 x1 → p2 x0 x1 → p3 x0 x1 → p4 x0 x1 → p5 x0 x1 → p6 x0 x1 → p7 x0 x1 → P) : P := h.elim fun x0 h => h.elim fun x1 h => k x0 x1 h.1 h.2.1 h.2.2.1 h.2.2.2.1 h.2.2.2.2.1 h.2.2.2.2.2.1 h.2.2.2.2.2.2.1 h.2.2.2.2.2.2.2
theorem k3_2 {α0 : Sort u0} {α1 : Sort u1} {α2 : Sort u2} {p0 p1 : α0 → α1 → α2 → Prop} {P : Prop} (h : ∃ x0 x1 x2, p0 x0 x1 x2 ∧ p1 x0 x1 x2) (k : ∀ x0 x1 x2, p0 x0 x1 x2 → p1 x0 x1 x2 → P) : P := h.elim fun x0 h => h.elim fun x1 h => h.elim fun x2 h => k x0 x1 x2 h.1 h.2
theorem k3_3 {α0 : Sort u0} {α1 : Sort u1} {α2 : Sort u2} {p0 p1 p2 : α0 → α1 → α2 → Prop} {P : Prop} (h : ∃ x0 x1 x2, p0 x0 x1 x2 ∧ p1 x0 x1 x2 ∧ p2 x0 x1 x2) (k : ∀ x0 x1 x2, p0 x0 x1 x2 → p1 x0 x1 x2 → p2 x0 x1 x2 → P) : P := h.elim fun x0 h => h.elim fun x1 h => h.elim fun x2 h => k x0 x1 x2 h.1 h.2.1 h.2.2
theorem k3_4 {α0 : Sort u0} {α1 : Sort u1} {α2 : Sort u2} {p0 p1 p2 p3 : α0 → α1 → α2 → Prop} {P : Prop} (h : ∃ x0 x1 x2, p0 x0 x1 x2 ∧ p1 x0 x1 x2 ∧ p2 x0 x1 x2 ∧ p3 x0 x1 x2) (k : ∀ x0 x1 x2, p0 x0 x1 x2 → p1 x0 x1 x2 → p2 x0 x1 x2 → p3 x0 x1 x2 → P) : P := h.elim fun x0 h => h.elim fun x1 h => h.elim fun x2 h => k x0 x1 x2 h.1 h.2.1 h.2.2.1 h.2.2.2
theorem k3_6 {α0 : Sort u0} {α1 : Sort u1} {α2 : Sort u2} {p0 p1 p2 p3 p4 p5 : α0 → α1 → α2 → Prop} {P : Prop} (h : ∃ x0 x1 x2, p0 x0 x1 x2 ∧ p1 x0 x1 x2 ∧ p2 x0 x1 x2 ∧ p3 x0 x1 x2 ∧ p4 x0 x1 x2 ∧ p5 x0 x1 x2) (k : ∀ x0 x1 x2, p0 x0 x1 x2 → p1 x0 x1 x2 → p2 x0 x1 x2 → p3 x0 x1 x2 → p4 x0 x1 x2 → p5 x0 x1 x2 → P) : P := h.elim fun x0 h => h.elim fun x1 h => h.elim fun x2 h => k x0 x1 x2 h.1 h.2.1 h.2.2.1 h.2.2.2.1 h.2.2.2.2.1 h.2.2.2.2.2
theorem k3_7 {α0 : Sort u0} {α1 : Sort u1} {α2 : Sort u2} {p0 p1 p2 p3 p4 p5 p6 : α0 → α1 → α2 → Prop} {P : Prop} (h : ∃ x0 x1 x2, p0 x0 x1 x2 ∧ p1 x0 x1 x2 ∧ p2 x0 x1 x2 ∧ p3 x0 x1 x2 ∧ p4 x0 x1 x2 ∧ p5 x0 x1 x2 ∧ p6 x0 x1 x2) (k : ∀ x0 x1 x2, p0 x0 x1 x2 → p1 x0 x1 x2 → p2 x0 x1 x2 → p3 x0 x1 x2 → p4 x0 x1 x2 → p5 x0 x1 x2 → p6 x0 x1 x2 → P) : P := h.elim fun x0 h => h.elim fun x1 h => h.elim fun x2 h => k x0 x1 x2 h.1 h.2.1 h.2.2.1 h.2.2.2.1 h.2.2.2.2.1 h.2.2.2.2.2.1 h.2.2.2.2.2.2
theorem k4_5 {α0 : Sort u0} {α1 : Sort u1} {α2 : Sort u2} {α3 : Sort u3} {p0 p1 p2 p3 p4 : α0 → α1 → α2 → α3 → Prop} {P : Prop} (h : ∃ x0 x1 x2 x3, p0 x0 x1 x2 x3 ∧ p1 x0 x1 x2 x3 ∧ p2 x0 x1 x2 x3 ∧ p3 x0 x1 x2 x3 ∧ p4 x0 x1 x2 x3) (k : ∀ x0 x1 x2 x3, p0 x0 x1 x2 x3 → p1 x0 x1 x2 x3 → p2 x0 x1 x2 x3 → p3 x0 x1 x2 x3 → p4 x0 x1 x2 x3 → P) : P := h.elim fun x0 h => h.elim fun x1 h => h.elim fun x2 h => h.elim fun x3 h => k x0 x1 x2 x3 h.1 h.2.1 h.2.2.1 h.2.2.2.1 h.2.2.2.2
theorem k4_7 {α0 : Sort u0} {α1 : Sort u1} {α2 : Sort u2} {α3 : Sort u3} {p0 p1 p2 p3 p4 p5 p6 : α0 → α1 → α2 → α3 → Prop} {P : Prop} (h : ∃ x0 x1 x2 x3, p0 x0 x1 x2 x3 ∧ p1 x0 x1 x2 x3 ∧ p2 x0 x1 x2 x3 ∧ p3 x0 x1 x2 x3 ∧ p4 x0 x1 x2 x3 ∧ p5 x0 x1 x2 x3 ∧ p6 x0 x1 x2 x3) (k : ∀ x0 x1 x2 x3, p0 x0 x1 x2 x3 → p1 x0 x1 x2 x3 → p2 x0 x1 x2 x3 → p3 x0 x1 x2 x3 → p4 x0 x1 x2 x3 → p5 x0 x1 x2 x3 → p6 x0 x1 x2 x3 → P) : P := h.elim fun x0 h => h.elim fun x1 h => h.elim fun x2 h => h.elim fun x3 h => k x0 x1 x2 x3 h.1 h.2.1 h.2.2.1 h.2.2.2.1 h.2.2.2.2.1 h.2.2.2.2.2.1 h.2.2.2.2.2.2
theorem k5_1 {α0 : Sort u0} {α1 : Sort u1} {α2 : Sort u2} {α3 : Sort u3} {α4 : Sort u4} {p0 : α0 → α1 → α2 → α3 → α4 → Prop} {P : Prop} (h : ∃ x0 x1 x2 x3 x4, p0 x0 x1 x2 x3 x4) (k : ∀ x0 x1 x2 x3 x4, p0 x0 x1 x2 x3 x4 → P) : P := h.elim fun x0 h => h.elim fun x1 h => h.elim fun x2 h => h.elim fun x3 h => h.elim fun x4 h => k x0 x1 x2 x3 x4 h
theorem k5_6 {α0 : Sort u0} {α1 : Sort u1} {α2 : Sort u2} {α3 : Sort u3} {α4 : Sort u4} {p0 p1 p2 p3 p4 p5 : α0 → α1 → α2 → α3 → α4 → Prop} {P : Prop} (h : ∃ x0 x1 x2 x3 x4, p0 x0 x1 x2 x3 x4 ∧ p1 x0 x1 x2 x3 x4 ∧ p2 x0 x1 x2 x3 x4 ∧ p3 x0 x1 x2 x3 x4 ∧ p4 x0 x1 x2 x3 x4 ∧ p5 x0 x1 x2 x3 x4) (k : ∀ x0 x1 x2 x3 x4, p0 x0 x1 x2 x3 x4 → p1 x0 x1 x2 x3 x4 → p2 x0 x1 x2 x3 x4 → p3 x0 x1 x2 x3 x4 → p4 x0 x1 x2 x3 x4 → p5 x0 x1 x2 x3 x4 → P) : P := h.elim fun x0 h => h.elim fun x1 h => h.elim fun x2 h => h.elim fun x3 h => h.elim fun x4 h => k x0 x1 x2 x3 x4 h.1 h.2.1 h.2.2.1 h.2.2.2.1 h.2.2.2.2.1 h.2.2.2.2.2
@[elab_as_elim] theorem rw_k {α : Sort u} {a b : α} {m : α → Prop} (h : a = b) (k : m b) : m a := h ▸ k
@[elab_as_elim] theorem rw_r {α : Sort u} {a b : α} {m : α → Prop} (h : b = a) (k : m b) : m a := h ▸ k
theorem sj {α : Type u} {a b : α} (h : some a = some b) : a = b := Option.some.inj h
end Mine
local macro_rules
  | `(tactic| rewrite [$r]) => let e : Lean.Term := ⟨r.raw[1]⟩; if r.raw[0].getNumArgs > 0 then `(tactic| first | refine Mine.rw_r $e ?_ | fail) else `(tactic| first | refine Mine.rw_k $e ?_ | fail)
local macro_rules
  | `(tactic| rw [$rs,*]) => do `(tactic| ($[rewrite [$(rs.getElems)]];*; try (with_reducible rfl)))

set_option maxRecDepth 100000
namespace Mine
open PySem PySem.W PySem.Calls PyProof.Rows
section
noncomputable def kAt (h : Heap) (as : List Addr) : Frag := as.filterMap fun i => (h.get? i).map fun o => (i, o)
theorem kAt_in (h : Heap) (as : List Addr) : (kAt h as).In h := by
  intro a o
  unfold kAt
  induction as with
  | nil => intro e; exact nv1 e
  | cons i l ih =>
    rw [List.filterMap_cons]
    cases q : h.get? i with
    | none => exact ih
    | some o' =>
      show List.lookup a ((i, o') :: _) = _ → _
      rw [List.lookup_cons]
      cases r : a == i with
      | false => exact ih
      | true =>
        intro e
        obtain rfl := sj e
        rw [beq_iff_eq] at r
        rw [r]; exact q
noncomputable def ent (P : Params) (x : String) (t : Tok) (v : Value) : DictEntry := ⟨PyData.keyHash P (Str.ofString x), .str (Str.ofString x) t, v⟩
noncomputable abbrev FnS := FuncBody × Arguments × Scope × (List (Str × Addr) × Addr × Addr × Value × Value × Value) × Bool
noncomputable def fnSees (K : Frag) (a : Addr) : Option FnS := match K.lookup a with
  | some ⟨c, _, .func fd, _⟩ => some (fd.body, fd.params, fd.scope, (fd.closure, fd.globals, fd.builtins, fd.defaults, fd.kwdefaults, c), codeIn K fd.code fd.qualname)
  | _ => none
noncomputable def fnCd (K : Frag) (a : Addr) : Value := match K.lookup a with
  | some ⟨_, _, .func fd, _⟩ => fd.code
  | _ => .none
noncomputable def isI : Value → Bool
  | .int _ _ => true
  | _ => false
noncomputable def isB : Value → Bool
  | .bool _ => true
  | _ => false
noncomputable def isS : Value → Bool
  | .str _ _ => true
  | _ => false
noncomputable def isN : Value → Bool
  | .none => true
  | _ => false
noncomputable def isR (a : Addr) : Value → Bool
  | .ref b => b == a
  | _ => false
noncomputable def isTy (t : String) : Value → Bool
  | .type u => u == t
  | _ => false
theorem isI_eq {v : Value} (h : isI v = true) : ∃ i t, v = .int i t := by cases v <;> first | exact ⟨_, _, rfl⟩ | exact nv4 h
theorem isB_eq {v : Value} (h : isB v = true) : ∃ b, v = .bool b := by cases v <;> first | exact ⟨_, rfl⟩ | exact nv4 h
theorem isS_eq {v : Value} (h : isS v = true) : ∃ x t, v = .str x t := by cases v <;> first | exact ⟨_, _, rfl⟩ | exact nv4 h
theorem isN_eq {v : Value} (h : isN v = true) : v = .none := by cases v <;> first | rfl | exact nv4 h
theorem isR_eq {a : Addr} {v : Value} (h : isR a v = true) : v = .ref a := by cases v <;> first | exact congrArg Value.ref (beq_iff_eq.mp h) | exact nv4 h
theorem isTy_eq {t : String} {v : Value} (h : isTy t v = true) : v = .type t := by cases v <;> first | exact congrArg Value.type (beq_iff_eq.mp h) | exact nv4 h
noncomputable def fldO (o : Obj) : Option (Array Value) := match o.data with
  | .fields vs => some vs
  | _ => none
theorem fldO_eq {o : Obj} {vs : Array Value} (h : fldO o = some vs) : o.data = .fields vs := by
  unfold fldO at h
  cases e : o.data <;> rw [e] at h <;> first | (injection h with h; rw [h]) | exact nv1 h
noncomputable def codeOk (P : Addr) (vs : Array Value) : Bool := isR P (vs.getD 11 .none) && isS (vs.getD 18 .none) && isI (vs.getD 7 .none) && isB (vs.getD 9 .none) && isI (vs.getD 10 .none)
noncomputable def notesOk (o : Obj) : Bool := isN o.cls && o.dict.isNone && o.slots.isEmpty && ((fldO o).map (·.isEmpty)).getD false
noncomputable def noted (h : Heap) (c P : Addr) : Bool := ((h.get? c).map fun o => isTy "code" o.cls && ((fldO o).map (codeOk P)).getD false).getD false && ((h.get? P).map notesOk).getD false
theorem getD_map {α : Type} {o : Option α} {f : α → Bool} (h : (o.map f).getD false = true) : ∃ x, o = some x ∧ f x = true := by
  cases o with
  | none => exact nv4 h
  | some x => exact ⟨x, rfl, h⟩
noncomputable def isPl : Data → Bool
  | .plain => true
  | _ => false
theorem isPl_eq {d : Data} (h : isPl d = true) : d = .plain := by cases d <;> first | rfl | exact nv4 h
noncomputable def modOk (o : Obj) : Bool := isTy "module" o.cls && decide (o.dict = some builtinsNs) && isPl o.data
noncomputable def modIn (K : Frag) (a : Addr) : Bool := ((K.lookup a).map modOk).getD false
theorem modIn_obj {K : Frag} {a : Addr} (h : modIn K a = true) : ∃ ob, K.lookup a = some ob ∧ ob.cls = .type "module" ∧ ob.dict = some builtinsNs ∧ ob.data = .plain := by
  refine k1_2 (getD_map h) fun o ho h => ?_
  unfold modOk at h
  rw [Bool.and_eq_true, Bool.and_eq_true, decide_eq_true_iff] at h
  exact ⟨o, ho, isTy_eq h.1.1, h.1.2, isPl_eq h.2⟩
theorem notesOk_eq {o : Obj} (h : notesOk o = true) : o = { cls := .none, data := .fields #[] } := by
  obtain ⟨c, d, data, sl⟩ := o
  unfold notesOk at h
  simp only [Bool.and_eq_true] at h
  (refine k0_2 h fun ž1 => ?_; obtain ⟨⟨h1, h2⟩, h3⟩ := ž1; intro h4)
  refine k1_2 (getD_map h4) fun ps e h4 => ?_
  have e := fldO_eq e
  dsimp only at h1 h2 h3 e
  rw [Array.isEmpty_iff] at h3 h4
  rw [Option.isNone_iff_eq_none] at h2
  rw [isN_eq h1, h2, h3, e, h4]
theorem noted_code {h : Heap} {c P : Addr} (x : noted h c P = true) : h.IsCode c P #[] ∧ h.TableAt c P #[] := by
  unfold noted at x
  rw [Bool.and_eq_true] at x
  refine k1_2 (getD_map x.1) fun o ho x1 => ?_
  refine k1_2 (getD_map x.2) fun o' hP x2 => ?_
  rw [notesOk_eq x2] at hP
  rw [Bool.and_eq_true] at x1
  refine k1_2 (getD_map x1.2) fun vs hv x3 => ?_
  have hv := fldO_eq hv
  unfold codeOk at x3
  simp only [Bool.and_eq_true] at x3
  (refine k0_2 x3 fun ž1 => ?_; obtain ⟨⟨⟨q1, q2⟩, q3⟩, q4⟩ := ž1; intro q5)
  have q1 := isR_eq q1
  refine k2_1 (isS_eq q2) fun _ _ q2 => ?_
  refine k2_1 (isI_eq q3) fun _ _ q3 => ?_
  refine k1_1 (isB_eq q4) fun _ q4 => ?_
  refine k2_1 (isI_eq q5) fun _ _ q5 => ?_
  have hcls := isTy_eq x1.1
  have h11 : vs[11]? = some (.ref P) := by
    rw [Array.getD_eq_getD_getElem?] at q1
    cases e : vs[11]? with
    | none => rw [e] at q1; cases q1
    | some v => rw [e] at q1; exact congrArg some q1
  refine ⟨⟨o, vs, _, _, _, _, _, _, _, _, ho, hv, q1, q2, q3, q4, q5, hP, rfl, trivial, ?_⟩, ⟨⟨o, vs, ho, hcls, hv, h11⟩, hP⟩⟩
  rintro rfl
  rw [ho] at hP
  obtain rfl := sj hP
  cases hcls
noncomputable def stFn : Option Stmt → Option FnS
  | some (.FunctionDef _ ps body _ _ _ sc _ _ _) => some (.stmts body, ps, sc, ([], mainGlobals, builtinsNs, .none, .none, .type "function"), true)
  | _ => none
noncomputable def stCls : Option Stmt → List Stmt
  | some (.ClassDef _ _ _ body ..) => body
  | _ => []
noncomputable def stBody : Option Stmt → List Stmt
  | some (.FunctionDef _ _ body _ _ _ _ _ _ _) => body
  | _ => []
noncomputable def stNames : Option Stmt → List (Str × NameKind)
  | some (.FunctionDef _ _ _ _ _ _ sc _ _ _) => sc.names
  | _ => []
noncomputable def plainPs (ps : Arguments) (xs : List Str) : Bool := ps.posonlyargs.isEmpty && ps.vararg.isNone && ps.kwonlyargs.isEmpty && ps.kwarg.isNone && (ps.args.map (·.arg) == xs)
noncomputable def stOk (xs : List Str) : Option Stmt → Bool
  | some (.FunctionDef _ ps _ _ _ _ sc _ _ _) => plainPs ps xs && !sc.isCoroutine && !sc.isGenerator && (sc.kind == .function)
  | _ => false
end
section
noncomputable abbrev P02 : Program := PySem.Challenge.pw_xh0032_02
noncomputable abbrev b02 (i : Nat) : Option Stmt := P02.main.body[i]?
noncomputable def q02 : Program := view P02 ((List.range 69).filter fun i => !([0, 4, 9, 64].contains i))
noncomputable def E3 (P : Params) : Array DictEntry := #[ent P "__name__" 165 (.str (Str.ofString "law_xh0032_02") 542),
  ent P "__doc__" 166 (.none),
  ent P "__package__" 167 (.none),
  ent P "__loader__" 168 (.builtin "__main__.__loader__#opaque"),
  ent P "__spec__" 169 (.none),
  ent P "__annotations__" 170 (.ref 6),
  ent P "__builtins__" 171 (.ref 4),
  ent P "__file__" 173 (.str (Str.ofString "/claim/cut.py") 172),
  ent P "__cached__" 174 (.none),
  ent P "rgb_to_hls" 207 (.ref 21),
  ent P "rgb_to_hsv" 225 (.ref 28),
  ent P "hsv_to_rgb" 239 (.ref 35),
  ent P "TupleComp" 283 (.ref 59),
  ent P "add_func_stats" 301 (.ref 70),
  ent P "add_callers" 312 (.ref 77),
  ent P "count_calls" 321 (.ref 84),
  ent P "ENDMARKER" 325 (.int 0 324),
  ent P "LPAR" 327 (.int 7 326),
  ent P "RPAR" 329 (.int 8 328),
  ent P "LSQB" 331 (.int 9 330),
  ent P "RSQB" 333 (.int 10 332),
  ent P "COLON" 335 (.int 11 334),
  ent P "COMMA" 337 (.int 12 336),
  ent P "SEMI" 339 (.int 13 338),
  ent P "PLUS" 341 (.int 14 340),
  ent P "MINUS" 343 (.int 15 342),
  ent P "STAR" 345 (.int 16 344),
  ent P "SLASH" 347 (.int 17 346),
  ent P "VBAR" 349 (.int 18 348),
  ent P "AMPER" 351 (.int 19 350),
  ent P "LESS" 353 (.int 20 352),
  ent P "GREATER" 355 (.int 21 354),
  ent P "EQUAL" 357 (.int 22 356),
  ent P "DOT" 359 (.int 23 358),
  ent P "PERCENT" 361 (.int 24 360),
  ent P "LBRACE" 363 (.int 25 362),
  ent P "RBRACE" 365 (.int 26 364),
  ent P "EQEQUAL" 367 (.int 27 366),
  ent P "NOTEQUAL" 369 (.int 28 368),
  ent P "LESSEQUAL" 371 (.int 29 370),
  ent P "GREATEREQUAL" 373 (.int 30 372),
  ent P "TILDE" 375 (.int 31 374),
  ent P "CIRCUMFLEX" 377 (.int 32 376),
  ent P "LEFTSHIFT" 379 (.int 33 378),
  ent P "RIGHTSHIFT" 381 (.int 34 380),
  ent P "DOUBLESTAR" 383 (.int 35 382),
  ent P "PLUSEQUAL" 385 (.int 36 384),
  ent P "MINEQUAL" 387 (.int 37 386),
  ent P "STAREQUAL" 389 (.int 38 388),
  ent P "SLASHEQUAL" 391 (.int 39 390),
  ent P "PERCENTEQUAL" 393 (.int 40 392),
  ent P "AMPEREQUAL" 395 (.int 41 394),
  ent P "VBAREQUAL" 397 (.int 42 396),
  ent P "CIRCUMFLEXEQUAL" 399 (.int 43 398),
  ent P "LEFTSHIFTEQUAL" 401 (.int 44 400),
  ent P "RIGHTSHIFTEQUAL" 403 (.int 45 402),
  ent P "DOUBLESTAREQUAL" 405 (.int 46 404),
  ent P "DOUBLESLASH" 407 (.int 47 406),
  ent P "DOUBLESLASHEQUAL" 409 (.int 48 408),
  ent P "AT" 411 (.int 49 410),
  ent P "ATEQUAL" 413 (.int 50 412),
  ent P "RARROW" 415 (.int 51 414),
  ent P "ELLIPSIS" 417 (.int 52 416),
  ent P "COLONEQUAL" 419 (.int 53 418),
  ent P "EXCLAMATION" 421 (.int 54 420),
  ent P "NT_OFFSET" 423 (.int 256 422),
  ent P "EXACT_TOKEN_TYPES" 520 (.ref 85),
  ent P "ISTERMINAL" 527 (.ref 94),
  ent P "ISNONTERMINAL" 534 (.ref 101),
  ent P "ISEOF" 541 (.ref 108),
  ent P "_law_cut" 549 (.ref 113),
  ent P "_law_orders" 555 (.ref 118),
  ent P "_law_part" 563 (.ref 125),
  ent P "law" 569 (.ref 130)]
noncomputable def L3 (P : Params) : Obj := { cls := .type "dict", data := .dict (E3 P) 74 }
noncomputable def E58 (P : Params) : Array DictEntry := #[ent P "__module__" 249 (.str (Str.ofString "cpy313.pstats") 240),
  ent P "__firstlineno__" 253 (.int 66 252),
  ent P "__init__" 261 (.ref 49),
  ent P "compare" 274 (.ref 56),
  ent P "__static_attributes__" 276 (.ref 57),
  ent P "__dict__" 278 (.ref 60),
  ent P "__weakref__" 280 (.ref 61),
  ent P "__doc__" 281 (.none)]
noncomputable def L58 (P : Params) : Obj := { cls := .type "dict", data := .dict (E58 P) 4 }
noncomputable def E85 (P : Params) : Array DictEntry := #[ent P "!" 424 (.int 54 420),
  ent P "!=" 426 (.int 28 368),
  ent P "%" 428 (.int 24 360),
  ent P "%=" 430 (.int 40 392),
  ent P "&" 432 (.int 19 350),
  ent P "&=" 434 (.int 41 394),
  ent P "(" 436 (.int 7 326),
  ent P ")" 438 (.int 8 328),
  ent P "*" 440 (.int 16 344),
  ent P "**" 442 (.int 35 382),
  ent P "**=" 444 (.int 46 404),
  ent P "*=" 446 (.int 38 388),
  ent P "+" 448 (.int 14 340),
  ent P "+=" 450 (.int 36 384),
  ent P "," 452 (.int 12 336),
  ent P "-" 454 (.int 15 342),
  ent P "-=" 456 (.int 37 386),
  ent P "->" 458 (.int 51 414),
  ent P "." 460 (.int 23 358),
  ent P "..." 462 (.int 52 416),
  ent P "/" 464 (.int 17 346),
  ent P "//" 466 (.int 47 406),
  ent P "//=" 468 (.int 48 408),
  ent P "/=" 470 (.int 39 390),
  ent P ":" 472 (.int 11 334),
  ent P ":=" 474 (.int 53 418),
  ent P ";" 476 (.int 13 338),
  ent P "<" 478 (.int 20 352),
  ent P "<<" 480 (.int 33 378),
  ent P "<<=" 482 (.int 44 400),
  ent P "<=" 484 (.int 29 370),
  ent P "=" 486 (.int 22 356),
  ent P "==" 488 (.int 27 366),
  ent P ">" 490 (.int 21 354),
  ent P ">=" 492 (.int 30 372),
  ent P ">>" 493 (.int 34 380),
  ent P ">>=" 494 (.int 45 402),
  ent P "@" 495 (.int 49 410),
  ent P "@=" 496 (.int 50 412),
  ent P "[" 497 (.int 9 330),
  ent P "]" 498 (.int 10 332),
  ent P "^" 499 (.int 32 376),
  ent P "^=" 500 (.int 43 398),
  ent P "{" 501 (.int 25 362),
  ent P "|" 502 (.int 18 348),
  ent P "|=" 503 (.int 42 396),
  ent P "}" 504 (.int 26 364),
  ent P "~" 505 (.int 31 374)]
noncomputable def L85 (P : Params) : Obj := { cls := .type "dict", data := .dict (E85 P) 48 }
noncomputable def L59 : Obj := { cls := .type "type", data := .cls { name := Str.ofString "TupleComp", bases := [.type "object"], mro := [.ref 59, .type "object"], ns := 58, qualname := Str.ofString "TupleComp" }, slots := #[none, none, some (.str (Str.ofString "TupleComp") 242), some (.str (Str.ofString "TupleComp") 250), some (.builtin "object.__new__"), some (.bool true)] }
noncomputable def fn02 : List (Nat × Option Stmt) := [(70, b02 6), (77, b02 7), (84, b02 8), (21, b02 1), (28, b02 2), (35, b02 3), (94, b02 61), (101, b02 62), (108, b02 63), (113, b02 65), (118, b02 66), (125, b02 67), (130, b02 68), (49, (stCls (b02 5))[0]?), (56, (stCls (b02 5))[1]?)]
noncomputable def as02 : List Addr := [3, 4, 58, 59, 85, 49, 56, 70, 77, 84, 21, 28, 35, 94, 101, 108, 113, 118, 125, 130, 48, 55, 69, 76, 83, 20, 27, 34, 93, 100, 107, 112, 117, 124, 129]
noncomputable def seenK (K : Frag) := (fn02.map (fun x => fnSees K x.1), ([3, 58, 59, 85] : List Addr).map fun a => List.lookup a K)
noncomputable def wantK (P : Params) := (fn02.map (fun x => stFn x.2), [some (L3 P), some (L58 P), some L59, some (L85 P)])
noncomputable def seen02 (s : Shared) := (seenK (kAt s.heap as02), (s.heap.isNs cStatics, s.heap.nsMap cStatics sharingNotToldKey, s.heap.nsMap cStatics "sys.int_max_str_digits", s.heap.isNs mainGlobals, s.heap.nsMap mainGlobals (Str.ofString "law")), s.toks, (noted s.heap 76 72, fnCd (kAt s.heap as02) 77, modIn (kAt s.heap as02) 4))
noncomputable def want02 (w : World) := (wantK w.params, (true, (none : Option Value), (none : Option Value), true, some (Value.ref 130)), 570, (true, Value.ref 76, true))
theorem map_two {α β γ : Type} {o : Option α} {f : α → β} {g : α → γ} {x : β} {y : γ} (h1 : o.map f = some x) (h2 : o.map g = some y) : o.map (fun s => (f s, g s)) = some (x, y) := by
  cases o with
  | none => exact nv1 h1
  | some s => obtain rfl := sj h1; obtain rfl := sj h2; rfl
noncomputable abbrev half02 (b : Bool) (w : World) : Prop := (fencedOpening treeTable P02 w 4448).map (fun s₀ => (topFrom treeTable P02 (w.withFollow "special-get-raises" b) 4448 s₀).map (fun s => (openSeen q02 [Str.ofString "EXACT_TOKEN_TYPES"] (importedModules P02.main.body) (fun s => xlAt q02 [] s && recOk [] s) true s, seen02 s))) = some (some (openGood q02 [Str.ofString "EXACT_TOKEN_TYPES"], want02 (w.withFollow "special-get-raises" b)))
theorem left02f (w : World) : half02 false w := by
    delta half02 fencedOpening topFrom staticsOk namesBound gensDone laidKept openGood seen02 seenK fnSees codeIn noted fnCd modIn
    rw [PySem.W.Fast.te10274390034422433532, PySem.W.Fast.te1435165496053646825, PySem.W.Fast.te14289696077712309145, PySem.W.Fast.te14082659384304107361, PySem.W.Fast.te8920871248978507458, PySem.W.Fast.te4857012375875476094, PySem.W.Fast.te1584917186373303978, PySem.W.Fast.te14846217769314788766, PySem.W.Fast.te7966671052430208091, PySem.W.Fast.te5923862056798008813, PySem.W.Fast.te12749700546528644094, PySem.W.Fast.te18344453789297297638, PySem.W.Fast.te4187177175401517315, PySem.W.Fast.te3247288618530077131, PySem.W.Fast.te821141287760084731, PySem.W.Fast.sDec_eq]
    kernel_rfl
theorem left02t (w : World) : half02 true w := by
    delta half02 fencedOpening topFrom staticsOk namesBound gensDone laidKept openGood seen02 seenK fnSees codeIn noted fnCd modIn
    rw [PySem.W.Fast.te10274390034422433532, PySem.W.Fast.te1435165496053646825, PySem.W.Fast.te14289696077712309145, PySem.W.Fast.te14082659384304107361, PySem.W.Fast.te8920871248978507458, PySem.W.Fast.te4857012375875476094, PySem.W.Fast.te1584917186373303978, PySem.W.Fast.te14846217769314788766, PySem.W.Fast.te7966671052430208091, PySem.W.Fast.te5923862056798008813, PySem.W.Fast.te12749700546528644094, PySem.W.Fast.te18344453789297297638, PySem.W.Fast.te4187177175401517315, PySem.W.Fast.te3247288618530077131, PySem.W.Fast.te821141287760084731, PySem.W.Fast.sDec_eq]
    kernel_rfl
theorem left02 : LeftO P02 q02 [Str.ofString "EXACT_TOKEN_TYPES"] (fun s => xlAt q02 [] s && recOk [] s) seen02 want02 4448 true :=
  LeftO.of_split "special-get-raises" fun w => map_two (left02f w) (left02t w)
end
section
inductive DK where
  | i (n : Int)
  | s (x : Str)
  deriving DecidableEq, Inhabited
inductive PV where
  | nul
  | bool (b : Bool)
  | int (i : Int)
  | flt (x : UInt64)
  | str (x : Str)
  | tup (xs : List PV)
  | lst (xs : List PV)
  | dct (es : List (DK × PV))
  | inst (c : Addr) (x : PV)
  | rng (a b c : Int)
  | arg (xs : List PV)
  | obj (v : Value)
  deriving Inhabited
noncomputable def DK.is : DK → Value → Bool
  | .i n, v => Value.isInt n v
  | .s x, v => Value.isStrOf x v
theorem DK.shape_i {n : Int} {v : Value} (h : (DK.i n).is v = true) : ∃ t, v = .int n t := Value.isInt_shape h
theorem DK.shape_s {x : Str} {v : Value} (h : (DK.s x).is v = true) : ∃ t, v = .str x t := Value.isStrOf_shape h
theorem DK.is_inj (v : Value) (a b : DK) (ha : a.is v = true) (hb : b.is v = true) : a = b := by
  cases a with
  | i n =>
    (refine k1_1 (DK.shape_i ha) fun t ž2 => ?_; subst ž2)
    cases b with
    | i m => refine k1_1 (DK.shape_i hb) fun u hu => ?_; injection hu with h; rw [h]
    | s y => refine k1_1 (DK.shape_s hb) fun u hu => ?_; cases hu
  | s x =>
    (refine k1_1 (DK.shape_s ha) fun t ž2 => ?_; subst ž2)
    cases b with
    | i m => refine k1_1 (DK.shape_i hb) fun u hu => ?_; cases hu
    | s y => refine k1_1 (DK.shape_s hb) fun u hu => ?_; injection hu with h; rw [h]
section
variable {prog : Program} {w : World}
theorem dk_eqBool {A : Around} {E : Value → Shared → Prop} {s : Shared} {a b : DK} {u v : Value} {Q : Bool → Shared → Prop} (hu : a.is u = true) (hv : b.is v = true)
    (h : Q (decide (a = b)) s) : wpAny (model prog w) A (eqBool u v) Q E s := by
  cases a with
  | i n =>
    (refine k1_1 (DK.shape_i hu) fun t ž2 => ?_; subst ž2)
    cases b with
    | i m =>
      (refine k1_1 (DK.shape_i hv) fun u' ž2 => ?_; subst ž2)
      refine wpAny_eqBool_int ?_
      have e : (n == m) = decide (DK.i n = DK.i m) := by
        by_cases q : n = m <;> simp [q]
      rw [e]; exact h
    | s y =>
      (refine k1_1 (DK.shape_s hv) fun u' ž2 => ?_; subst ž2)
      have e : decide (DK.i n = DK.s y) = false := by simp
      rw [e] at h
      unfold eqBool
      rw [if_neg (by simp)]
      exact wpAny_bind (EqMixed.eq_int_str (wpAny_truthy_bool h))
  | s x =>
    (refine k1_1 (DK.shape_s hu) fun t ž2 => ?_; subst ž2)
    cases b with
    | i m =>
      (refine k1_1 (DK.shape_i hv) fun u' ž2 => ?_; subst ž2)
      have e : decide (DK.s x = DK.i m) = false := by simp
      rw [e] at h
      unfold eqBool
      rw [if_neg (by simp)]
      exact wpAny_bind (EqMixed.eq_str_int (wpAny_truthy_bool h))
    | s y =>
      (refine k1_1 (DK.shape_s hv) fun u' ž2 => ?_; subst ž2)
      refine wpAny_eqBool_str ?_
      have e : decide (x = y) = decide (DK.s x = DK.s y) := by
        by_cases q : x = y <;> simp [q]
      rw [e]; exact h
end
noncomputable def DK.hash (w : World) : DK → Int
  | .i n => hashInt n
  | .s x => hashStr w x
noncomputable def dkK (prog : Program) (w : World) : PySem.KeyKind prog w DK where
  is := DK.is
  hash := DK.hash w
  inj := DK.is_inj
  byValue := fun k v h => by
    cases k with
    | i n => (refine k1_1 (DK.shape_i h) fun t ž2 => ?_; subst ž2); rfl
    | s x => (refine k1_1 (DK.shape_s h) fun t ž2 => ?_; subst ž2); rfl
  pyHash := fun {A E s k v Q} hv h => by
    cases k with
    | i n => (refine k1_1 (DK.shape_i hv) fun t ž2 => ?_; subst ž2); exact wpAny_pyHash_int h
    | s x => (refine k1_1 (DK.shape_s hv) fun t ž2 => ?_; subst ž2); exact wpAny_pyHash_str h
  eqBool := fun hu hv h => dk_eqBool hu hv h
  «strs» := fun k x t v h => by
    cases k with
    | i n => simp [DK.is, Value.isInt] at h
    | s y =>
      refine k1_1 (DK.shape_s h) fun u hu => ?_
      injection hu with hx
      subst hx
      cases v <;> rfl
noncomputable def PlainTup (h : Heap) (a : Addr) (items : Array Value) : Prop := ∃ n, h.get? a = some { cls := .type "tuple", data := .seq items n }
theorem PlainTup.isTup {h : Heap} {a : Addr} {items : Array Value} (x : PlainTup h a items) : IsTup h a items := let ⟨n, e⟩ := x; ⟨_, e, rfl, n, rfl⟩
structure Gh where
  h : Heap
  T : Tok → Option UInt64
  cd : Option (Addr × Addr)
section
variable (prog : Program) (w : World)
mutual
inductive Rep (G : Gh) : Value → PV → Prop
  | nul : Rep G .none .nul
  | bool (b : Bool) : Rep G (.bool b) (.bool b)
  | int (i : Int) (t : Tok) : Rep G (.int i t) (.int i)
  | flt (x : UInt64) (t : Tok) : G.T t = some x → Rep G (.float x t) (.flt x)
  | str (x : Str) (t : Tok) : Rep G (.str x t) (.str x)
  | tup {a : Addr} {vs : List Value} {xs : List PV} : PlainTup G.h a vs.toArray → RepL G vs xs → Rep G (.ref a) (.tup xs)
  | lst {a : Addr} {vs : List Value} {xs : List PV} : G.h.PlainList a vs.toArray → RepL G vs xs → Rep G (.ref a) (.lst xs)
  | dct {a : Addr} {kvs : List (DK × Value)} {es : List (DK × PV)} : G.h.DictOf (dkK prog w) a kvs → (a == sysModules) = false → RepD G kvs es → Rep G (.ref a) (.dct es)
  | inst {a c d : Addr} {n : Nat} {hh : Int} {t : Tok} {v : Value} {x : PV} : G.h.get? a = some { cls := .ref c, dict := some d, data := .plain } → G.h.get? d = some { cls := .type "dict", data := .dict #[⟨hh, .str (Str.ofString "comp_select_list") t, v⟩] n } → Rep G v x → Rep G (.ref a) (.inst c x)
  | rng {a : Addr} {x y z : Int} {t u v : Tok} : IsRange G.h a x y z t u v → Rep G (.ref a) (.rng x y z)
  | arg {a : Addr} {vs : List Value} {xs : List PV} : G.h.IsList a vs.toArray → RepL G vs xs → Rep G (.ref a) (.arg xs)
  | obj (v : Value) : Rep G v (.obj v)
inductive RepL (G : Gh) : List Value → List PV → Prop
  | nil : RepL G [] []
  | cons {v : Value} {vs : List Value} {x : PV} {xs : List PV} : Rep G v x → RepL G vs xs → RepL G (v :: vs) (x :: xs)
inductive RepD (G : Gh) : List (DK × Value) → List (DK × PV) → Prop
  | nil : RepD G [] []
  | cons {k : DK} {v : Value} {vs : List (DK × Value)} {x : PV} {xs : List (DK × PV)} : Rep G v x → RepD G vs xs → RepD G ((k, v) :: vs) ((k, x) :: xs)
end
end
noncomputable def Sub (G h : Heap) : Prop := ∀ a o, G.get? a = some o → h.get? a = some o
theorem Sub.refl (h : Heap) : Sub h h := fun ž1 ž2 e => e
theorem Sub.trans {a b c : Heap} (x : Sub a b) (y : Sub b c) : Sub a c := fun ž1 ž2 e => y _ _ (x _ _ e)
structure Le (G G' : Gh) : Prop where
  h : Sub G.h G'.h
  T : ∀ t x, G.T t = some x → G'.T t = some x
  cd : G'.cd = G.cd
theorem Le.refl (G : Gh) : Le G G := ⟨Sub.refl _, fun ž1 ž2 e => e, rfl⟩
theorem Le.trans {a b c : Gh} (x : Le a b) (y : Le b c) : Le a c := ⟨x.h.trans y.h, fun t v e => y.T t v (x.T t v e), y.cd.trans x.cd⟩
structure In (G : Gh) (s : Shared) : Prop where
  h : Sub G.h s.heap
  pos : 0 < s.toks
  T : ∀ t x, G.T t = some x → t ≠ 0 ∧ t < s.toks
  cd : ∀ c P, G.cd = some (c, P) → (∃ o, G.h.get? c = some o) ∧ G.h.get? P = none ∧ P ≠ cStatics ∧ ∃ ps, s.heap.IsCode c P ps ∧ s.heap.TableAt c P ps
section
variable {prog : Program} {w : World} {G G' : Gh}
theorem DictOf.sub {G G' : Heap} {a : Addr} {kvs : List (DK × Value)} (x : G.DictOf (dkK prog w) a kvs) (k : Sub G G') : G'.DictOf (dkK prog w) a kvs :=
  let ⟨o, es, ep, ho, r⟩ := x; ⟨o, es, ep, k _ _ ho, r⟩
theorem PlainList.sub {G G' : Heap} {a : Addr} {vs : Array Value} (x : G.PlainList a vs) (k : Sub G G') : G'.PlainList a vs := let ⟨n, e⟩ := x; ⟨n, k _ _ e⟩
theorem PlainTup.sub {G G' : Heap} {a : Addr} {vs : Array Value} (x : PlainTup G a vs) (k : Sub G G') : PlainTup G' a vs := let ⟨n, e⟩ := x; ⟨n, k _ _ e⟩
theorem IsList.sub {G G' : Heap} {a : Addr} {vs : Array Value} (x : G.IsList a vs) (k : Sub G G') : G'.IsList a vs := let ⟨o, ho, r⟩ := x; ⟨o, k _ _ ho, r⟩
noncomputable def Sh (prog : Program) (w : World) (G : Gh) (v : Value) : PV → Prop
  | .nul => v = .none
  | .bool b => v = .bool b
  | .int i => ∃ t, v = .int i t
  | .flt x => ∃ t, v = .float x t ∧ G.T t = some x
  | .str x => ∃ t, v = .str x t
  | .tup xs => ∃ a vs, v = .ref a ∧ PlainTup G.h a (List.toArray vs) ∧ RepL prog w G vs xs
  | .lst xs => ∃ a vs, v = .ref a ∧ G.h.PlainList a (List.toArray vs) ∧ RepL prog w G vs xs
  | .dct es => ∃ a kvs, v = .ref a ∧ G.h.DictOf (dkK prog w) a kvs ∧ (a == sysModules) = false ∧ RepD prog w G kvs es
  | .inst c x => ∃ a d n hh t u, v = .ref a ∧ G.h.get? a = some { cls := .ref c, dict := some d, data := .plain } ∧ G.h.get? d = some { cls := .type "dict", data := .dict #[⟨hh, .str (Str.ofString "comp_select_list") t, u⟩] n } ∧ Rep prog w G u x
  | .rng x y z => ∃ a t u z', v = .ref a ∧ IsRange G.h a x y z t u z'
  | .arg xs => ∃ a vs, v = .ref a ∧ G.h.IsList a (List.toArray vs) ∧ RepL prog w G vs xs
  | .obj u => v = u
theorem Rep.sh {v : Value} {p : PV} (h : Rep prog w G v p) : Sh prog w G v p := by
  cases h with
  | nul => exact rfl
  | bool b => exact rfl
  | int i t => exact ⟨t, rfl⟩
  | flt x t e => exact ⟨t, rfl, e⟩
  | str x t => exact ⟨t, rfl⟩
  | tup h r => exact ⟨_, _, rfl, h, r⟩
  | lst h r => exact ⟨_, _, rfl, h, r⟩
  | dct h q r => exact ⟨_, _, rfl, h, q, r⟩
  | inst h1 h2 r => exact ⟨_, _, _, _, _, _, rfl, h1, h2, r⟩
  | rng h => exact ⟨_, _, _, _, rfl, h⟩
  | arg h r => exact ⟨_, _, rfl, h, r⟩
  | obj v => exact rfl
theorem Rep.mono (k : Le G G') {v : Value} {p : PV} (h : Rep prog w G v p) : Rep prog w G' v p :=
  Rep.rec (motive_1 := fun v p ž1 => Rep prog w G' v p) (motive_2 := fun vs ps ž1 => RepL prog w G' vs ps) (motive_3 := fun vs ps ž1 => RepD prog w G' vs ps)
    .nul .bool .int (fun x t e => .flt x t (k.T _ _ e)) .str (fun h ž1 r => .tup (PlainTup.sub h k.h) r) (fun h ž1 r => .lst (PlainList.sub h k.h) r) (fun h q ž1 r => .dct (DictOf.sub h k.h) q r)
    (fun h1 h2 ž1 r => .inst (k.h _ _ h1) (k.h _ _ h2) r) (fun h => .rng (k.h _ _ h)) (fun h ž1 r => .arg (IsList.sub h k.h) r) .obj .nil (fun ž1 ž2 h r => .cons h r) .nil (fun ž1 ž2 h r => .cons h r) h
theorem RepL.mono (k : Le G G') {vs : List Value} {ps : List PV} (h : RepL prog w G vs ps) : RepL prog w G' vs ps := by
  induction vs generalizing ps with
  | nil => cases h; exact .nil
  | cons v vs ih => cases h with | cons h r => exact .cons (Rep.mono k h) (ih r)
theorem RepD.mono (k : Le G G') {vs : List (DK × Value)} {ps : List (DK × PV)} (h : RepD prog w G vs ps) : RepD prog w G' vs ps := by
  induction vs generalizing ps with
  | nil => cases h; exact .nil
  | cons v vs ih => cases h with | cons h r => exact .cons (Rep.mono k h) (ih r)
theorem RepL.inv1 {vs p} (h : RepL prog w G vs [p]) : ∃ v, vs = [v] ∧ Rep prog w G v p := by
  cases h with | cons h r => cases r; exact ⟨_, rfl, h⟩
theorem RepL.inv {vs p ps} (h : RepL prog w G vs (p :: ps)) : ∃ v us, vs = v :: us ∧ Rep prog w G v p ∧ RepL prog w G us ps := by
  cases h with | cons h r => exact ⟨_, _, rfl, h, r⟩
theorem RepL.inv2 {vs p q} (h : RepL prog w G vs [p, q]) : ∃ v u, vs = [v, u] ∧ Rep prog w G v p ∧ Rep prog w G u q := by
  (refine k2_3 h.inv fun v _ ž3 => ?_; subst ž3; intro h1 h)
  (refine k1_2 h.inv1 fun u ž2 => ?_; subst ž2; intro h2)
  exact ⟨v, u, rfl, h1, h2⟩
theorem RepL.inv3 {vs p q r} (h : RepL prog w G vs [p, q, r]) : ∃ v u x, vs = [v, u, x] ∧ Rep prog w G v p ∧ Rep prog w G u q ∧ Rep prog w G x r := by
  (refine k2_3 h.inv fun v _ ž3 => ?_; subst ž3; intro h1 h)
  (refine k2_3 h.inv2 fun u x ž3 => ?_; subst ž3; intro h2 h3)
  exact ⟨v, u, x, rfl, h1, h2, h3⟩
theorem RepL.length {vs ps} (h : RepL prog w G vs ps) : vs.length = ps.length := by
  induction vs generalizing ps with
  | nil => cases h; rfl
  | cons v vs ih => cases h with | cons _ r => simp [ih r]
theorem RepL.append {vs ps us qs} (h : RepL prog w G vs ps) (k : RepL prog w G us qs) : RepL prog w G (vs ++ us) (ps ++ qs) := by
  induction vs generalizing ps with
  | nil => cases h; exact k
  | cons v vs ih => cases h with | cons h r => exact .cons h (ih r)
theorem RepL.get {vs ps} (h : RepL prog w G vs ps) : ∀ {i : Nat} {p}, ps[i]? = some p → ∃ v, vs[i]? = some v ∧ Rep prog w G v p := by
  induction vs generalizing ps with
  | nil => cases h; intro i p e; simp at e
  | cons v vs ih =>
    cases h with
    | cons h r =>
      intro i p e
      cases i with
      | zero => simp at e; subst e; exact ⟨v, rfl, h⟩
      | succ i => simpa using ih r (by simpa using e)
theorem RepL.getV {vs ps} (h : RepL prog w G vs ps) : ∀ {i : Nat} {v}, vs[i]? = some v → ∃ p, ps[i]? = some p ∧ Rep prog w G v p := by
  induction vs generalizing ps with
  | nil => cases h; intro i p e; simp at e
  | cons v vs ih =>
    cases h with
    | cons h r =>
      intro i p e
      cases i with
      | zero => simp at e; subst e; exact ⟨_, rfl, h⟩
      | succ i => simpa using ih r (by simpa using e)
theorem RepL.take {vs ps} (h : RepL prog w G vs ps) : ∀ n, RepL prog w G (vs.take n) (ps.take n) := by
  induction vs generalizing ps with
  | nil => cases h; intro n; simpa using RepL.nil
  | cons v vs ih =>
    cases h with
    | cons h r =>
      intro n
      cases n with
      | zero => exact .nil
      | succ n => exact .cons h (ih r n)
theorem RepL.drop {vs ps} (h : RepL prog w G vs ps) : ∀ n, RepL prog w G (vs.drop n) (ps.drop n) := by
  induction vs generalizing ps with
  | nil => cases h; intro n; simpa using RepL.nil
  | cons v vs ih =>
    cases h with
    | cons h r =>
      intro n
      cases n with
      | zero => exact .cons h r
      | succ n => exact ih r n
theorem RepL.set {vs ps} (h : RepL prog w G vs ps) {v p} (hp : Rep prog w G v p) : ∀ n, RepL prog w G (vs.set n v) (ps.set n p) := by
  induction vs generalizing ps with
  | nil => cases h; intro n; simpa using RepL.nil
  | cons u vs ih =>
    cases h with
    | cons h r =>
      intro n
      cases n with
      | zero => exact .cons hp r
      | succ n => exact .cons h (ih r n)
theorem RepD.keys {vs ps} (h : RepD prog w G vs ps) : vs.map (·.1) = ps.map (·.1) := by
  induction vs generalizing ps with
  | nil => cases h; rfl
  | cons v vs ih => cases h with | cons _ r => simp [ih r]
theorem RepD.length {vs ps} (h : RepD prog w G vs ps) : vs.length = ps.length := by
  have := congrArg List.length h.keys
  simpa using this
theorem RepD.get {vs ps} (h : RepD prog w G vs ps) : ∀ {i : Nat} {k p}, ps[i]? = some (k, p) → ∃ v, vs[i]? = some (k, v) ∧ Rep prog w G v p := by
  induction vs generalizing ps with
  | nil => cases h; intro i k p e; simp at e
  | cons v vs ih =>
    cases h with
    | cons h r =>
      intro i k p e
      cases i with
      | zero => simp at e; (refine k0_2 e fun ž1 => ?_; subst ž1; intro ž2; subst ž2); exact ⟨_, rfl, h⟩
      | succ i => simpa using ih r (by simpa using e)
end
noncomputable def isTab (o : Obj) : Bool := match o.data with
  | .fields _ => o.cls == .none
  | _ => false
theorem isTab_dict {o : Obj} {xs : Array DictEntry} {n : Nat} (h : o.data = .dict xs n) : isTab o = false := by unfold isTab; rw [h]
theorem isTab_cell {o : Obj} {v : Option Value} (h : o.data = .cell v) : isTab o = false := by unfold isTab; rw [h]
noncomputable def Old (cd : Option (Addr × Addr)) (h₀ h : Heap) : Prop := OldK h₀ h ∧ ∀ c P, cd = some (c, P) → ∃ ps, h₀.TableAt c P ps
theorem Old.step_keeps {cd : Option (Addr × Addr)} {h₀ h h' : Heap} (x : Old cd h₀ h) (hk : ∀ b o, h.get? b = some o → h'.get? b = some o) : Old cd h₀ h' := ⟨x.1.step_keeps hk, x.2⟩
theorem Old.step_same {cd : Option (Addr × Addr)} {h₀ h h' : Heap} (x : Old cd h₀ h) {a : Addr} (ha : h₀.objs.size ≤ a) (hs : Heap.SameBut a h h') : Old cd h₀ h' := ⟨x.1.step_same ha hs, x.2⟩
structure Ext (G : Gh) (s : Shared) (G' : Gh) (s' : Shared) : Prop where
  sub : Le G G'
  inn : In G' s'
  new : ∀ a o, G'.h.get? a = some o → G.h.get? a = some o ∨ s.heap.objs.size ≤ a
  keep : ∀ a o, isTab o = false → s.heap.get? a = some o → s'.heap.get? a = some o
  size : s.heap.objs.size ≤ s'.heap.objs.size
  os : s'.os = s.os
  gens : AllBare s.gens → AllBare s'.gens
  old : ∀ h₀ : Heap, h₀.objs.size ≤ s.heap.objs.size → Old G.cd h₀ s.heap → Old G'.cd h₀ s'.heap
theorem Ext.refl {G : Gh} {s : Shared} (h : In G s) : Ext G s G s :=
  ⟨Le.refl _, h, fun ž1 ž2 e => .inl e, fun ž1 ž2 ž3 e => e, Nat.le_refl _, rfl, fun x => x, fun ž1 ž2 x => x⟩
theorem Ext.trans {G G₁ G₂ : Gh} {s s₁ s₂ : Shared} (x : Ext G s G₁ s₁) (y : Ext G₁ s₁ G₂ s₂) : Ext G s G₂ s₂ :=
  ⟨x.sub.trans y.sub, y.inn, fun a o e => (y.new a o e).elim (fun e => x.new a o e) (fun l => .inr (Nat.le_trans x.size l)), fun a o c e => y.keep a o c (x.keep a o c e),
    Nat.le_trans x.size y.size, y.os.trans x.os, fun z => y.gens (x.gens z), fun h₀ hz z => y.old h₀ (Nat.le_trans hz x.size) (x.old h₀ hz z)⟩
theorem In.toks {G : Gh} {s : Shared} (h : In G s) {tk : Nat} (ht : s.toks ≤ tk) : In G { s with toks := tk } :=
  ⟨h.h, Nat.lt_of_lt_of_le h.pos ht, fun t x e => ⟨(h.T t x e).1, Nat.lt_of_lt_of_le (h.T t x e).2 ht⟩, h.cd⟩
theorem Ext.toks {G : Gh} {s : Shared} (h : In G s) {tk : Nat} (ht : s.toks ≤ tk) : Ext G s G { s with toks := tk } :=
  ⟨Le.refl _, h.toks ht, fun ž1 ž2 e => .inl e, fun ž1 ž2 ž3 e => e, Nat.le_refl _, rfl, fun x => x, fun ž1 ž2 x => x⟩
theorem Ext.grow {G : Gh} {s : Shared} {h' : Heap} {tk : Nat} (h : In G s) (ht : s.toks ≤ tk) (hk : ∀ b o, s.heap.get? b = some o → h'.get? b = some o) (hz : s.heap.objs.size ≤ h'.objs.size) : Ext G s G { s with heap := h', toks := tk } :=
  ⟨Le.refl _, ⟨fun a o e => hk a o (h.h a o e), (h.toks ht).pos, (h.toks ht).T, fun c P e => let ⟨x, u, y, ps, z, t⟩ := h.cd c P e; ⟨x, u, y, ps, z.keeps hk, t.keeps hk⟩⟩, fun ž1 ž2 e => .inl e, fun a o ž1 e => hk a o e, hz, rfl, fun x => x, fun ž1 ž2 x => x.step_keeps hk⟩
theorem Ext.push {G : Gh} {s : Shared} {tk : Nat} (h : In G s) (ht : s.toks ≤ tk) (o : Obj) : Ext G s G { s with heap := s.heap.push o, toks := tk } :=
  Ext.grow h ht (fun ž1 ž2 e => Heap.get?_push_of_some o e) (by rw [Heap.size_push]; lia)
noncomputable def res (h : Heap) (P : Addr → Prop) : Heap := by
  classical exact ⟨h.objs.mapIdx fun i o => if P i then o else { cls := .none, data := .freed }, h.life⟩
theorem res_get (h : Heap) (P : Addr → Prop) (a : Addr) (o : Obj) : (res h P).get? a = some o ↔ P a ∧ h.get? a = some o := by
  rw [Heap.get?_some_iff, Heap.get?_some_iff]
  unfold res
  simp only [Array.getElem?_mapIdx]
  cases e : h.objs[a]? with
  | none => simp
  | some ob =>
    simp only [Option.map_some, Option.some.injEq]
    by_cases p : P a
    · simp only [p, if_true, true_and]
    · simp only [p, if_false, false_and, iff_false]
      rintro ⟨rfl, hf⟩
      simp [Obj.isFreed] at hf
theorem In.ne_tab {G : Gh} {s : Shared} (h : In G s) {a : Addr} {o : Obj} (ha : s.heap.get? a = some o) (ht : isTab o = false) : ∀ c P, G.cd = some (c, P) → P ≠ a := fun c P e q => by
  obtain ⟨_, _, _, ps, _, ⟨_, tp⟩⟩ := h.cd c P e
  rw [q, ha] at tp
  obtain rfl := sj tp
  exact nv3 ht
theorem cdNone {h : Heap} {P a : Addr} {h' : Heap} (u : h'.get? P = none) (hne : P ≠ a) : (res h fun b => (∃ ob, h'.get? b = some ob) ∨ b = a).get? P = none := by
  cases q : (res h fun b => (∃ ob, h'.get? b = some ob) ∨ b = a).get? P with
  | none => rfl
  | some o =>
    rcases ((res_get ..).mp q).1 with ⟨ob, e⟩ | e
    · rw [u] at e; exact nv1 e
    · exact absurd e hne
set_option tactic.hygienic true in
theorem Ext.freeze' {G G' : Gh} {s s' : Shared} (x : Ext G s G' s') {a : Addr} {o : Obj} (ha : s'.heap.get? a = some o) (hz : s.heap.objs.size ≤ a) (ht : isTab o = false := by rfl) :
    ∃ G₂, Ext G s G₂ s' ∧ Le G' G₂ ∧ G₂.h.get? a = some o ∧ ∀ b o', G₂.h.get? b = some o' → G'.h.get? b = some o' ∨ b = a := by
  refine ⟨⟨res s'.heap fun b => (∃ ob, G'.h.get? b = some ob) ∨ b = a, G'.T, G'.cd⟩, ?_, ?_, ?_, fun b o' e => ?_⟩
  · refine ⟨⟨fun b ob e => ?_, x.sub.T, x.sub.cd⟩, ⟨fun b ob e => ((res_get ..).mp e).2, x.inn.pos, x.inn.T, fun c P e => let ⟨⟨oc, hoc⟩, u, r⟩ := x.inn.cd c P e; ⟨⟨oc, (res_get ..).mpr ⟨.inl ⟨oc, hoc⟩, x.inn.h c oc hoc⟩⟩, cdNone u fun q => In.ne_tab x.inn ha ht c P e q, r⟩⟩, fun b ob e => ?_, x.keep, x.size, x.os, x.gens, x.old⟩
    · exact (res_get ..).mpr ⟨.inl ⟨ob, x.sub.h b ob e⟩, x.inn.h b ob (x.sub.h b ob e)⟩
    · refine k0_2 ((res_get ..).mp e) fun p q => ?_
      rcases p with ⟨ob', e'⟩ | rfl
      · have := x.inn.h b ob' e'
        rw [this] at q
        cases (q)
        exact x.new b ob e'
      · exact .inr hz
  · refine ⟨fun b ob e => ?_, fun ž1 ž2 e => e, rfl⟩
    exact (res_get ..).mpr ⟨.inl ⟨ob, e⟩, x.inn.h b ob e⟩
  · exact (res_get ..).mpr ⟨.inr rfl, ha⟩
  · refine k0_2 ((res_get ..).mp e) fun p q => ?_
    rcases p with ⟨ob', e'⟩ | rfl
    · have := x.inn.h b ob' e'
      rw [this] at q; cases (q)
      exact .inl e'
    · exact .inr rfl
theorem Ext.freeze {G G' : Gh} {s s' : Shared} (x : Ext G s G' s') {a : Addr} {o : Obj} (ha : s'.heap.get? a = some o) (hz : s.heap.objs.size ≤ a) (ht : isTab o = false := by rfl) :
    ∃ G₂, Ext G s G₂ s' ∧ Le G' G₂ ∧ G₂.h.get? a = some o := let ⟨G₂, h1, h2, h3, _⟩ := x.freeze' ha hz ht; ⟨G₂, h1, h2, h3⟩
theorem Ext.newTok {G : Gh} {s : Shared} (h : In G s) (x : UInt64) : ∃ G', Ext G s G' { s with toks := s.toks + 1 } ∧ G'.T s.toks = some x := by
  refine ⟨⟨G.h, fun t => if t = s.toks then some x else G.T t, G.cd⟩, ⟨⟨Sub.refl _, fun t y e => ?_, rfl⟩, ⟨h.h, Nat.succ_pos _, fun t y e => ?_, h.cd⟩, fun ž1 ž2 e => .inl e, fun ž1 ž2 ž3 e => e, Nat.le_refl _, rfl, fun x => x, fun ž1 ž2 x => x⟩, by simp⟩
  · have := (h.T t y e).2
    show (if t = s.toks then some x else G.T t) = some y
    rw [if_neg (Nat.ne_of_lt this)]; exact e
  · dsimp only at e
    refine ite_k e (fun _ e => ?_) fun _ e => ?_
    · rename_i q
      subst q
      exact ⟨Nat.pos_iff_ne_zero.mp h.pos, Nat.lt_succ_self _⟩
    · exact ⟨(h.T t y e).1, Nat.lt_succ_of_lt (h.T t y e).2⟩
theorem In.ne_code {G : Gh} {s : Shared} (h : In G s) {a : Addr} (ha : G.h.get? a = none) : ∀ c P, G.cd = some (c, P) → c ≠ a := fun c P e q => by
  (refine k0_2 (h.cd c P e) fun ž1 => ?_; obtain ⟨o, ho⟩ := ž1; intro _)
  rw [q, ha] at ho; exact nv1 ho
theorem In.cdW {G : Gh} {s : Shared} (h : In G s) {wr : List Addr} {h' : Heap} (hG : ∀ a ∈ wr, G.h.get? a = none) (hP : ∀ c P, G.cd = some (c, P) → P ∉ wr) (hk : ∀ b o, b ∉ wr → s.heap.get? b = some o → h'.get? b = some o) :
    ∀ c P, G.cd = some (c, P) → (∃ o, G.h.get? c = some o) ∧ G.h.get? P = none ∧ P ≠ cStatics ∧ ∃ ps, h'.IsCode c P ps ∧ h'.TableAt c P ps := fun c P e => by
  have hc : c ∉ wr := fun m => h.ne_code (hG c m) c P e rfl
  have hPw := hP c P e
  obtain ⟨x, u, y, ps, ⟨o, vs, file, tf, flags, tg, inF, text, tt, op, a, r1, r2, r3, r4, r5, r6, b, r⟩, ⟨⟨o', vs', e', r'⟩, t'⟩⟩ := h.cd c P e
  exact ⟨x, u, y, ps, ⟨o, vs, file, tf, flags, tg, inF, text, tt, op, hk _ _ hc a, r1, r2, r3, r4, r5, r6, hk _ _ hPw b, r⟩, ⟨⟨o', vs', hk _ _ hc e', r'⟩, hk _ _ hPw t'⟩⟩
end
section
structure Wd where
  prog : Program
  w : World
  K : Frag
  mg : Str → Option Value
  mb : Str → Option Value
  mc : Str → Option Value
  cd : Option (Addr × Addr)
noncomputable abbrev Wd.M (C : Wd) : Model := model C.prog C.w
noncomputable abbrev Wd.Rep (C : Wd) := Mine.Rep C.prog C.w
noncomputable abbrev Wd.RepL (C : Wd) := Mine.RepL C.prog C.w
noncomputable abbrev Wd.RepD (C : Wd) := Mine.RepD C.prog C.w
noncomputable abbrev Wd.dk (C : Wd) := dkK C.prog C.w
structure Bs (C : Wd) (G : Gh) : Prop where
  X : C.K.In G.h
  g : G.h.Ns mainGlobals C.mg
  b : G.h.Ns builtinsNs C.mb
  c : G.h.Ns cStatics C.mc
  dig : C.mc "sys.int_max_str_digits" = none
  tell : C.mc sharingNotToldKey = none
  lim : G.h.NoLimit
  blt : ∀ x : Str, x ≠ "__name__" → C.mb x = bootBuiltins x
  cd : G.cd = C.cd
theorem Bs.sub {C : Wd} {G G' : Gh} (x : Bs C G) (k : Le G G') : Bs C G' :=
  ⟨x.X.keeps k.h, x.g.keeps k.h, x.b.keeps k.h, x.c.keeps k.h, x.dig, x.tell, x.lim.keeps k.h, x.blt, k.cd.trans x.cd⟩
structure Fd where
  names : List (Str × NameKind)
  nm : List (Str × Nat)
  own : List Str
  next : Nat
  cd : Option Addr
noncomputable def Fd.wr (D : Fd) (x : Str) : Bool := match D.names.lookup x with
  | some .local => true
  | some .cell => D.own.contains x
  | _ => false
inductive LV where
  | pv (p : PV)
  | ol (xs : List PV)
  | od (es : List (DK × PV))
  deriving Inhabited
noncomputable abbrev Sig := Nat → Option LV
noncomputable def Sig.set (σ : Sig) (i : Nat) (v : LV) : Sig := fun j => if j = i then some v else σ j
@[simp] theorem Sig.set_self (σ : Sig) (i : Nat) (v : LV) : σ.set i v i = some v := by simp [Sig.set]
theorem Sig.set_ne (σ : Sig) {i j : Nat} (v : LV) (h : j ≠ i) : σ.set i v j = σ j := by simp [Sig.set, h]
structure Rm (d : Nat) (A : Around) : Prop where
  handled : A.handled = none
  depth : A.depth + d < recursionLimit
  units : A.units + 8 * d + 200 < cLine
structure EnvOk (D : Fd) (env : Env) : Prop where
  kind : env.scope.kind = .function
  names : env.scope.names = D.names
  glob : env.globals = mainGlobals
  blt : env.builtins = builtinsNs
  cells : ∀ x, D.names.lookup x = some .cell → ∃ c, env.cells.lookup x = some c
  cellsF : ∀ x, D.names.lookup x = some .free → ∃ c, env.cells.lookup x = some c
  code : ∀ c, D.cd = some c → env.code = .ref c
theorem EnvOk.kindOf {D : Fd} {env : Env} (h : EnvOk D env) (x : Str) : env.kindOf x = D.names.lookup x := by unfold Env.kindOf; rw [h.names]
noncomputable def At (env : Env) (m : Str → Option Value) (h : Heap) (x : Str) (v : Value) : Prop := match env.kindOf x with
  | some .local => m x = some v
  | some .cell => ∃ c, env.cells.lookup x = some c ∧ h.IsCell c (some v)
  | some .free => ∃ c, env.cells.lookup x = some c ∧ h.IsCell c (some v)
  | _ => False
noncomputable def LRep (C : Wd) (G : Gh) (h : Heap) (Mu : Addr → Prop) (a : Addr) (v : Value) : LV → Prop
  | .pv p => C.Rep G v p
  | .ol xs => v = .ref a ∧ Mu a ∧ ∃ vs, h.PlainList a vs.toArray ∧ C.RepL G vs xs
  | .od es => v = .ref a ∧ Mu a ∧ (a == sysModules) = false ∧ ∃ kvs, h.DictOf C.dk a kvs ∧ C.RepD G kvs es
theorem LRep.mu {C : Wd} {G : Gh} {h : Heap} {Mu : Addr → Prop} {a : Addr} {v : Value} {lv : LV} (x : LRep C G h Mu a v lv) (ho : (match lv with | .pv _ => false | _ => true) = true) : Mu a := by
  cases lv with
  | pv p => exact nv4 ho
  | ol xs => exact x.2.1
  | od es => exact x.2.1
noncomputable def LV.own : LV → Bool
  | .pv _ => false
  | _ => true
noncomputable def VarOk (C : Wd) (D : Fd) (G : Gh) (Mu : Addr → Prop) (env : Env) (σ : Sig) (h : Heap) (m : Str → Option Value) (α : Nat → Addr) : Prop :=
  ∀ x i lv, D.nm.lookup x = some i → σ i = some lv → ∃ v, At env m h x v ∧ LRep C G h Mu (α i) v lv
noncomputable def OwnOk (Mu : Addr → Prop) (env : Env) (σ : Sig) (α : Nat → Addr) : Prop :=
  ∀ i lv, σ i = some lv → lv.own = true → Mu (α i) ∧ α i ≠ env.locals ∧ (∀ n c, env.cells.lookup n = some c → α i ≠ c) ∧ ∀ j lv', σ j = some lv' → lv'.own = true → α i = α j → i = j
structure St (C : Wd) (D : Fd) (G : Gh) (Mu : Addr → Prop) (env : Env) (σ : Sig) (s : Shared) : Prop where
  sub : In G s
  base : Bs C G
  mu : ∀ a, Mu a → G.h.get? a = none ∧ a < s.heap.objs.size
  loc : Mu env.locals
  cel : ∀ n c, env.cells.lookup n = some c → Mu c ∧ c ≠ env.locals ∧ ∃ v, s.heap.IsCell c v
  apart : ∀ n n' c, env.cells.lookup n = some c → env.cells.lookup n' = some c → n = n'
  var : ∃ (m : Str → Option Value) (α : Nat → Addr), s.heap.Ns env.locals m ∧ VarOk C D G Mu env σ s.heap m α ∧ OwnOk Mu env σ α
section
variable {C : Wd} {D : Fd} {G G' : Gh} {Mu : Addr → Prop} {env : Env} {σ : Sig} {s s' : Shared}
theorem Ext.plainList (x : Ext G s G' s') {a : Addr} {vs : Array Value} (h : s.heap.PlainList a vs) : s'.heap.PlainList a vs := by
  refine k1_1 h fun n ho => ?_
  exact ⟨n, x.keep a _ rfl ho⟩
theorem Ext.dictOf (x : Ext G s G' s') {a : Addr} {kvs : List (DK × Value)} (h : s.heap.DictOf C.dk a kvs) : s'.heap.DictOf C.dk a kvs := by
  refine k3_4 h fun o es ep ho hc hd r => ?_
  exact ⟨o, es, ep, x.keep a o (isTab_dict hd) ho, hc, hd, r⟩
theorem St.ext (S : St C D G Mu env σ s) (x : Ext G s G' s') : St C D G' Mu env σ s' := by
  refine k2_3 S.var fun m α hn hv ho => ?_
  have hn' : s'.heap.Ns env.locals m := by
    refine k3_3 hn fun o es ep h1 h2 r => ?_
    exact ⟨o, es, ep, x.keep _ o (isTab_dict h2) h1, h2, r⟩
  have hcell : ∀ c v, s.heap.IsCell c v → s'.heap.IsCell c v := fun c v ⟨o, ho, hd⟩ => ⟨o, x.keep c o (isTab_cell hd) ho, hd⟩
  refine ⟨x.inn, S.base.sub x.sub, fun a ha => ⟨?_, Nat.lt_of_lt_of_le (S.mu a ha).2 x.size⟩, S.loc, fun n c hm => ?_, S.apart, m, α, hn', fun y i lv hy hl => ?_, ho⟩
  · cases e : G'.h.get? a with
    | none => rfl
    | some o =>
      refine Or.elim (x.new a o e) (fun e' => ?_) fun e' => ?_
      · rw [(S.mu a ha).1] at e'; exact nv1 e'
      · exact absurd (S.mu a ha).2 (Nat.not_lt.mpr e')
  · obtain ⟨h1, h2, v, h3⟩ := S.cel n c hm
    exact ⟨h1, h2, v, hcell c v h3⟩
  · refine k1_2 (hv y i lv hy hl) fun v h1 h2 => ?_
    refine ⟨v, ?_, ?_⟩
    · unfold At at h1 ⊢
      split at h1
      · exact h1
      · refine k1_2 h1 fun c hc hx => ?_; exact ⟨c, hc, hcell c _ hx⟩
      · refine k1_2 h1 fun c hc hx => ?_; exact ⟨c, hc, hcell c _ hx⟩
      · exact h1
    · cases lv with
      | pv p => exact Rep.mono x.sub h2
      | ol xs => obtain ⟨h1, h2, vs, h3, h4⟩ := h2; exact ⟨h1, h2, vs, x.plainList h3, RepL.mono x.sub h4⟩
      | od es => obtain ⟨h1, h2, h3, kvs, h4, h5⟩ := h2; exact ⟨h1, h2, h3, kvs, x.dictOf h4, RepD.mono x.sub h5⟩
end
inductive Done (C : Wd) (G : Gh) (s : Shared) (r : PV) (x : Value) (s' : Shared) : Prop
  | intro (G' : Gh) (e : Ext G s G' s') (h : C.Rep G' x r)
inductive DoneS (C : Wd) (G : Gh) (s : Shared) (ps : List PV) (vs : List Value) (s' : Shared) : Prop
  | intro (G' : Gh) (e : Ext G s G' s') (h : C.RepL G' vs ps)
inductive DoneB (G : Gh) (s : Shared) (b r : Bool) (s' : Shared) : Prop
  | intro (G' : Gh) (e : Ext G s G' s') (h : r = b)
noncomputable def EV (C : Wd) (d : Nat) (D : Fd) (e : Expr) (f : Sig → Option PV) : Prop :=
  ∀ (A : Around) (E : Value → Shared → Prop) (env : Env) (σ : Sig) (s : Shared) (G : Gh) (Mu : Addr → Prop) (p : PV), Rm d A → EnvOk D env → St C D G Mu env σ s → f σ = some p →
    wpAny C.M A (eval e env) (Done C G s p) E s
noncomputable def IT (C : Wd) (d : Nat) (D : Fd) (e : Expr) (f : Sig → Option Bool) : Prop :=
  ∀ (A : Around) (E : Value → Shared → Prop) (env : Env) (σ : Sig) (s : Shared) (G : Gh) (Mu : Addr → Prop) (b : Bool), Rm d A → EnvOk D env → St C D G Mu env σ s → f σ = some b →
    wpAny C.M A (isTrue e env (eval e env)) (DoneB G s b) E s
section
variable {C : Wd} {d : Nat} {D : Fd}
theorem bind2 {A : Around} {E : Value → Shared → Prop} {env : Env} {σ : Sig} {s : Shared} {G : Gh} {Mu : Addr → Prop} {e : Expr} {f : Sig → Option PV} {p : PV} {Q : Value → Shared → Prop}
    (h : EV C d D e f) (hr : Rm d A) (he : EnvOk D env) (hs : St C D G Mu env σ s) (hf : f σ = some p)
    (k : ∀ v s₁ G₁, Ext G s G₁ s₁ → C.Rep G₁ v p → St C D G₁ Mu env σ s₁ → Q v s₁) : wpAny C.M A (eval e env) Q E s :=
  wpAny_mono (h A E env σ s G Mu p hr he hs hf) (fun v s₁ ⟨G₁, x, r⟩ => k v s₁ G₁ x r (hs.ext x)) fun ž1 ž2 h => h
noncomputable def vv (i : Nat) : Sig → Option PV := fun σ => match σ i with
  | some (.pv p) => some p
  | _ => none
set_option tactic.hygienic true in
theorem EV.var {x : Str} {pos : Pos} (i : Nat) (hx : D.nm.lookup x = some i := by kernel_rfl) (hd : (x == ("__debug__" : Str)) = false := by kernel_rfl) (hc : (x == ("__classdict__" : Str)) = false := by kernel_rfl) : EV C d D (.Name x pos) (vv i) := by
  intro A E env σ s G Mu p hr he hs hf
  refine k2_3 hs.var fun m α hn hv ho => ?_
  unfold vv at hf
  split at hf
  · rename_i q hq
    cases (hf)
    refine k1_2 (hv x i _ hx hq) fun v h1 h2 => ?_
    have fin : Done C G s p v s := ⟨G, Ext.refl hs.sub, h2⟩
    refine wpAny_Name ?_ hd
    unfold At at h1
    split at h1
    · rename_i hk'; exact wpAny_loadName_local he.kind hk' hn h1 fin
    · rename_i hk'; refine k1_2 h1 fun c hc' hcell => ?_; exact wpAny_loadName_cell he.kind hk' hc' hcell fin
    · rename_i hk'; refine k1_2 h1 fun c hc' hcell => ?_; exact wpAny_loadName_free he.kind hk' hc' hcell fin hc
    · exact h1.elim
  · cases (hf)
noncomputable def cc (p : PV) : Sig → Option PV := fun ž1 => some p
theorem EV.glob {x : Str} {pos : Pos} {v : Value} (p : PV) (hx : D.names.lookup x = some .globalImplicit) (hv : nsIn C.K mainGlobals x = some (some v)) (hp : ∀ G, Bs C G → C.Rep G v p) (hd : (x == ("__debug__" : Str)) = false) :
    EV C d D (.Name x pos) (cc p) := by
  intro A E env σ s G Mu q hr he hs hf
  obtain rfl := sj hf
  refine Name_function_global he.kind ((he.kindOf x).trans hx) ?_ hd
  have hg := hs.base.g.keeps hs.sub.h
  refine loadGlobal_global (by rw [he.glob]; exact hg) (mg_of (hs.base.X.keeps hs.sub.h) hg hv) ⟨G, Ext.refl hs.sub, hp G hs.base⟩
theorem EV.built {x : Str} {pos : Pos} {v : Value} (hx : D.names.lookup x = some .globalImplicit) (hv : nsIn C.K mainGlobals x = some none) (hb : bootBuiltins x = some v) (hne : x ≠ "__name__") (hd : (x == ("__debug__" : Str)) = false) :
    EV C d D (.Name x pos) (cc (.obj v)) := by
  intro A E env σ s G Mu q hr he hs hf
  obtain rfl := sj hf
  refine Name_function_global he.kind ((he.kindOf x).trans hx) ?_ hd
  have hg := hs.base.g.keeps hs.sub.h
  refine loadGlobal_builtin (by rw [he.glob]; exact hg) (mg_none_of (hs.base.X.keeps hs.sub.h) hg hv) (by rw [he.blt]; exact hs.base.b.keeps hs.sub.h) ((hs.base.blt x hne).trans hb) ⟨G, Ext.refl hs.sub, .obj v⟩
theorem EV.int {i : Int} {k : Nat} {pos : Pos} : EV C d D (.Constant (.int i) k pos) (cc (.int i)) := by
  intro A E env σ s G Mu q hr he hs hf
  obtain rfl := sj hf
  exact wpAny_Constant_int ⟨G, Ext.toks hs.sub (Nat.le_succ _), .int i _⟩
theorem EV.flt {x : UInt64} {k : Nat} {pos : Pos} : EV C d D (.Constant (.float x) k pos) (cc (.flt x)) := by
  intro A E env σ s G Mu q hr he hs hf
  obtain rfl := sj hf
  refine k1_2 (Ext.newTok hs.sub x) fun G' x' e => ?_
  exact wpAny_Constant_float ⟨G', x', .flt x _ e⟩
theorem EV.str {x : Str} {k : Nat} {pos : Pos} : EV C d D (.Constant (.str x) k pos) (cc (.str x)) := by
  intro A E env σ s G Mu q hr he hs hf
  obtain rfl := sj hf
  exact wpAny_Constant_str ⟨G, Ext.toks hs.sub (Nat.le_succ _), .str x _⟩
theorem EV.boolC {b : Bool} {k : Nat} {pos : Pos} : EV C d D (.Constant (.bool b) k pos) (cc (.bool b)) := by
  intro A E env σ s G Mu q hr he hs hf
  obtain rfl := sj hf
  exact wpAny_Constant_bool ⟨G, Ext.refl hs.sub, .bool b⟩
end
end
section
noncomputable def PV.num2 (ii : Int → Int → Option PV) (ff : UInt64 → UInt64 → Option PV) (fi : UInt64 → Int → Option PV) (jf : Int → UInt64 → Option PV) (o : PV → PV → Option PV) (a b : PV) : Option PV := match a, b with
  | .int a, .int b => ii a b
  | .flt a, .flt b => ff a b
  | .flt a, .int b => fi a b
  | .int a, .flt b => jf a b
  | a, b => o a b
theorem PV.num2_k {ii : Int → Int → Option PV} {ff : UInt64 → UInt64 → Option PV} {fi : UInt64 → Int → Option PV} {jf : Int → UInt64 → Option PV} {o : PV → PV → Option PV} {a b r : PV} {P : PV → PV → Prop} (h : PV.num2 ii ff fi jf o a b = some r)
    (k1 : ∀ x y, ii x y = some r → P (.int x) (.int y)) (k2 : ∀ x y, ff x y = some r → P (.flt x) (.flt y)) (k3 : ∀ x y, fi x y = some r → P (.flt x) (.int y)) (k4 : ∀ x y, jf x y = some r → P (.int x) (.flt y)) (k5 : o a b = some r → P a b) : P a b := by
  unfold PV.num2 at h
  split at h
  · exact k1 _ _ h
  · exact k2 _ _ h
  · exact k3 _ _ h
  · exact k4 _ _ h
  · exact k5 h
noncomputable def ofI (f : UInt64 → Option PV) (b : Int) : Option PV := if Float64.isInf (Float64.ofInt b) = true then none else f (Float64.ofInt b)
noncomputable def noP (_ _ : PV) : Option PV := none
noncomputable def PV.addO : PV → PV → Option PV
  | .str x, .str y => if x.length + y.length ≤ 65536 then some (.str (x ++ y)) else none
  | .lst xs, .lst ys => if xs.length + ys.length ≤ 65536 then some (.lst (xs ++ ys)) else none
  | .tup xs, .tup ys => if xs.length + ys.length ≤ 65536 then some (.tup (xs ++ ys)) else none
  | _, _ => none
noncomputable def PV.add : PV → PV → Option PV := PV.num2 (fun a b => some (.int (a + b))) (fun a b => some (.flt (Float64.add a b))) (fun a b => ofI (fun b => some (.flt (Float64.add a b))) b) (fun a b => ofI (fun a => some (.flt (Float64.add a b))) a) PV.addO
noncomputable def PV.sub : PV → PV → Option PV := PV.num2 (fun a b => some (.int (a - b))) (fun a b => some (.flt (Float64.sub a b))) (fun a b => ofI (fun b => some (.flt (Float64.sub a b))) b) (fun a b => ofI (fun a => some (.flt (Float64.sub a b))) a) noP
noncomputable def PV.mulO : PV → PV → Option PV
  | .str x, .int n => if 0 ≤ n ∧ n ≤ 1024 ∧ x.length ≤ 1024 then some (.str (Txt.mul x n)) else none
  | _, _ => none
noncomputable def PV.mul : PV → PV → Option PV := PV.num2 (fun a b => if a.natAbs < 2 ^ 60 ∨ b.natAbs < 2 ^ 60 then some (.int (a * b)) else none) (fun a b => some (.flt (Float64.mul a b))) (fun a b => ofI (fun b => some (.flt (Float64.mul a b))) b) (fun a b => ofI (fun a => some (.flt (Float64.mul a b))) a) PV.mulO
noncomputable def PV.fdiv : PV → PV → Option PV
  | .int a, .int b => if b ≠ 0 ∧ b.natAbs < 1073741824 then some (.int (a.fdiv b)) else none
  | _, _ => none
noncomputable def PV.fmod : PV → PV → Option PV := PV.num2 (fun a b => if b ≠ 0 then some (.int (a.fmod b)) else none) (fun a b => if Float64.isZero b = true then none else some (.flt (Float64.divmod a b).snd)) (fun ž1 ž2 => none) (fun ž1 ž2 => none) noP
noncomputable def divF (a b : UInt64) : Option PV := if Float64.isZero b = true then none else some (.flt (Float64.div a b))
noncomputable def PV.tdiv : PV → PV → Option PV := PV.num2 (fun a b => if b = 0 then none else if Float64.isInf (Float64.ofFrac (decide (a < 0) != decide (b < 0)) a.natAbs b.natAbs) = true then none else
      some (.flt (Float64.ofFrac (decide (a < 0) != decide (b < 0)) a.natAbs b.natAbs))) divF (fun a b => ofI (divF a) b) (fun a b => ofI (fun a => divF a b) a) noP
noncomputable def PV.pow : PV → PV → Option PV
  | .int a, .int n => if 0 ≤ n ∧ n ≤ 1024 ∧ a.natAbs < 2 ^ 60 then some (.int (a ^ n.toNat)) else none
  | _, _ => none
noncomputable def PV.bin : Operator → PV → PV → Option PV
  | .Add => PV.add
  | .Sub => PV.sub
  | .Mult => PV.mul
  | .FloorDiv => PV.fdiv
  | .Mod => PV.fmod
  | .Div => PV.tdiv
  | .Pow => PV.pow
  | _ => fun ž1 ž2 => none
section
variable {C : Wd} {G : Gh} {A : Around} {E : Value → Shared → Prop} {s : Shared} {v u : Value} {a b r : PV}
theorem done_val {tk : Nat} (hs : In G s) {x : Value} (h : C.Rep G x r) (ht : s.toks ≤ tk := by omega) : Done C G s r x { s with toks := tk } := ⟨G, Ext.toks hs ht, h⟩
theorem done_flt (hs : In G s) {x : UInt64} : Done C G s (.flt x) (.float x s.toks) { s with toks := s.toks + 1 } :=
  let ⟨G', e, q⟩ := Ext.newTok hs x; ⟨G', e, .flt x _ q⟩
theorem done_self (hs : In G s) {x : Value} (h : C.Rep G x r) : Done C G s r x s := ⟨G, Ext.refl hs, h⟩
theorem done_list {tk : Nat} (hs : In G s) (ht : s.toks ≤ tk) {n : Nat} {vs : List Value} {xs : List PV} (h : C.RepL G vs xs) :
    Done C G s (.lst xs) (.ref s.heap.objs.size) { s with heap := s.heap.push { cls := .type "list", data := .seq vs.toArray n }, toks := tk } := by
  refine k1_3 ((Ext.push (tk := tk) hs ht { cls := .type "list", data := .seq vs.toArray n }).freeze (a := s.heap.objs.size) (Heap.get?_push_size _ rfl) (Nat.le_refl _)) fun G₂ x k g => ?_
  exact ⟨G₂, x, .lst ⟨n, g⟩ (RepL.mono k h)⟩
theorem done_tup {tk : Nat} (hs : In G s) (ht : s.toks ≤ tk) {n : Nat} {vs : List Value} {xs : List PV} (h : C.RepL G vs xs) :
    Done C G s (.tup xs) (.ref s.heap.objs.size) { s with heap := s.heap.push { cls := .type "tuple", data := .seq vs.toArray n }, toks := tk } := by
  refine k1_3 ((Ext.push (tk := tk) hs ht { cls := .type "tuple", data := .seq vs.toArray n }).freeze (a := s.heap.objs.size) (Heap.get?_push_size _ rfl) (Nat.le_refl _)) fun G₂ x k g => ?_
  exact ⟨G₂, x, .tup ⟨n, g⟩ (RepL.mono k h)⟩
theorem add_lists_pv (hs : In G s) {xs ys : List PV} (h1 : C.Rep G v (.lst xs)) (h2 : C.Rep G u (.lst ys)) (hz : xs.length + ys.length ≤ 65536) :
    wpAny C.M A (binaryOp .Add v u) (Done C G s (.lst (xs ++ ys))) E s := by
      (refine k2_3 h1.sh fun a vs ž3 => ?_; subst ž3; intro ž4; obtain ⟨n, ho⟩ := ž4; intro hr)
      (refine k2_3 h2.sh fun b ws ž3 => ?_; subst ž3; intro ž4; obtain ⟨n2, ho2⟩ := ž4; intro hr2)
      have l1 := hr.length
      have l2 := hr2.length
      have e : vs.toArray ++ ws.toArray = (vs ++ ws).toArray := by simp
      refine concat_meets ⟨_, hs.h _ _ ho, rfl⟩ ⟨_, hs.h _ _ ho2, rfl⟩ noFill_list_add seq_list_add PySem.F.slot_list_add PySem.F.entry_list_add (PySem.F.args_list_add_2 _ _)
        (list_addW a b vs.toArray ws.toArray n n2 none none #[] #[] (by rw [sizeLine_eq]; simp; lia)) ⟨hs.h _ _ ho, hs.h _ _ ho2, ?_⟩
      rw [e]
      exact done_list hs (Nat.le_refl _) (hr.append hr2)
theorem mulOk_small {x : Str} {n : Int} (h : 0 ≤ n ∧ n ≤ 1024 ∧ x.length ≤ 1024) : MulOk x n := by
  refine k0_3 h fun h0 h1 h2 => ?_
  refine ⟨?_, fun ž1 ž2 => ?_, fun ž1 ž2 => ?_⟩
  · rw [Bool.or_eq_false_iff]; exact ⟨decide_eq_false (by lia), decide_eq_false (by lia)⟩
  · intro hc
    have hn : 1 ≤ n := by lia
    have : (1024 : Int) ≤ (2 ^ 63 - 1) / n := (Int.le_ediv_iff_mul_le (by lia)).mpr (by lia)
    lia
  · have : x.length * n.toNat ≤ 1024 * 1024 := Nat.mul_le_mul h2 (by lia)
    unfold Builtin.Str.tooLong
    exact decide_eq_false (by rw [sizeLine_eq]; lia)
theorem pow_room {x n : Int} (h : 0 ≤ n ∧ n ≤ 1024 ∧ x.natAbs < 2 ^ 60) : ((Builtin.Int.intBits x : Nat) : Int) * n ≤ 2 ^ 27 := by
  refine k0_3 h fun h0 h1 h2 => ?_
  have q : Builtin.Int.intBits x ≤ 64 := intBits_le_64 (by omega) (by omega)
  have q' : ((Builtin.Int.intBits x : Nat) : Int) ≤ 64 := by exact_mod_cast q
  calc _ ≤ (64 : Int) * 1024 := Int.mul_le_mul q' h1 h0 (by decide)
    _ ≤ 2 ^ 27 := by decide
theorem ofI_k {f : UInt64 → Option PV} {b : Int} {r : PV} {P : Prop} (h : ofI f b = some r) (k : ¬ Float64.isInf (Float64.ofInt b) = true → f (Float64.ofInt b) = some r → P) : P := by
  unfold ofI at h
  refine ite_k h (fun _ h => ?_) fun _ h => ?_
  · exact nv1 h
  · exact k ‹_› h
theorem divF_k {a b : UInt64} {r : PV} {P : Prop} (h : divF a b = some r) (k : ¬ Float64.isZero b = true → r = .flt (Float64.div a b) → P) : P := by
  unfold divF at h
  refine ite_k h (fun _ h => ?_) fun _ h => ?_
  · exact nv1 h
  · exact k ‹_› (Option.some.inj h).symm
theorem bin_add_ok (hs : In G s) (h1 : C.Rep G v a) (h2 : C.Rep G u b) (h : PV.add a b = some r) : wpAny C.M A (binaryOp .Add v u) (Done C G s r) E s := by
  revert h1 h2
  refine PV.num2_k (P := fun a b => C.Rep G v a → C.Rep G u b → wpAny C.M A (binaryOp .Add v u) (Done C G s r) E s) h (fun x y h h1 h2 => ?_) (fun x y h h1 h2 => ?_) (fun x y h h1 h2 => ofI_k h fun hi h => ?_) (fun x y h h1 h2 => ofI_k h fun hi h => ?_) (fun h h1 h2 => ?_)
  · obtain rfl := sj h; (refine k1_1 h1.sh fun _ ž2 => ?_; subst ž2); (refine k1_1 h2.sh fun _ ž2 => ?_; subst ž2); exact add_int (done_val hs (.int _ _) (Nat.le_succ _))
  · obtain rfl := sj h; (refine k1_2 h1.sh fun _ ž2 => ?_; subst ž2; intro _); (refine k1_2 h2.sh fun _ ž2 => ?_; subst ž2; intro _); exact add_float (done_flt hs)
  · obtain rfl := sj h; (refine k1_2 h1.sh fun _ ž2 => ?_; subst ž2; intro _); (refine k1_1 h2.sh fun _ ž2 => ?_; subst ž2)
    exact AutoFloatOpsIf.add_fi (by rw [if_neg hi]; exact done_flt hs)
  · obtain rfl := sj h; (refine k1_1 h1.sh fun _ ž2 => ?_; subst ž2); (refine k1_2 h2.sh fun _ ž2 => ?_; subst ž2; intro _)
    exact AutoFloatOpsIf.add_if (by rw [if_neg hi]; exact done_flt hs)
  unfold PV.addO at h
  split at h
  · refine ite_k h (fun _ h => ?_) fun _ h => ?_
    · rename_i hz; obtain rfl := sj h; (refine k1_1 h1.sh fun _ ž2 => ?_; subst ž2); (refine k1_1 h2.sh fun _ ž2 => ?_; subst ž2)
      exact wpAny_with_toks (Nat.le_refl _) (add_str (fun t' tk ht => done_val hs (.str _ _) ht) (by rw [sizeLine_eq]; lia))
    · exact nv1 h
  · refine ite_k h (fun _ h => ?_) fun _ h => ?_
    · rename_i hz; obtain rfl := sj h; exact add_lists_pv hs h1 h2 hz
    · exact nv1 h
  · refine ite_k h (fun _ h => ?_) fun _ h => ?_
    · rename_i hz; obtain rfl := sj h
      (refine k2_3 h1.sh fun t vs ž3 => ?_; subst ž3; intro ž4; obtain ⟨n, ho⟩ := ž4; intro hr1)
      (refine k2_3 h2.sh fun b ws ž3 => ?_; subst ž3; intro ž4; obtain ⟨n2, ho2⟩ := ž4; intro hr2)
      have l1 := hr1.length
      have l2 := hr2.length
      have e : vs.toArray ++ ws.toArray = (vs ++ ws).toArray := by simp
      by_cases hv : vs = []
      · subst hv
        cases hr1
        exact concat_meets ⟨_, hs.h _ _ ho, rfl⟩ ⟨_, hs.h _ _ ho2, rfl⟩ noFill_tuple_add seq_tuple_add PySem.F.slot_tuple_add PySem.F.entry_tuple_add (PySem.F.args_tuple_add_2 _ _)
          (tuple_addW0 t b _ ws.toArray n n2 none none #[] #[] (by simp)) ⟨hs.h _ _ ho, hs.h _ _ ho2, done_self hs (.tup ⟨_, ho2⟩ hr2)⟩
      · by_cases hw : ws = []
        · subst hw
          cases hr2
          rw [List.append_nil]
          exact concat_meets ⟨_, hs.h _ _ ho, rfl⟩ ⟨_, hs.h _ _ ho2, rfl⟩ noFill_tuple_add seq_tuple_add PySem.F.slot_tuple_add PySem.F.entry_tuple_add (PySem.F.args_tuple_add_2 _ _)
            (tuple_addW1 t b vs.toArray _ n n2 none none #[] #[] (by simpa using hv) (by simp)) ⟨hs.h _ _ ho, hs.h _ _ ho2, done_self hs (.tup ⟨_, ho⟩ hr1)⟩
        · refine concat_meets ⟨_, hs.h _ _ ho, rfl⟩ ⟨_, hs.h _ _ ho2, rfl⟩ noFill_tuple_add seq_tuple_add PySem.F.slot_tuple_add PySem.F.entry_tuple_add (PySem.F.args_tuple_add_2 _ _)
            (tuple_addW2 t b vs.toArray ws.toArray n n2 none none #[] #[] (by simpa using hv) (by simpa using hw) (by rw [sizeLine_eq]; simp; lia)) ⟨hs.h _ _ ho, hs.h _ _ ho2, ?_⟩
          rw [e]
          exact done_tup hs (Nat.le_refl _) (hr1.append hr2)
    · exact nv1 h
  · exact nv1 h
theorem bin_sub_ok (hs : In G s) (h1 : C.Rep G v a) (h2 : C.Rep G u b) (h : PV.sub a b = some r) : wpAny C.M A (binaryOp .Sub v u) (Done C G s r) E s := by
  revert h1 h2
  refine PV.num2_k (P := fun a b => C.Rep G v a → C.Rep G u b → wpAny C.M A (binaryOp .Sub v u) (Done C G s r) E s) h (fun x y h h1 h2 => ?_) (fun x y h h1 h2 => ?_) (fun x y h h1 h2 => ofI_k h fun hi h => ?_) (fun x y h h1 h2 => ofI_k h fun hi h => ?_) (fun h h1 h2 => nomatch h)
  · obtain rfl := sj h; (refine k1_1 h1.sh fun _ ž2 => ?_; subst ž2); (refine k1_1 h2.sh fun _ ž2 => ?_; subst ž2); exact sub_int (done_val hs (.int _ _) (Nat.le_succ _))
  · obtain rfl := sj h; (refine k1_2 h1.sh fun _ ž2 => ?_; subst ž2; intro _); (refine k1_2 h2.sh fun _ ž2 => ?_; subst ž2; intro _); exact sub_float (done_flt hs)
  · obtain rfl := sj h; (refine k1_2 h1.sh fun _ ž2 => ?_; subst ž2; intro _); (refine k1_1 h2.sh fun _ ž2 => ?_; subst ž2)
    exact AutoFloatOpsIf.sub_fi (by rw [if_neg hi]; exact done_flt hs)
  · obtain rfl := sj h; (refine k1_1 h1.sh fun _ ž2 => ?_; subst ž2); (refine k1_2 h2.sh fun _ ž2 => ?_; subst ž2; intro _)
    exact AutoFloatOpsIf.sub_if (by rw [if_neg hi]; exact done_flt hs)
theorem bin_mul_ok (hs : In G s) (h1 : C.Rep G v a) (h2 : C.Rep G u b) (h : PV.mul a b = some r) : wpAny C.M A (binaryOp .Mult v u) (Done C G s r) E s := by
  revert h1 h2
  refine PV.num2_k (P := fun a b => C.Rep G v a → C.Rep G u b → wpAny C.M A (binaryOp .Mult v u) (Done C G s r) E s) h (fun x y h h1 h2 => ?_) (fun x y h h1 h2 => ?_) (fun x y h h1 h2 => ofI_k h fun hi h => ?_) (fun x y h h1 h2 => ofI_k h fun hi h => ?_) (fun h h1 h2 => ?_)
  · refine ite_k h (fun _ h => ?_) fun _ h => ?_
    · rename_i hz; obtain rfl := sj h; (refine k1_1 h1.sh fun _ ž2 => ?_; subst ž2); (refine k1_1 h2.sh fun _ ž2 => ?_; subst ž2)
      refine mul_int (done_val hs (.int _ _) (Nat.le_succ _)) ?_
      refine Or.elim hz (fun hz => ?_) fun hz => ?_
      · exact IntMulOk.of_left (intBits_le_64 (by lia) (by lia))
      · exact IntMulOk.of_right (intBits_le_64 (by lia) (by lia))
    · exact nv1 h
  · obtain rfl := sj h; (refine k1_2 h1.sh fun _ ž2 => ?_; subst ž2; intro _); (refine k1_2 h2.sh fun _ ž2 => ?_; subst ž2; intro _); exact mul_float (done_flt hs)
  · obtain rfl := sj h; (refine k1_2 h1.sh fun _ ž2 => ?_; subst ž2; intro _); (refine k1_1 h2.sh fun _ ž2 => ?_; subst ž2)
    exact AutoFloatOpsIf.mul_fi (by rw [if_neg hi]; exact done_flt hs)
  · obtain rfl := sj h; (refine k1_1 h1.sh fun _ ž2 => ?_; subst ž2); (refine k1_2 h2.sh fun _ ž2 => ?_; subst ž2; intro _)
    exact AutoFloatOpsIf.mul_if (by rw [if_neg hi]; exact done_flt hs)
  unfold PV.mulO at h
  split at h
  · refine ite_k h (fun _ h => ?_) fun _ h => ?_
    · rename_i hz; obtain rfl := sj h; (refine k1_1 h1.sh fun _ ž2 => ?_; subst ž2); (refine k1_1 h2.sh fun _ ž2 => ?_; subst ž2)
      exact wpAny_with_toks (Nat.le_refl _) (SB.mul (mulOk_small hz) fun t' k ht => done_val hs (.str _ _) ht)
    · exact nv1 h
  · exact nv1 h
theorem bin_floordiv_ok (hs : In G s) (h1 : C.Rep G v a) (h2 : C.Rep G u b) (h : PV.fdiv a b = some r) : wpAny C.M A (binaryOp .FloorDiv v u) (Done C G s r) E s := by
  unfold PV.fdiv at h
  split at h
  · refine ite_k h (fun _ h => ?_) fun _ h => ?_
    · rename_i hz; obtain rfl := sj h; (refine k1_1 h1.sh fun _ ž2 => ?_; subst ž2); (refine k1_1 h2.sh fun _ ž2 => ?_; subst ž2)
      exact floordiv_int hz.1 (done_val hs (.int _ _) (Nat.le_succ _)) (.inl (PyProof.noPylong_small hz.2))
    · exact nv1 h
  · exact nv1 h
theorem bin_mod_ok (hs : In G s) (h1 : C.Rep G v a) (h2 : C.Rep G u b) (h : PV.fmod a b = some r) : wpAny C.M A (binaryOp .Mod v u) (Done C G s r) E s := by
  revert h1 h2
  refine PV.num2_k (P := fun a b => C.Rep G v a → C.Rep G u b → wpAny C.M A (binaryOp .Mod v u) (Done C G s r) E s) h (fun x y h h1 h2 => ?_) (fun x y h h1 h2 => ?_) (fun x y h h1 h2 => nomatch h) (fun x y h h1 h2 => nomatch h) (fun h h1 h2 => nomatch h)
  · refine ite_k h (fun _ h => ?_) fun _ h => ?_
    · rename_i hz; obtain rfl := sj h; (refine k1_1 h1.sh fun _ ž2 => ?_; subst ž2); (refine k1_1 h2.sh fun _ ž2 => ?_; subst ž2)
      exact mod_int hz (done_val hs (.int _ _) (Nat.le_succ _))
    · exact nv1 h
  · refine ite_k h (fun _ h => ?_) fun _ h => ?_
    · exact nv1 h
    · rename_i hz; obtain rfl := sj h; (refine k1_2 h1.sh fun _ ž2 => ?_; subst ž2; intro _); (refine k1_2 h2.sh fun _ ž2 => ?_; subst ž2; intro _)
      exact AutoFloatOpsIf.mod (by rw [if_neg hz]; exact done_flt hs)
theorem bin_div_ok (hs : In G s) (h1 : C.Rep G v a) (h2 : C.Rep G u b) (h : PV.tdiv a b = some r) : wpAny C.M A (binaryOp .Div v u) (Done C G s r) E s := by
  revert h1 h2
  refine PV.num2_k (P := fun a b => C.Rep G v a → C.Rep G u b → wpAny C.M A (binaryOp .Div v u) (Done C G s r) E s) h (fun x y h h1 h2 => ?_) (fun x y h h1 h2 => divF_k h fun hz h => ?_) (fun x y h h1 h2 => ofI_k h fun hi h => divF_k h fun hz h => ?_) (fun x y h h1 h2 => ofI_k h fun hi h => divF_k h fun hz h => ?_) (fun h h1 h2 => nomatch h)
  · refine ite_k h (fun _ h => ?_) fun _ h => ?_
    · exact nv1 h
    · rename_i hz
      refine ite_k h (fun _ h => ?_) fun _ h => ?_
      · exact nv1 h
      · rename_i hi; obtain rfl := sj h; (refine k1_1 h1.sh fun _ ž2 => ?_; subst ž2); (refine k1_1 h2.sh fun _ ž2 => ?_; subst ž2)
        exact AutoIntOpsIf.truediv (by rw [if_neg (by simpa using hz), if_neg hi]; exact done_flt hs)
  · subst h; (refine k1_2 h1.sh fun _ ž2 => ?_; subst ž2; intro _); (refine k1_2 h2.sh fun _ ž2 => ?_; subst ž2; intro _)
    exact AutoFloatOpsIf.truediv (by rw [if_neg hz]; exact done_flt hs)
  · subst h; (refine k1_2 h1.sh fun _ ž2 => ?_; subst ž2; intro _); (refine k1_1 h2.sh fun _ ž2 => ?_; subst ž2)
    exact AutoFloatOpsIf.truediv_fi (by rw [if_neg hi, if_neg hz]; exact done_flt hs)
  · subst h; (refine k1_1 h1.sh fun _ ž2 => ?_; subst ž2); (refine k1_2 h2.sh fun _ ž2 => ?_; subst ž2; intro _)
    exact AutoFloatOpsIf.truediv_if (by rw [if_neg hi, if_neg hz]; exact done_flt hs)
theorem bin_pow_ok (hs : In G s) (h1 : C.Rep G v a) (h2 : C.Rep G u b) (h : PV.pow a b = some r) : wpAny C.M A (binaryOp .Pow v u) (Done C G s r) E s := by
  unfold PV.pow at h
  split at h
  · refine ite_k h (fun _ h => ?_) fun _ h => ?_
    · rename_i hz; obtain rfl := sj h; (refine k1_1 h1.sh fun _ ž2 => ?_; subst ž2); (refine k1_1 h2.sh fun _ ž2 => ?_; subst ž2)
      refine pow_int hz.1 ?_ (done_val hs (.int _ _) (Nat.le_succ _))
      exact pow_room hz
    · exact nv1 h
  · exact nv1 h
theorem bin_ok {d : Nat} (op : Operator) (_hr : Rm d A) (hs : In G s) (h1 : C.Rep G v a) (h2 : C.Rep G u b) (h : PV.bin op a b = some r) : wpAny C.M A (binaryOp op v u) (Done C G s r) E s := by
  cases op with
  | Add => exact bin_add_ok hs h1 h2 h
  | Sub => exact bin_sub_ok hs h1 h2 h
  | Mult => exact bin_mul_ok hs h1 h2 h
  | FloorDiv => exact bin_floordiv_ok hs h1 h2 h
  | Mod => exact bin_mod_ok hs h1 h2 h
  | Div => exact bin_div_ok hs h1 h2 h
  | Pow => exact bin_pow_ok hs h1 h2 h
  | _ => exact nv1 h
end
end
section
noncomputable def allO : List (Option Bool) → Option Bool
  | [] => some true
  | none :: _ => none
  | some b :: r => match allO r with
    | some c => some (b && c)
    | none => none
noncomputable def lookD (es : List (DK × PV)) (k : DK) : Option PV := (es.find? fun e => e.1 = k).map (·.2)
noncomputable def DK.isI : DK → Bool
  | .i _ => true
  | .s _ => false
noncomputable def DK.toI : DK → Int
  | .i n => n
  | .s _ => 0
theorem DK.of_isI {k : DK} (h : k.isI = true) : k = .i k.toI := by cases k <;> simp_all [DK.isI, DK.toI]
noncomputable def asLst : PV → Option (List PV)
  | .lst xs => some xs
  | _ => none
noncomputable def asTup : PV → Option (List PV)
  | .tup xs => some xs
  | _ => none
noncomputable def asDct : PV → Option (List (DK × PV))
  | .dct es => some es
  | _ => none
theorem asLst_eq {p : PV} {xs : List PV} (h : asLst p = some xs) : p = .lst xs := by
  unfold asLst at h
  split at h
  · rw [Option.some.inj h]
  · exact nv1 h
theorem asTup_eq {p : PV} {xs : List PV} (h : asTup p = some xs) : p = .tup xs := by
  unfold asTup at h
  split at h
  · rw [Option.some.inj h]
  · exact nv1 h
theorem asDct_eq {p : PV} {xs : List (DK × PV)} (h : asDct p = some xs) : p = .dct xs := by
  unfold asDct at h
  split at h
  · rw [Option.some.inj h]
  · exact nv1 h
theorem bindO_some {α β : Type} {o : Option α} {f : α → Option β} {b : β} (h : o.bind f = some b) : ∃ a, o = some a ∧ f a = some b := Option.bind_eq_some_iff.mp h
noncomputable def eqI (a : Int) : PV → Option Bool
  | .int b => some (a == b)
  | .flt b => some (Float64.cmpInt b a == some .eq)
  | _ => none
noncomputable def eqF (a : UInt64) : PV → Option Bool
  | .flt b => if Float64.isNaN a = true then none else some (Float64.cmp a b == some .eq)
  | .int n => some (Float64.cmpInt a n == some .eq)
  | _ => none
noncomputable def eqB (a : Bool) : PV → Option Bool
  | .bool b => some (a == b)
  | _ => none
noncomputable def eqS (a : Str) : PV → Option Bool
  | .str b => some (a == b)
  | _ => none
noncomputable def eqN : PV → Option Bool
  | .nul => some true
  | _ => none
noncomputable def eqq : Nat → PV → PV → Option Bool
  | _, .int a, q => eqI a q
  | _, .bool a, q => eqB a q
  | _, .str a, q => eqS a q
  | _, .nul, q => eqN q
  | _, .flt a, q => eqF a q
  | n + 1, .lst xs, q => (asLst q).bind fun ys => if xs.length = ys.length then allO (List.zipWith (eqq n) xs ys) else some false
  | n + 1, .tup xs, q => (asTup q).bind fun ys => if xs.length = ys.length then allO (List.zipWith (eqq n) xs ys) else none
  | n + 1, .dct es, q => (asDct q).bind fun fs => if (es.all fun e => e.1.isI) && (fs.all fun e => e.1.isI) then if es.length = fs.length then allO (es.map fun e => match lookD fs e.1 with
      | none => some false
      | some y => eqq n e.2 y) else some false else none
  | _, _, _ => none
inductive EqC : Nat → PV → PV → Bool → Prop
  | int {n : Nat} (a b : Int) : EqC n (.int a) (.int b) (a == b)
  | bool {n : Nat} (a b : Bool) : EqC n (.bool a) (.bool b) (a == b)
  | str {n : Nat} (a b : Str) : EqC n (.str a) (.str b) (a == b)
  | nul {n : Nat} : EqC n .nul .nul true
  | flt {n : Nat} (a b : UInt64) : Float64.isNaN a = false → EqC n (.flt a) (.flt b) (Float64.cmp a b == some .eq)
  | fi {n : Nat} (a : UInt64) (m : Int) : EqC n (.flt a) (.int m) (Float64.cmpInt a m == some .eq)
  | if_ {n : Nat} (a : UInt64) (m : Int) : EqC n (.int m) (.flt a) (Float64.cmpInt a m == some .eq)
  | lst {n : Nat} {xs ys : List PV} {r : Bool} : xs.length = ys.length → allO (List.zipWith (eqq n) xs ys) = some r → EqC (n + 1) (.lst xs) (.lst ys) r
  | lstN {n : Nat} {xs ys : List PV} : xs.length ≠ ys.length → EqC (n + 1) (.lst xs) (.lst ys) false
  | tup {n : Nat} {xs ys : List PV} {r : Bool} : xs.length = ys.length → allO (List.zipWith (eqq n) xs ys) = some r → EqC (n + 1) (.tup xs) (.tup ys) r
  | dct {n : Nat} {es fs : List (DK × PV)} {r : Bool} : (es.all fun e => e.1.isI) = true → (fs.all fun e => e.1.isI) = true → es.length = fs.length → allO (es.map fun e => match lookD fs e.1 with
      | none => some false
      | some y => eqq n e.2 y) = some r → EqC (n + 1) (.dct es) (.dct fs) r
  | dctN {n : Nat} {es fs : List (DK × PV)} : (es.all fun e => e.1.isI) = true → (fs.all fun e => e.1.isI) = true → es.length ≠ fs.length → EqC (n + 1) (.dct es) (.dct fs) false
theorem eqI_inv {n : Nat} {a : Int} {q : PV} {b : Bool} (h : eqI a q = some b) : EqC n (.int a) q b := by
  unfold eqI at h
  split at h
  · rw [← Option.some.inj h]; exact .int _ _
  · rw [← Option.some.inj h]; exact .if_ _ _
  · exact nv1 h
theorem eqF_inv {n : Nat} {a : UInt64} {q : PV} {b : Bool} (h : eqF a q = some b) : EqC n (.flt a) q b := by
  unfold eqF at h
  split at h
  · refine ite_k h (fun _ h => ?_) fun _ h => ?_
    · exact nv1 h
    · rename_i q; rw [← Option.some.inj h]; exact .flt _ _ (Bool.eq_false_iff.mpr q)
  · rw [← Option.some.inj h]; exact .fi _ _
  · exact nv1 h
theorem eqB_inv {n : Nat} {a : Bool} {q : PV} {b : Bool} (h : eqB a q = some b) : EqC n (.bool a) q b := by
  unfold eqB at h
  split at h
  · rw [← Option.some.inj h]; exact .bool _ _
  · exact nv1 h
theorem eqS_inv {n : Nat} {a : Str} {q : PV} {b : Bool} (h : eqS a q = some b) : EqC n (.str a) q b := by
  unfold eqS at h
  split at h
  · rw [← Option.some.inj h]; exact .str _ _
  · exact nv1 h
theorem eqN_inv {n : Nat} {q : PV} {b : Bool} (h : eqN q = some b) : EqC n .nul q b := by
  unfold eqN at h
  split at h
  · rw [← Option.some.inj h]; exact .nul
  · exact nv1 h
theorem eqq_inv {n : Nat} {p q : PV} {b : Bool} (h : eqq n p q = some b) : EqC n p q b := by
  unfold eqq at h
  split at h
  · exact eqI_inv h
  · exact eqB_inv h
  · exact eqS_inv h
  · exact eqN_inv h
  · exact eqF_inv h
  · refine k1_2 (bindO_some h) fun ys hq h => ?_
    rw [asLst_eq hq]
    refine ite_k h (fun _ h => ?_) fun _ h => ?_
    · rename_i q; exact .lst q h
    · rename_i q; rw [← Option.some.inj h]; exact .lstN q
  · refine k1_2 (bindO_some h) fun ys hq h => ?_
    rw [asTup_eq hq]
    refine ite_k h (fun _ h => ?_) fun _ h => ?_
    · rename_i q; exact .tup q h
    · exact nv1 h
  · refine k1_2 (bindO_some h) fun ys hq h => ?_
    rw [asDct_eq hq]
    refine ite_k h (fun _ h => ?_) fun _ h => ?_
    · rename_i q
      rw [Bool.and_eq_true] at q
      refine ite_k h (fun _ h => ?_) fun _ h => ?_
      · rename_i l; exact .dct q.1 q.2 l h
      · rename_i l; rw [← Option.some.inj h]; exact .dctN q.1 q.2 l
    · exact nv1 h
  · exact nv1 h
set_option tactic.hygienic true in
theorem allO_cons {o : Option Bool} {l : List (Option Bool)} {r : Bool} (h : allO (o :: l) = some r) : ∃ b c, o = some b ∧ allO l = some c ∧ r = (b && c) := by
  cases o with
  | none => exact nv1 h
  | some b =>
    unfold allO at h
    split at h
    · rename_i c hc; obtain rfl := sj h; exact ⟨b, c, rfl, hc, rfl⟩
    · exact nv1 h
theorem allO_all : ∀ {l : List (Option Bool)} {r : Bool}, allO l = some r → (∀ i, i < l.length → ∃ b, l[i]? = some (some b)) ∧ r = l.all fun o => o == some true
  | [], r, h => by obtain rfl := sj h; exact ⟨fun i hi => absurd hi (Nat.not_lt_zero i), rfl⟩
  | o :: l, r, h => by
    (refine k2_3 (allO_cons h) fun b c ž3 => ?_; subst ž3; intro hc ž5; subst ž5)
    refine k0_2 (allO_all hc) fun h1 h2 => ?_
    refine ⟨fun i hi => ?_, ?_⟩
    · cases i with
      | zero => exact ⟨b, rfl⟩
      | succ i => simpa using h1 i (Nat.lt_of_succ_lt_succ hi)
    · rw [h2, List.all_cons]; cases b <;> rfl
section
variable {C : Wd} {G : Gh}
theorem RepL.unique_of {n : Nat} (ih : ∀ {v : Value} {p q : PV} {b : Bool}, C.Rep G v p → C.Rep G v q → eqq n p q = some b → b = true) :
    ∀ {vs : List Value} {xs ys : List PV} {r : Bool}, C.RepL G vs xs → C.RepL G vs ys → allO (List.zipWith (eqq n) xs ys) = some r → r = true := by
  intro vs
  induction vs with
  | nil => intro xs ys r h1 h2 h; cases h1; cases h2; obtain rfl := sj h; rfl
  | cons v vs ih' =>
    intro xs ys r h1 h2 h
    cases h1 with
    | cons a1 b1 =>
      cases h2 with
      | cons a2 b2 =>
        rw [List.zipWith_cons_cons] at h
        (refine k2_3 (allO_cons h) fun b c hb hc ž5 => ?_; subst ž5)
        rw [ih a1 a2 hb, ih' b1 b2 hc]; rfl
set_option tactic.hygienic true in
theorem pairs_unique {es : List DictEntry} {k1 k2 : List (DK × Value)} (h1 : Pairs C.dk es k1) (h2 : Pairs C.dk es k2) : k1 = k2 := by
  induction h1 generalizing k2 with
  | nil => cases h2; rfl
  | @cons e kv es kvs a b _ ih =>
    cases h2 with
    | cons a' b' r' =>
      rename_i kv2 kvs2
      obtain ⟨k, v⟩ := kv
      obtain ⟨k', v'⟩ := kv2
      have := DK.is_inj _ _ _ a a'
      simp only at b b' this
      rw [ih r', this, ← b, ← b']
theorem dictOf_unique {a : Addr} {k1 k2 : List (DK × Value)} (h1 : G.h.DictOf C.dk a k1) (h2 : G.h.DictOf C.dk a k2) : k1 = k2 := by
  refine k3_6 h1 fun o es ep ho _ hd _ hp _ => ?_
  refine k3_6 h2 fun o' es' ep' ho' _ hd' _ hp' _ => ?_
  rw [ho] at ho'; obtain rfl := sj ho'
  rw [hd] at hd'; cases hd'
  exact pairs_unique hp hp'
theorem lookD_of_mem {fs : List (DK × PV)} (hn : (fs.map (·.1)).Nodup) {k : DK} {p : PV} (hm : (k, p) ∈ fs) : lookD fs k = some p := by
  unfold lookD
  induction fs with
  | nil => cases hm
  | cons e fs ih =>
    rw [List.map_cons, List.nodup_cons] at hn
    rw [List.find?_cons]
    rcases List.mem_cons.mp hm with rfl | hm
    · simp
    · have : e.1 ≠ k := fun q => hn.1 (by rw [q]; exact List.mem_map.mpr ⟨_, hm, rfl⟩)
      simp only [this, decide_false]
      exact ih hn.2 hm
theorem repD_mem {kvs : List (DK × Value)} {es fs : List (DK × PV)} (h1 : C.RepD G kvs es) (h2 : C.RepD G kvs fs) : ∀ {i : Nat} {e : DK × PV}, es[i]? = some e → ∃ v q, fs[i]? = some (e.1, q) ∧ C.Rep G v e.2 ∧ C.Rep G v q := by
  intro i e he
  obtain ⟨k, p⟩ := e
  refine k1_2 (h1.get he) fun v hv hr => ?_
  have hk := h2.keys
  have : (fs.map (·.1))[i]? = some k := by rw [← hk, List.getElem?_map, hv]; rfl
  rw [List.getElem?_map] at this
  cases hf : fs[i]? with
  | none => rw [hf] at this; exact nv1 this
  | some f =>
    rw [hf] at this
    obtain ⟨k', q⟩ := f
    obtain rfl : k' = k := by simpa using this
    refine k1_2 (h2.get hf) fun v' hv' hr' => ?_
    rw [hv] at hv'; cases hv'
    exact ⟨v, q, rfl, hr, hr'⟩
theorem seq_det {h : Heap} {a : Addr} {c : Value} {n m : Nat} {vs ws : List Value} (e1 : h.get? a = some { cls := c, data := .seq vs.toArray n }) (e2 : h.get? a = some { cls := c, data := .seq ws.toArray m }) : vs = ws := by
  rw [e1] at e2
  injection e2 with e2
  injection e2 with _ _ e2
  injection e2 with e2
  exact congrArg Array.toList e2
theorem RepD.same {n : Nat} (ih : ∀ {v : Value} {p q : PV} {b : Bool}, C.Rep G v p → C.Rep G v q → eqq n p q = some b → b = true) {kvs : List (DK × Value)} {es fs : List (DK × PV)} (hr : C.RepD G kvs es) (hr2 : C.RepD G kvs fs) (hn : (kvs.map (·.1)).Nodup) {r : Bool}
    (h : allO (es.map fun e => match lookD fs e.1 with
      | none => some false
      | some y => eqq n e.2 y) = some r) : r = true := by
  refine k0_2 (allO_all h) fun h1 h2 => ?_
  rw [h2, List.all_eq_true]
  intro o ho
  obtain ⟨i, hi, rfl⟩ := List.mem_iff_getElem.mp ho
  refine k1_1 (h1 i hi) fun b' hb' => ?_
  have hi' : i < es.length := by simpa using hi
  have he : es[i]? = some es[i] := List.getElem?_eq_getElem hi'
  refine k2_3 (repD_mem hr hr2 he) fun v q hq r1 r2 => ?_
  rw [hr2.keys] at hn
  have hlook : lookD fs es[i].1 = some q := lookD_of_mem hn (List.mem_of_getElem? hq)
  rw [List.getElem?_map, he] at hb'
  simp only [Option.map_some, hlook, Option.some.injEq] at hb'
  have := ih r1 r2 hb'
  subst this
  rw [List.getElem_map]
  simp only [hlook, hb']
  rfl
theorem DictOf.nodup {h : Heap} {a : Addr} {kvs : List (DK × Value)} (x : h.DictOf C.dk a kvs) : (kvs.map (·.1)).Nodup := by
  refine k3_6 x fun _ _ _ _ _ _ _ _ hn => ?_
  exact hn
theorem Rep.same (n : Nat) : ∀ {v : Value} {p q : PV} {b : Bool}, C.Rep G v p → C.Rep G v q → eqq n p q = some b → b = true := by
  induction n using Nat.strongRecOn with
  | _ n ih =>
    intro v p q b h1 h2 h
    cases eqq_inv h with
    | int a c =>
      (refine k1_1 h1.sh fun _ ž2 => ?_; subst ž2)
      refine k1_1 h2.sh fun _ e => ?_
      injection e with e
      exact beq_iff_eq.mpr e
    | bool a c =>
      obtain rfl := h1.sh
      obtain e := h2.sh
      injection e with e
      exact beq_iff_eq.mpr e
    | str a c =>
      (refine k1_1 h1.sh fun _ ž2 => ?_; subst ž2)
      refine k1_1 h2.sh fun _ e => ?_
      injection e with e
      exact beq_iff_eq.mpr e
    | nul => rfl
    | flt a c hn =>
      (refine k1_2 h1.sh fun _ ž2 => ?_; subst ž2; intro _)
      refine k1_2 h2.sh fun _ e _ => ?_
      injection e with e
      rw [← e, PySem.Flt.cmp_self, hn]
      rfl
    | fi a m =>
      (refine k1_2 h1.sh fun _ ž2 => ?_; subst ž2; intro _)
      refine k1_1 h2.sh fun _ e => ?_
      cases e
    | if_ a m =>
      (refine k1_1 h1.sh fun _ ž2 => ?_; subst ž2)
      refine k1_2 h2.sh fun _ e _ => ?_
      cases e
    | @lst m xs ys r hl ha =>
      (refine k2_3 h1.sh fun _ _ ž3 => ?_; subst ž3; intro ž4; obtain ⟨_, e1⟩ := ž4; intro hr)
      (refine k2_3 h2.sh fun _ _ e ž4 => ?_; obtain ⟨_, e2⟩ := ž4; intro hr2)
      injection e with e
      subst e
      rw [← seq_det e1 e2] at hr2
      exact RepL.unique_of (fun a b c => ih m (Nat.lt_succ_self m) a b c) hr hr2 ha
    | lstN hl =>
      (refine k2_3 h1.sh fun _ _ ž3 => ?_; subst ž3; intro ž4; obtain ⟨_, e1⟩ := ž4; intro hr)
      (refine k2_3 h2.sh fun _ _ e ž4 => ?_; obtain ⟨_, e2⟩ := ž4; intro hr2)
      injection e with e
      subst e
      rw [← seq_det e1 e2] at hr2
      exact absurd (hr.length.symm.trans hr2.length) hl
    | @tup m xs ys r hl ha =>
      (refine k2_3 h1.sh fun _ _ ž3 => ?_; subst ž3; intro ž4; obtain ⟨_, e1⟩ := ž4; intro hr)
      (refine k2_3 h2.sh fun _ _ e ž4 => ?_; obtain ⟨_, e2⟩ := ž4; intro hr2)
      injection e with e
      subst e
      rw [← seq_det e1 e2] at hr2
      exact RepL.unique_of (fun a b c => ih m (Nat.lt_succ_self m) a b c) hr hr2 ha
    | @dct m es fs r i1 i2 hl ha =>
      (refine k2_4 h1.sh fun _ _ ž3 => ?_; subst ž3; intro hd _ hr)
      refine k2_4 h2.sh fun _ _ e hd2 _ hr2 => ?_
      injection e with e
      subst e
      rw [← dictOf_unique hd hd2] at hr2
      exact RepD.same (fun a b c => ih m (Nat.lt_succ_self m) a b c) hr hr2 (DictOf.nodup hd) ha
    | dctN i1 i2 hl =>
      (refine k2_4 h1.sh fun _ _ ž3 => ?_; subst ž3; intro hd _ hr)
      refine k2_4 h2.sh fun _ _ e hd2 _ hr2 => ?_
      injection e with e
      subst e
      rw [← dictOf_unique hd hd2] at hr2
      exact absurd (hr.length.symm.trans hr2.length) hl
open SeqAt in
theorem RepL.eqAt {n : Nat} {A : Around} {s : Shared} (ih : ∀ {v u : Value} {p q : PV} {b : Bool}, C.Rep G v p → C.Rep G u q → eqq n p q = some b → EqAt A s v u b)
    {vs us : List Value} {xs ys : List PV} {r : Bool} (h1 : C.RepL G vs xs) (h2 : C.RepL G us ys) (hl : xs.length = ys.length) (h : allO (List.zipWith (eqq n) xs ys) = some r) :
    ∃ e : Nat → Bool, (∀ j (h1 : j < vs.toArray.size) (h2 : j < us.toArray.size), EqAt A s vs.toArray[j] us.toArray[j] (e j)) ∧ r = (List.range vs.toArray.size).all e := by
  refine k0_2 (allO_all h) fun k1 k2 => ?_
  have l1 := h1.length
  have l2 := h2.length
  refine ⟨fun j => (List.zipWith (eqq n) xs ys)[j]? == some (some true), fun j hj1 hj2 => ?_, ?_⟩
  · have hj : j < xs.length := by simpa [l1] using hj1
    have hj' : j < ys.length := by lia
    refine k1_2 (h1.get (List.getElem?_eq_getElem hj)) fun v hv rv => ?_
    refine k1_2 (h2.get (List.getElem?_eq_getElem hj')) fun u hu ru => ?_
    refine k1_1 (k1 j (by simp; lia)) fun b hb => ?_
    have hb2 : eqq n xs[j] ys[j] = some b := by
      rw [List.getElem?_zipWith, List.getElem?_eq_getElem hj, List.getElem?_eq_getElem hj'] at hb
      simpa using hb
    have ev : vs.toArray[j] = v := by
      have := List.getElem?_eq_getElem (l := vs) (by simpa using hj1)
      rw [hv] at this
      simpa using (Option.some.inj this).symm
    have eu : us.toArray[j] = u := by
      have := List.getElem?_eq_getElem (l := us) (by simpa using hj2)
      rw [hu] at this
      simpa using (Option.some.inj this).symm
    rw [ev, eu]
    show EqAt A s v u ((List.zipWith (eqq n) xs ys)[j]? == some (some true))
    rw [hb]
    have : ((some (some b) : Option (Option Bool)) == some (some true)) = b := by cases b <;> rfl
    rw [this]
    exact ih rv ru hb2
  · rw [k2, Bool.eq_iff_iff, List.all_eq_true, List.all_eq_true]
    have hsz : vs.toArray.size = (List.zipWith (eqq n) xs ys).length := by simp; lia
    rw [hsz]
    constructor
    · intro q j hj
      have hj' := List.mem_range.mp hj
      have := q _ (List.getElem_mem hj')
      rw [List.getElem?_eq_getElem hj']
      rw [beq_iff_eq] at this ⊢
      rw [this]
    · intro q o ho
      obtain ⟨i, hi, rfl⟩ := List.mem_iff_getElem.mp ho
      have := q i (List.mem_range.mpr hi)
      rw [List.getElem?_eq_getElem hi] at this
      rw [beq_iff_eq] at this ⊢
      exact Option.some.inj this
open SeqAt in
theorem flt_eqAt {A : Around} {s : Shared} {a b : UInt64} {t u : Tok} (hb : Bs C G) (hs : In G s) (h1 : G.T t = some a) (h2 : G.T u = some b) (hn : Float64.isNaN a = false) : EqAt A s (.float a t) (.float b u) (Float64.cmp a b == some .eq) := by
  intro prog w E Q h
  have ht := (hs.T t a h1).1
  have hu := (hs.T u b h2).1
  unfold eqBool
  refine wpAny_holding ?_
  refine wpAny_ite_split (fun hab => ?_) (fun hab => ?_)
  · have e := eq_of_beq hab
    injection e with e1 e2
    subst e1
    refine wpAny_bind (wpAny_rule (wpAny_pure ?_))
    rw [PySem.Flt.cmp_self, hn] at h
    exact h
  · have rest : wpAny (model prog w) A (richCompare .Eq (.float a t) (.float b u) >>= fun r => truthOfDropped r) Q E s := wpAny_bind (AutoFloatOps.eq_0 (wpAny_truthy_bool h))
    refine wpAny_bind ?_
    unfold isSame
    show wpAny _ _ (isSame.created (a == b && !Float64.isNaN a) t u) _ _ _
    unfold isSame.created
    have q1 : (t == 0 || u == 0) = false := by
      rw [Bool.or_eq_false_iff]; exact ⟨beq_eq_false_iff_ne.mpr ht, beq_eq_false_iff_ne.mpr hu⟩
    rw [q1]
    have hne : ¬ (t = u) := fun e => by
      subst e
      rw [h1] at h2; obtain rfl := sj h2
      exact hab (beq_self_eq_true _)
    rw [if_neg (by simp), if_neg (by simpa using hne)]
    have nb : ∀ (Q : Bool → Shared → Prop) (v : Tok), Q false s → wpAny (model prog w) A (sharingNotTold v) Q E s := fun Q v hq => by
      unfold sharingNotTold
      refine wpAny_bind (wpAny_nsGet (hb.c.keeps hs.h) ?_)
      rw [hb.tell]
      exact wpAny_pure hq
    cases hab' : (a == b && !Float64.isNaN a) with
    | false =>
      exact wpAny_pure rest
    | true =>
      have e : a = b := by
        rw [Bool.and_eq_true] at hab'
        exact eq_of_beq hab'.1
      subst e
      rw [PySem.Flt.cmp_self, hn] at h
      refine wpAny_bind (nb _ _ ?_)
      refine wpAny_bind (nb _ _ ?_)
      refine wpAny_bind (wpAny_rule (wpAny_bind (wpAny_askSetting (wpAny_pure ?_))))
      split
      · exact wpAny_pure h
      · exact rest
open SeqAt in
theorem flt_int_eqAt {A : Around} {s : Shared} {a : UInt64} {n : Int} {t u : Tok} : EqAt A s (.float a t) (.int n u) (Float64.cmpInt a n == some .eq) := by
  intro prog w E Q h
  unfold eqBool
  refine wpAny_holding ?_
  refine wpAny_ite_split (fun hab => ?_) (fun ž1 => ?_)
  · have e := eq_of_beq hab; cases e
  · exact wpAny_bind (eq_fi (wpAny_truthy_bool h))
open SeqAt in
theorem int_flt_eqAt {A : Around} {s : Shared} {a : UInt64} {n : Int} {t u : Tok} : EqAt A s (.int n u) (.float a t) (Float64.cmpInt a n == some .eq) := by
  intro prog w E Q h
  unfold eqBool
  refine wpAny_holding ?_
  refine wpAny_ite_split (fun hab => ?_) (fun ž1 => ?_)
  · have e := eq_of_beq hab; cases e
  · exact wpAny_bind (eq_if (wpAny_truthy_bool h))
theorem PlainTup.isTuple {h : Heap} {a : Addr} {items : Array Value} (x : PlainTup h a items) : h.IsTuple a items := let ⟨n, e⟩ := x; ⟨_, e, rfl, n, rfl⟩
set_option tactic.hygienic true in
theorem RepD.look {kvs : List (DK × Value)} {es : List (DK × PV)} (h : C.RepD G kvs es) (k : DK) : (lookD es k = none ∧ valueAt kvs k = none) ∨ ∃ p v, lookD es k = some p ∧ valueAt kvs k = some v ∧ C.Rep G v p := by
  unfold lookD valueAt
  induction kvs generalizing es with
  | nil => cases h; exact .inl ⟨rfl, rfl⟩
  | cons e r ih =>
    cases h with
    | cons hr hrest =>
      rename_i k' v x xs
      rw [List.find?_cons, List.find?_cons]
      by_cases q : k' = k
      · subst q
        simp only [decide_true]
        exact .inr ⟨x, v, rfl, rfl, hr⟩
      · simp only [q, decide_false]
        exact ih hrest
noncomputable def toI (kvs : List (DK × Value)) : List (Int × Value) := kvs.map fun e => (e.1.toI, e.2)
theorem toI_valueAt {kvs : List (DK × Value)} (h : ∀ e ∈ kvs, e.1.isI = true) (n : Int) : valueAt (toI kvs) n = valueAt kvs (.i n) := by
  unfold valueAt toI
  induction kvs with
  | nil => rfl
  | cons e r ih =>
    have he := h e (.head _)
    rw [List.map_cons, List.find?_cons, List.find?_cons]
    have : (decide (e.1.toI = n)) = decide (e.1 = .i n) := by
      obtain ⟨k, v⟩ := e
      cases k with
      | i m => rw [decide_eq_decide]; simp [DK.toI]
      | s x => simp [DK.isI] at he
    dsimp only
    rw [this]
    cases decide (e.1 = DK.i n) with
    | true => rfl
    | false => exact ih fun x hx => h x (.tail _ hx)
theorem toI_dictOf {h : Heap} {a : Addr} {kvs : List (DK × Value)} (prog' : Program) (w' : World) (hi : ∀ e ∈ kvs, e.1.isI = true) (x : h.DictOf C.dk a kvs) : h.DictOf (intKind prog' w') a (toI kvs) := by
  refine k3_6 x fun o es ep ho hx hd hk hp hn => ?_
  have key : ∀ {es : List DictEntry} {kvs : List (DK × Value)}, Pairs C.dk es kvs → (∀ e ∈ es, ∃ k, C.dk.is k e.key = true ∧ e.hash = C.dk.hash k) → (∀ e ∈ kvs, e.1.isI = true) →
      Pairs (intKind prog' w') es (toI kvs) ∧ ∀ e ∈ es, ∃ k, (intKind prog' w').is k e.key = true ∧ e.hash = (intKind prog' w').hash k := by
    intro es kvs hp
    induction hp with
    | nil => intro _ _; exact ⟨.nil, fun ž1 h => nomatch h⟩
    | @cons e kv es kvs a b r ih =>
      intro h1 h2
      refine k0_2 (ih (fun e he => h1 e (.tail _ he)) fun e he => h2 e (.tail _ he)) fun i1 i2 => ?_
      have e1 := DK.of_isI (h2 kv (.head _))
      rw [e1] at a
      refine ⟨.cons a b i1, fun e' he' => ?_⟩
      rcases List.mem_cons.mp he' with rfl | he'
      · refine k1_2 (h1 _ (.head _)) fun k k1 k2 => ?_
        have : k = .i kv.1.toI := DK.is_inj _ _ _ k1 a
        subst this
        exact ⟨_, k1, k2⟩
      · exact i2 e' he'
  refine k0_2 (key hp (fun e he => hk e (Array.mem_toList_iff.mp he)) hi) fun k1 k2 => ?_
  refine ⟨o, es, ep, ho, hx, hd, fun e he => k2 e (Array.mem_toList_iff.mpr he), k1, ?_⟩
  unfold toI
  rw [List.map_map]
  have : (kvs.map (·.1)).map DK.toI = kvs.map ((fun x : Int × Value => x.1) ∘ fun e => (e.1.toI, e.2)) := by rw [List.map_map]; rfl
  rw [← this]
  refine List.pairwise_map.mpr (List.Pairwise.imp_of_mem ?_ hn)
  intro x y hx hy hne e
  apply hne
  (refine k1_2 (List.mem_map.mp hx) fun x' hx' ž3 => ?_; subst ž3)
  (refine k1_2 (List.mem_map.mp hy) fun y' hy' ž3 => ?_; subst ž3)
  rw [DK.of_isI (hi x' hx'), DK.of_isI (hi y' hy'), e]
set_option tactic.hygienic true in
open SeqAt in
theorem RepD.hits {n : Nat} {A : Around} {s : Shared} (ih : ∀ {v u : Value} {p q : PV} {b : Bool}, C.Rep G v p → C.Rep G u q → eqq n p q = some b → EqAt A s v u b)
    {kb : List (DK × Value)} {fs : List (DK × PV)} (hb : C.RepD G kb fs) (hib : ∀ e ∈ kb, e.1.isI = true) : ∀ {ka : List (DK × Value)} {es : List (DK × PV)} {r : Bool}, C.RepD G ka es → (∀ e ∈ ka, e.1.isI = true) →
      allO (es.map fun e => match lookD fs e.1 with | none => some false | some y => eqq n e.2 y) = some r → ∃ r', KeqHits A s (toI kb) (toI ka) r' ∧ r' = r := by
  intro ka
  induction ka with
  | nil => intro es r h1 _ h; cases h1; obtain rfl := sj h; exact ⟨true, .nil, rfl⟩
  | cons e ka ih' =>
    intro es r h1 hi h
    cases h1 with
    | cons hr hrest =>
      rename_i k v x xs
      rw [List.map_cons] at h
      (refine k2_3 (allO_cons h) fun b c hb' hc ž5 => ?_; subst ž5)
      (refine k1_2 (ih' hrest (fun e he => hi e (.tail _ he)) hc) fun r' h2 ž3 => ?_; subst ž3)
      have hk : k = .i k.toI := DK.of_isI (hi (k, v) (.head _))
      have hv : valueAt (toI kb) k.toI = valueAt kb k := by rw [toI_valueAt hib, ← hk]
      rcases hb.look k with ⟨q1, q2⟩ | ⟨p, u, q1, q2, q3⟩
      · simp only [q1, Option.some.injEq] at hb'
        subst hb'
        exact ⟨false, .miss (hv.trans q2), by simp⟩
      · simp only [q1] at hb'
        exact ⟨_, .hit (hv.trans q2) (ih hr q3 hb') h2, rfl⟩
theorem all_isI {kvs : List (DK × Value)} {es : List (DK × PV)} (h : C.RepD G kvs es) (hi : (es.all fun e => e.1.isI) = true) : ∀ e ∈ kvs, e.1.isI = true := by
  intro e he
  have : e.1 ∈ kvs.map (·.1) := List.mem_map_of_mem he
  rw [h.keys] at this
  refine k1_2 (List.mem_map.mp this) fun e' he' q => ?_
  rw [← q]
  exact List.all_eq_true.mp hi e' he'
section
open SeqAt
variable {n : Nat} {A : Around} {s : Shared}
theorem lst_rc (hs : In G s) (hu : A.units < cLine) (ih : ∀ {v u : Value} {p q : PV} {b : Bool}, C.Rep G v p → C.Rep G u q → eqq n p q = some b → EqAt A.in1 s v u b) {a b : Addr} {vs ws : List Value} {xs ys : List PV} {r : Bool}
    (hp : G.h.PlainList a vs.toArray) (hr : C.RepL G vs xs) (hp2 : G.h.PlainList b ws.toArray) (hr2 : C.RepL G ws ys) (hl : xs.length = ys.length) (h : allO (List.zipWith (eqq n) xs ys) = some r) : RcAt A s (.ref a) (.ref b) r ∧ RcNeAt A s (.ref a) (.ref b) (!r) := by
  (refine k1_2 (RepL.eqAt ih hr hr2 hl h) fun e he ž3 => ?_; subst ž3)
  have hz : vs.toArray.size = ws.toArray.size := by
    rw [List.size_toArray, List.size_toArray, hr.length, hr2.length]; exact hl
  exact ⟨RcAt.lists (PlainList.sub hp hs.h).isList (PlainList.sub hp2 hs.h).isList hz hu he, RcNeAt.lists (PlainList.sub hp hs.h).isList (PlainList.sub hp2 hs.h).isList hz hu he⟩
theorem lstN_rc (hs : In G s) (hu : A.units < cLine) {a b : Addr} {vs ws : List Value} {xs ys : List PV}
    (hp : G.h.PlainList a vs.toArray) (hr : C.RepL G vs xs) (hp2 : G.h.PlainList b ws.toArray) (hr2 : C.RepL G ws ys) (hl : xs.length ≠ ys.length) : RcAt A s (.ref a) (.ref b) false ∧ RcNeAt A s (.ref a) (.ref b) (!false) := by
  have hz : (vs.toArray.size != ws.toArray.size) = true := by
    rw [List.size_toArray, List.size_toArray, hr.length, hr2.length]; exact bne_iff_ne.mpr hl
  exact ⟨RcAt.lists_lengths (PlainList.sub hp hs.h).isList (PlainList.sub hp2 hs.h).isList hz hu, RcNeAt.lists_lengths (PlainList.sub hp hs.h).isList (PlainList.sub hp2 hs.h).isList hz hu⟩
theorem tup_rc (hs : In G s) (hu : A.units < cLine) (ih : ∀ {v u : Value} {p q : PV} {b : Bool}, C.Rep G v p → C.Rep G u q → eqq n p q = some b → EqAt A.in1 s v u b) {a b : Addr} {vs ws : List Value} {xs ys : List PV} {r : Bool}
    (hp : PlainTup G.h a vs.toArray) (hr : C.RepL G vs xs) (hp2 : PlainTup G.h b ws.toArray) (hr2 : C.RepL G ws ys) (hl : xs.length = ys.length) (h : allO (List.zipWith (eqq n) xs ys) = some r) : RcAt A s (.ref a) (.ref b) r ∧ RcNeAt A s (.ref a) (.ref b) (!r) := by
  (refine k1_2 (RepL.eqAt ih hr hr2 hl h) fun e he ž3 => ?_; subst ž3)
  have hz : vs.toArray.size = ws.toArray.size := by
    rw [List.size_toArray, List.size_toArray, hr.length, hr2.length]; exact hl
  have key := RcAt.tuples (PlainTup.isTuple (hp.sub hs.h)) (PlainTup.isTuple (hp2.sub hs.h)) hu he
  have keyN := RcNeAt.tuples (PlainTup.isTuple (hp.sub hs.h)) (PlainTup.isTuple (hp2.sub hs.h)) hu he
  rw [hz, Nat.min_self, beq_self_eq_true, Bool.and_true, ← hz] at key keyN
  exact ⟨key, keyN⟩
theorem dct_rc (hs : In G s) (hu : A.units < cLine) (ih : ∀ {v u : Value} {p q : PV} {b : Bool}, C.Rep G v p → C.Rep G u q → eqq n p q = some b → EqAt A.in1 s v u b) {a b : Addr} {kvs kvs2 : List (DK × Value)} {es fs : List (DK × PV)} {r : Bool}
    (hd : G.h.DictOf C.dk a kvs) (hm : (a == sysModules) = false) (hr : C.RepD G kvs es) (hd2 : G.h.DictOf C.dk b kvs2) (hm2 : (b == sysModules) = false) (hr2 : C.RepD G kvs2 fs) (i1 : (es.all fun e => e.1.isI) = true) (i2 : (fs.all fun e => e.1.isI) = true) (hl : es.length = fs.length)
    (h : allO (es.map fun e => match lookD fs e.1 with
      | none => some false
      | some y => eqq n e.2 y) = some r) : RcAt A s (.ref a) (.ref b) r ∧ RcNeAt A s (.ref a) (.ref b) (!r) := by
  (refine k1_2 (RepD.hits ih hr2 (all_isI hr2 i2) hr (all_isI hr i1) h) fun r' hh ž3 => ?_; subst ž3)
  have hlen : ((toI kvs).length == (toI kvs2).length) = true := by
    unfold toI
    rw [List.length_map, List.length_map, hr.length, hr2.length, hl, beq_self_eq_true]
  exact ⟨fun prog' w' E Q hq => keq_eq (E := E) (Q := Q) hm hm2 (toI_dictOf prog' w' (all_isI hr i1) (DictOf.sub hd hs.h)) (toI_dictOf prog' w' (all_isI hr2 i2) (DictOf.sub hd2 hs.h)) hu (fun ž1 => hh) (by rw [hlen]; exact hq),
    fun prog' w' E Q hq => keq_ne (E := E) (Q := Q) hm hm2 (toI_dictOf prog' w' (all_isI hr i1) (DictOf.sub hd hs.h)) (toI_dictOf prog' w' (all_isI hr2 i2) (DictOf.sub hd2 hs.h)) hu (fun ž1 => hh) (by rw [hlen]; exact hq)⟩
theorem dctN_rc (hs : In G s) (hu : A.units < cLine) {a b : Addr} {kvs kvs2 : List (DK × Value)} {es fs : List (DK × PV)}
    (hd : G.h.DictOf C.dk a kvs) (hm : (a == sysModules) = false) (hr : C.RepD G kvs es) (hd2 : G.h.DictOf C.dk b kvs2) (hm2 : (b == sysModules) = false) (hr2 : C.RepD G kvs2 fs) (i1 : (es.all fun e => e.1.isI) = true) (i2 : (fs.all fun e => e.1.isI) = true) (hl : es.length ≠ fs.length) : RcAt A s (.ref a) (.ref b) false ∧ RcNeAt A s (.ref a) (.ref b) (!false) := by
  have hlen : ((toI kvs).length == (toI kvs2).length) = false := by
    unfold toI
    rw [List.length_map, List.length_map, hr.length, hr2.length, beq_eq_false_iff_ne]
    exact hl
  have no : ∀ {P : Prop}, ((toI kvs).length == (toI kvs2).length) = true → P := fun q => absurd (hlen.symm.trans q) Bool.false_ne_true
  exact ⟨fun prog' w' E Q hq => keq_eq (r := true) (E := E) (Q := Q) hm hm2 (toI_dictOf prog' w' (all_isI hr i1) (DictOf.sub hd hs.h)) (toI_dictOf prog' w' (all_isI hr2 i2) (DictOf.sub hd2 hs.h)) hu (fun q => absurd (hlen.symm.trans (by simpa using q)) Bool.false_ne_true) (by rw [hlen]; exact hq),
    fun prog' w' E Q hq => keq_ne (r := true) (E := E) (Q := Q) hm hm2 (toI_dictOf prog' w' (all_isI hr i1) (DictOf.sub hd hs.h)) (toI_dictOf prog' w' (all_isI hr2 i2) (DictOf.sub hd2 hs.h)) hu (fun q => absurd (hlen.symm.trans (by simpa using q)) Bool.false_ne_true) (by rw [hlen]; exact hq)⟩
end
open SeqAt in
theorem Rep.eqAt (n : Nat) : ∀ {A : Around} {s : Shared} {v u : Value} {p q : PV} {b : Bool}, Bs C G → In G s → A.units + 2 * n + 2 < cLine → C.Rep G v p → C.Rep G u q → eqq n p q = some b → EqAt A s v u b := by
  induction n using Nat.strongRecOn with
  | _ n ih =>
    intro A s v u p q b hb hs hu h1 h2 h
    have fin : ∀ {x y : Addr}, v = .ref x → u = .ref y → RcAt A s (.ref x) (.ref y) b → EqAt A s v u b := by
      intro x y e1 e2 r
      subst e1 e2
      by_cases e : x = y
      · subst e
        rw [Rep.same n h1 h2 h]; exact EqAt.same _
      · exact EqAt.of_refs e r
    have hu' : A.units < cLine := by lia
    cases eqq_inv h with
    | int a c =>
      (refine k1_1 h1.sh fun _ ž2 => ?_; subst ž2)
      (refine k1_1 h2.sh fun _ ž2 => ?_; subst ž2)
      exact EqAt.int_int _ _ _ _
    | bool a c =>
      obtain rfl := h1.sh
      obtain rfl := h2.sh
      exact EqAt.bool_bool _ _
    | str a c =>
      (refine k1_1 h1.sh fun _ ž2 => ?_; subst ž2)
      (refine k1_1 h2.sh fun _ ž2 => ?_; subst ž2)
      exact EqAt.str_str _ _ _ _
    | nul =>
      obtain rfl := h1.sh
      obtain rfl := h2.sh
      exact EqAt.same _
    | flt a c hn =>
      (refine k1_2 h1.sh fun _ ž2 => ?_; subst ž2; intro e1)
      (refine k1_2 h2.sh fun _ ž2 => ?_; subst ž2; intro e2)
      exact flt_eqAt hb hs e1 e2 hn
    | fi a m =>
      (refine k1_2 h1.sh fun _ ž2 => ?_; subst ž2; intro _)
      (refine k1_1 h2.sh fun _ ž2 => ?_; subst ž2)
      exact flt_int_eqAt
    | if_ a m =>
      (refine k1_1 h1.sh fun _ ž2 => ?_; subst ž2)
      (refine k1_2 h2.sh fun _ ž2 => ?_; subst ž2; intro _)
      exact int_flt_eqAt
    | @lst m xs ys r hl ha =>
      refine k2_3 h1.sh fun _ _ e1 hp hr => ?_
      refine k2_3 h2.sh fun _ _ e2 hp2 hr2 => ?_
      exact fin e1 e2 (lst_rc hs hu' (fun a b c => ih m (Nat.lt_succ_self m) hb hs (by show A.units + 1 + 2 * m + 2 < cLine; lia) a b c) hp hr hp2 hr2 hl ha).1
    | lstN hl =>
      refine k2_3 h1.sh fun _ _ e1 hp hr => ?_
      refine k2_3 h2.sh fun _ _ e2 hp2 hr2 => ?_
      exact fin e1 e2 (lstN_rc hs hu' hp hr hp2 hr2 hl).1
    | @tup m xs ys r hl ha =>
      refine k2_3 h1.sh fun _ _ e1 hp hr => ?_
      refine k2_3 h2.sh fun _ _ e2 hp2 hr2 => ?_
      exact fin e1 e2 (tup_rc hs hu' (fun a b c => ih m (Nat.lt_succ_self m) hb hs (by show A.units + 1 + 2 * m + 2 < cLine; lia) a b c) hp hr hp2 hr2 hl ha).1
    | @dct m es fs r i1 i2 hl ha =>
      refine k2_4 h1.sh fun _ _ e1 hd hm hr => ?_
      refine k2_4 h2.sh fun _ _ e2 hd2 hm2 hr2 => ?_
      exact fin e1 e2 (dct_rc hs hu' (fun a b c => ih m (Nat.lt_succ_self m) hb hs (by show A.units + 1 + 2 * m + 2 < cLine; lia) a b c) hd hm hr hd2 hm2 hr2 i1 i2 hl ha).1
    | dctN i1 i2 hl =>
      refine k2_4 h1.sh fun _ _ e1 hd hm hr => ?_
      refine k2_4 h2.sh fun _ _ e2 hd2 hm2 hr2 => ?_
      exact fin e1 e2 (dctN_rc hs hu' hd hm hr hd2 hm2 hr2 i1 i2 hl).1
end
end
section
noncomputable def DKof : PV → Option DK
  | .int i => some (.i i)
  | .str x => some (.s x)
  | _ => none
noncomputable def anyO : List (Option Bool) → Option Bool
  | [] => some false
  | none :: _ => none
  | some b :: r => match anyO r with
    | some c => some (b || c)
    | none => none
noncomputable def isIn (x : PV) : PV → Option Bool
  | .lst ys => anyO (ys.map fun y => eqq 8 y x)
  | .tup ys => anyO (ys.map fun y => eqq 8 y x)
  | .dct es => match DKof x with
    | some k => some (lookD es k).isSome
    | none => none
  | _ => none
noncomputable def ltO : PV → PV → Option Bool
  | .int a, .int b => some (decide (a < b))
  | .flt a, .flt b => some (Float64.cmp a b == some .lt)
  | .flt a, .int n => some (Float64.cmpInt a n == some .lt)
  | .int n, .flt a => some (Float64.cmpInt a n == some .gt)
  | _, _ => none
noncomputable def leO : PV → PV → Option Bool
  | .int a, .int b => some (decide (a ≤ b))
  | .flt a, .flt b => some (Float64.cmp a b == some .lt || Float64.cmp a b == some .eq)
  | .flt a, .int n => some (Float64.cmpInt a n == some .lt || Float64.cmpInt a n == some .eq)
  | .int n, .flt a => some (Float64.cmpInt a n == some .gt || Float64.cmpInt a n == some .eq)
  | _, _ => none
noncomputable def gtO : PV → PV → Option Bool
  | .int a, .int b => some (decide (b < a))
  | .flt a, .flt b => some (Float64.cmp a b == some .gt)
  | .flt a, .int n => some (Float64.cmpInt a n == some .gt)
  | .int n, .flt a => some (Float64.cmpInt a n == some .lt)
  | _, _ => none
noncomputable def geO : PV → PV → Option Bool
  | .int a, .int b => some (decide (b ≤ a))
  | .flt a, .flt b => some (Float64.cmp a b == some .gt || Float64.cmp a b == some .eq)
  | .flt a, .int n => some (Float64.cmpInt a n == some .gt || Float64.cmpInt a n == some .eq)
  | .int n, .flt a => some (Float64.cmpInt a n == some .lt || Float64.cmpInt a n == some .eq)
  | _, _ => none
noncomputable def cmpO : CmpOp → PV → PV → Option Bool
  | .Eq, a, b => eqq 8 a b
  | .NotEq, a, b => (eqq 8 a b).map (!·)
  | .Lt, a, b => ltO a b
  | .LtE, a, b => leO a b
  | .Gt, a, b => gtO a b
  | .GtE, a, b => geO a b
  | .In, a, b => isIn a b
  | .NotIn, a, b => (isIn a b).map (!·)
  | .Is, .bool a, .bool b => some (a == b)
  | _, _, _ => none
set_option tactic.hygienic true in
theorem anyO_cons {o : Option Bool} {l : List (Option Bool)} {r : Bool} (h : anyO (o :: l) = some r) : ∃ b c, o = some b ∧ anyO l = some c ∧ r = (b || c) := by
  cases o with
  | none => exact nv1 h
  | some b =>
    unfold anyO at h
    split at h
    · rename_i c hc; obtain rfl := sj h; exact ⟨b, c, rfl, hc, rfl⟩
    · exact nv1 h
section
variable {C : Wd} {G : Gh} {A : Around} {E : Value → Shared → Prop} {s : Shared} {v u : Value} {p q : PV} {b : Bool}
open SeqAt in
theorem of_rc {x y : Addr} {Q : Value → Shared → Prop} (e1 : v = .ref x) (e2 : u = .ref y) (h : RcAt A s (.ref x) (.ref y) b ∧ RcNeAt A s (.ref x) (.ref y) (!b)) :
    (Q (.bool b) s → wpAny C.M A (compareOp .Eq v u) Q E s) ∧ (Q (.bool !b) s → wpAny C.M A (compareOp .NotEq v u) Q E s) := by
  subst e1 e2
  exact ⟨fun hq => h.1 C.prog C.w E Q hq, fun hq => h.2 C.prog C.w E Q hq⟩
open SeqAt in
theorem Rep.cmpEq (hb : Bs C G) (hs : In G s) (hu : A.units + 40 < cLine) (h1 : C.Rep G v p) (h2 : C.Rep G u q) (h : eqq 8 p q = some b) {Q : Value → Shared → Prop} :
    (Q (.bool b) s → wpAny C.M A (compareOp .Eq v u) Q E s) ∧ (Q (.bool !b) s → wpAny C.M A (compareOp .NotEq v u) Q E s) := by
  have hu' : A.units < cLine := by lia
  obtain ⟨n, hn, h⟩ : ∃ n, n ≤ 8 ∧ eqq n p q = some b := ⟨8, Nat.le_refl 8, h⟩
  have ih : ∀ m, m < 8 → ∀ {v u : Value} {p q : PV} {b : Bool}, C.Rep G v p → C.Rep G u q → eqq m p q = some b → EqAt A.in1 s v u b :=
    fun m hm ž1 ž2 ž3 ž4 ž5 h1 h2 h => Rep.eqAt m hb hs (by show A.units + 1 + 2 * m + 2 < cLine; lia) h1 h2 h
  cases eqq_inv h with
  | int a c =>
    (refine k1_1 h1.sh fun _ ž2 => ?_; subst ž2)
    (refine k1_1 h2.sh fun _ ž2 => ?_; subst ž2)
    exact ⟨fun hq => RcAt.int_int _ _ _ _ C.prog C.w E Q hq, fun hq => RcNeAt.int_int _ _ _ _ C.prog C.w E Q hq⟩
  | bool a c =>
    obtain rfl := h1.sh
    obtain rfl := h2.sh
    exact ⟨fun hq => RcAt.bool_bool _ _ C.prog C.w E Q hq, fun hq => RcNeAt.bool_bool _ _ C.prog C.w E Q hq⟩
  | str a c =>
    (refine k1_1 h1.sh fun _ ž2 => ?_; subst ž2)
    (refine k1_1 h2.sh fun _ ž2 => ?_; subst ž2)
    exact ⟨fun hq => RcAt.str_str _ _ _ _ C.prog C.w E Q hq, fun hq => RcNeAt.str_str _ _ _ _ C.prog C.w E Q hq⟩
  | nul =>
    obtain rfl := h1.sh
    obtain rfl := h2.sh
    exact ⟨fun hq => RcAt.none_none C.prog C.w E Q hq, fun hq => RcNeAt.none_none C.prog C.w E Q hq⟩
  | flt a c hx =>
    (refine k1_2 h1.sh fun _ ž2 => ?_; subst ž2; intro e1)
    (refine k1_2 h2.sh fun _ ž2 => ?_; subst ž2; intro e2)
    exact ⟨fun hq => AutoFloatOps.eq_0 hq, fun hq => AutoFloatOps.ne_0 hq⟩
  | fi a m =>
    (refine k1_2 h1.sh fun _ ž2 => ?_; subst ž2; intro _)
    (refine k1_1 h2.sh fun _ ž2 => ?_; subst ž2)
    exact ⟨fun hq => eq_fi hq, fun hq => ne_fi hq⟩
  | if_ a m =>
    (refine k1_1 h1.sh fun _ ž2 => ?_; subst ž2)
    (refine k1_2 h2.sh fun _ ž2 => ?_; subst ž2; intro _)
    exact ⟨fun hq => eq_if hq, fun hq => ne_if hq⟩
  | @lst m xs ys r hl ha =>
    refine k2_3 h1.sh fun _ _ e1 hp hr => ?_
    refine k2_3 h2.sh fun _ _ e2 hp2 hr2 => ?_
    exact of_rc e1 e2 (lst_rc hs hu' (ih m (by lia)) hp hr hp2 hr2 hl ha)
  | lstN hl =>
    refine k2_3 h1.sh fun _ _ e1 hp hr => ?_
    refine k2_3 h2.sh fun _ _ e2 hp2 hr2 => ?_
    exact of_rc e1 e2 (lstN_rc hs hu' hp hr hp2 hr2 hl)
  | @tup m xs ys r hl ha =>
    refine k2_3 h1.sh fun _ _ e1 hp hr => ?_
    refine k2_3 h2.sh fun _ _ e2 hp2 hr2 => ?_
    exact of_rc e1 e2 (tup_rc hs hu' (ih m (by lia)) hp hr hp2 hr2 hl ha)
  | @dct m es fs r i1 i2 hl ha =>
    refine k2_4 h1.sh fun _ _ e1 hd hm hr => ?_
    refine k2_4 h2.sh fun _ _ e2 hd2 hm2 hr2 => ?_
    exact of_rc e1 e2 (dct_rc hs hu' (ih m (by lia)) hd hm hr hd2 hm2 hr2 i1 i2 hl ha)
  | dctN i1 i2 hl =>
    refine k2_4 h1.sh fun _ _ e1 hd hm hr => ?_
    refine k2_4 h2.sh fun _ _ e2 hd2 hm2 hr2 => ?_
    exact of_rc e1 e2 (dctN_rc hs hu' hd hm hr hd2 hm2 hr2 i1 i2 hl)
theorem DKof_is (h1 : C.Rep G v p) {k : DK} (h : DKof p = some k) : C.dk.is k v = true := by
  unfold DKof at h
  split at h
  · obtain rfl := sj h; (refine k1_1 h1.sh fun _ ž2 => ?_; subst ž2); exact beq_self_eq_true _
  · obtain rfl := sj h; (refine k1_1 h1.sh fun _ ž2 => ?_; subst ž2); exact beq_self_eq_true _
  · exact nv1 h
theorem RepL.anyEq (hb : Bs C G) (hs : In G s) (hu : A.units + 40 < cLine) (h1 : C.Rep G v p) {ws : List Value} {ys : List PV} {b : Bool} (hr : C.RepL G ws ys) (h : anyO (ys.map fun y => eqq 8 y p) = some b) :
    ∃ e : Value → Bool, (∀ y, y ∈ ws → SeqAt.EqAt A.in1 s y v (e y)) ∧ ws.any e = b := by
  classical
  have all : ∀ {ws : List Value} {ys : List PV} {b : Bool}, C.RepL G ws ys → anyO (ys.map fun y => eqq 8 y p) = some b → (∀ w ∈ ws, ∃ y c, (w, y) ∈ ws.zip ys ∧ C.Rep G w y ∧ eqq 8 y p = some c) ∧ (b = true ↔ ∃ e ∈ ws.zip ys, C.Rep G e.1 e.2 ∧ eqq 8 e.2 p = some true) := by
    intro ws
    induction ws with
    | nil =>
      intro ys b hr h
      cases hr
      obtain rfl := sj h
      exact ⟨fun ž1 h => (nomatch h), ⟨fun h => (nomatch h), fun ⟨ž1, h, ž2⟩ => (nomatch h)⟩⟩
    | cons w ws ih =>
      intro ys b hr h
      cases hr with
      | @cons _ _ y ys r1 r2 =>
        (refine k2_3 (anyO_cons h) fun c d hc hd ž5 => ?_; subst ž5)
        refine k0_2 (ih r2 hd) fun i1 i2 => ?_
        refine ⟨fun z hz => ?_, ?_⟩
        · rcases List.mem_cons.mp hz with rfl | hz
          · exact ⟨y, c, .head _, r1, hc⟩
          · refine k2_2 (i1 z hz) fun y' c' m r => ?_
            exact ⟨y', c', .tail _ m, r⟩
        · rw [Bool.or_eq_true, i2]
          constructor
          · rintro (rfl | ⟨e, m, r⟩)
            · exact ⟨(w, y), .head _, r1, hc⟩
            · exact ⟨e, .tail _ m, r⟩
          · rintro ⟨e, m, r, q⟩
            rcases List.mem_cons.mp m with rfl | m
            · exact .inl (Option.some.inj (hc.symm.trans q))
            · exact .inr ⟨e, m, r, q⟩
  refine k0_2 (all hr h) fun k1 k2 => ?_
  have key : ∀ {y : PV} {u : Value} {b : Bool}, C.Rep G u y → eqq 8 y p = some b → SeqAt.EqAt A.in1 s u v b := fun r h => Rep.eqAt 8 hb hs (by show A.units + 1 + 2 * 8 + 2 < cLine; lia) r h1 h
  refine ⟨fun u => decide (∃ e ∈ ws.zip ys, e.1 = u ∧ C.Rep G e.1 e.2 ∧ eqq 8 e.2 p = some true), fun w hw => ?_, ?_⟩
  · by_cases q : ∃ e ∈ ws.zip ys, e.1 = w ∧ C.Rep G e.1 e.2 ∧ eqq 8 e.2 p = some true
    · dsimp only
      rw [decide_eq_true q]
      (refine k1_4 q fun e _ ž3 => ?_; subst ž3; intro r x)
      exact key r x
    · dsimp only
      rw [decide_eq_false q]
      refine k2_3 (k1 w hw) fun y c m r x => ?_
      cases c with
      | true => exact absurd ⟨(w, y), m, rfl, r, x⟩ q
      | false => exact key r x
  · rw [Bool.eq_iff_iff, k2, List.any_eq_true]
    constructor
    · rintro ⟨w, _, x⟩
      refine k1_3 (of_decide_eq_true x) fun e m _ r => ?_
      exact ⟨e, m, r⟩
    · rintro ⟨e, m, r⟩
      exact ⟨e.1, (List.of_mem_zip m).1, decide_eq_true ⟨e, m, rfl, r⟩⟩
set_option tactic.hygienic true in
theorem isIn_lst {x y : PV} {b : Bool} (h : isIn x y = some b) : (∃ ys, (y = .lst ys ∨ y = .tup ys) ∧ anyO (ys.map fun y => eqq 8 y x) = some b) ∨ ∃ es k, y = .dct es ∧ DKof x = some k ∧ b = (lookD es k).isSome := by
  unfold isIn at h
  split at h
  · exact .inl ⟨_, .inl rfl, h⟩
  · exact .inl ⟨_, .inr rfl, h⟩
  · split at h
    · rename_i k hk; obtain rfl := sj h; exact .inr ⟨_, k, rfl, hk, rfl⟩
    · exact nv1 h
  · exact nv1 h
theorem in_ok (hb : Bs C G) (hs : In G s) (hu : A.units + 40 < cLine) (h1 : C.Rep G v p) (h2 : C.Rep G u q) (h : isIn p q = some b) :
    wpAny C.M A (compareOp .In v u) (fun x s' => x = .bool b ∧ Ext G s G s') E s ∧ wpAny C.M A (compareOp .NotIn v u) (fun x s' => x = .bool (!b) ∧ Ext G s G s') E s := by
  have e0 : Ext G s G s := Ext.refl hs
  rcases isIn_lst h with ⟨ys, hy, ha⟩ | ⟨es, k, rfl, hk, rfl⟩
  · rcases hy with rfl | rfl
    · (refine k2_3 h2.sh fun _ ws ž3 => ?_; subst ž3; intro hp hr)
      (refine k1_2 (RepL.anyEq hb hs hu h1 hr ha) fun e he ž3 => ?_; subst ž3)
      have e1 : ws.toArray.any e = ws.any e := by simp
      refine ⟨SeqAt.in_listAt e (PlainList.sub hp hs.h).isList (fun y hy => he y (by simpa using hy)) ⟨?_, e0⟩, SeqAt.notIn_listAt e (PlainList.sub hp hs.h).isList (fun y hy => he y (by simpa using hy)) ⟨?_, e0⟩⟩ <;> rw [e1]
    · (refine k2_3 h2.sh fun _ ws ž3 => ?_; subst ž3; intro hp hr)
      (refine k1_2 (RepL.anyEq hb hs hu h1 hr ha) fun e he ž3 => ?_; subst ž3)
      have e1 : ws.toArray.any e = ws.any e := by simp
      refine ⟨SeqAt.in_tupleAt e (PlainTup.isTuple (hp.sub hs.h)) (fun y hy => he y (by simpa using hy)) ⟨?_, e0⟩, SeqAt.notIn_tupleAt e (PlainTup.isTuple (hp.sub hs.h)) (fun y hy => he y (by simpa using hy)) ⟨?_, e0⟩⟩ <;> rw [e1]
  · (refine k2_4 h2.sh fun _ kvs ž3 => ?_; subst ž3; intro hd hm hr)
    have hm' := (DictOf.sub hd hs.h).mapOf
    have e1 : (lookD es k).isSome = (valueAt kvs k).isSome := by
      rcases hr.look k with ⟨q1, q2⟩ | ⟨p, v, q1, q2, _⟩
      · rw [q1, q2]; rfl
      · rw [q1, q2]; rfl
    exact ⟨wpAny_in_of (DKof_is h1 hk) hm hm' ⟨by rw [e1], Ext.toks hs (Nat.le_succ _)⟩, wpAny_notIn_of (DKof_is h1 hk) hm hm' ⟨by rw [e1], Ext.toks hs (Nat.le_succ _)⟩⟩
theorem num_ok {op : CmpOp} {f : PV → PV → Option Bool} (hf : ∀ {p q : PV} {b : Bool}, f p q = some b → (∃ x y, p = .int x ∧ q = .int y) ∨ (∃ x y, p = .flt x ∧ q = .flt y) ∨ (∃ x y, p = .flt x ∧ q = .int y) ∨ ∃ x y, p = .int x ∧ q = .flt y) {Q : Value → Shared → Prop}
    (k1 : ∀ x y t t' b, f (.int x) (.int y) = some b → Q (.bool b) s → wpAny C.M A (compareOp op (.int x t) (.int y t')) Q E s) (k2 : ∀ x y t t' b, f (.flt x) (.flt y) = some b → Q (.bool b) s → wpAny C.M A (compareOp op (.float x t) (.float y t')) Q E s)
    (k3 : ∀ x y t t' b, f (.flt x) (.int y) = some b → Q (.bool b) s → wpAny C.M A (compareOp op (.float x t) (.int y t')) Q E s) (k4 : ∀ x y t t' b, f (.int x) (.flt y) = some b → Q (.bool b) s → wpAny C.M A (compareOp op (.int x t) (.float y t')) Q E s)
    (h1 : C.Rep G v p) (h2 : C.Rep G u q) (h : f p q = some b) (hq : Q (.bool b) s) : wpAny C.M A (compareOp op v u) Q E s := by
  rcases hf h with ⟨x, y, rfl, rfl⟩ | ⟨x, y, rfl, rfl⟩ | ⟨x, y, rfl, rfl⟩ | ⟨x, y, rfl, rfl⟩
  · (refine k1_1 h1.sh fun _ ž2 => ?_; subst ž2)
    (refine k1_1 h2.sh fun _ ž2 => ?_; subst ž2)
    exact k1 _ _ _ _ _ h hq
  · (refine k1_2 h1.sh fun _ ž2 => ?_; subst ž2; intro _)
    (refine k1_2 h2.sh fun _ ž2 => ?_; subst ž2; intro _)
    exact k2 _ _ _ _ _ h hq
  · (refine k1_2 h1.sh fun _ ž2 => ?_; subst ž2; intro _)
    (refine k1_1 h2.sh fun _ ž2 => ?_; subst ž2)
    exact k3 _ _ _ _ _ h hq
  · (refine k1_1 h1.sh fun _ ž2 => ?_; subst ž2)
    (refine k1_2 h2.sh fun _ ž2 => ?_; subst ž2; intro _)
    exact k4 _ _ _ _ _ h hq
theorem lt_num {p q : PV} {b : Bool} (h : ltO p q = some b) : (∃ x y, p = .int x ∧ q = .int y) ∨ (∃ x y, p = .flt x ∧ q = .flt y) ∨ (∃ x y, p = .flt x ∧ q = .int y) ∨ ∃ x y, p = .int x ∧ q = .flt y := by
  unfold ltO at h
  split at h
  · exact .inl ⟨_, _, rfl, rfl⟩
  · exact .inr (.inl ⟨_, _, rfl, rfl⟩)
  · exact .inr (.inr (.inl ⟨_, _, rfl, rfl⟩))
  · exact .inr (.inr (.inr ⟨_, _, rfl, rfl⟩))
  · exact nv1 h
theorem le_num {p q : PV} {b : Bool} (h : leO p q = some b) : (∃ x y, p = .int x ∧ q = .int y) ∨ (∃ x y, p = .flt x ∧ q = .flt y) ∨ (∃ x y, p = .flt x ∧ q = .int y) ∨ ∃ x y, p = .int x ∧ q = .flt y := by
  unfold leO at h
  split at h
  · exact .inl ⟨_, _, rfl, rfl⟩
  · exact .inr (.inl ⟨_, _, rfl, rfl⟩)
  · exact .inr (.inr (.inl ⟨_, _, rfl, rfl⟩))
  · exact .inr (.inr (.inr ⟨_, _, rfl, rfl⟩))
  · exact nv1 h
theorem gt_num {p q : PV} {b : Bool} (h : gtO p q = some b) : (∃ x y, p = .int x ∧ q = .int y) ∨ (∃ x y, p = .flt x ∧ q = .flt y) ∨ (∃ x y, p = .flt x ∧ q = .int y) ∨ ∃ x y, p = .int x ∧ q = .flt y := by
  unfold gtO at h
  split at h
  · exact .inl ⟨_, _, rfl, rfl⟩
  · exact .inr (.inl ⟨_, _, rfl, rfl⟩)
  · exact .inr (.inr (.inl ⟨_, _, rfl, rfl⟩))
  · exact .inr (.inr (.inr ⟨_, _, rfl, rfl⟩))
  · exact nv1 h
theorem ge_num {p q : PV} {b : Bool} (h : geO p q = some b) : (∃ x y, p = .int x ∧ q = .int y) ∨ (∃ x y, p = .flt x ∧ q = .flt y) ∨ (∃ x y, p = .flt x ∧ q = .int y) ∨ ∃ x y, p = .int x ∧ q = .flt y := by
  unfold geO at h
  split at h
  · exact .inl ⟨_, _, rfl, rfl⟩
  · exact .inr (.inl ⟨_, _, rfl, rfl⟩)
  · exact .inr (.inr (.inl ⟨_, _, rfl, rfl⟩))
  · exact .inr (.inr (.inr ⟨_, _, rfl, rfl⟩))
  · exact nv1 h
theorem is_bools {p q : PV} {b : Bool} (h : cmpO .Is p q = some b) : ∃ x y, p = .bool x ∧ q = .bool y ∧ b = (x == y) := by
  unfold cmpO at h
  split at h <;> first | (cases h; exact ⟨_, _, rfl, rfl, rfl⟩) | contradiction | cases h
theorem cmp_ok (op : CmpOp) (hb : Bs C G) (hs : In G s) (hu : A.units + 40 < cLine) (h1 : C.Rep G v p) (h2 : C.Rep G u q) (h : cmpO op p q = some b) :
    wpAny C.M A (compareOp op v u) (fun x s' => x = .bool b ∧ Ext G s G s') E s := by
  have e0 : Ext G s G s := Ext.refl hs
  cases op with
  | Eq => exact (Rep.cmpEq hb hs hu h1 h2 h).1 ⟨rfl, e0⟩
  | NotEq =>
    (refine k1_2 (Option.map_eq_some_iff.mp h) fun c hc ž3 => ?_; subst ž3)
    exact (Rep.cmpEq hb hs hu h1 h2 hc).2 ⟨rfl, e0⟩
  | Lt => exact num_ok lt_num (fun ž1 ž2 ž3 ž4 ž5 e q => by obtain rfl := sj e; exact lt_int q) (fun ž1 ž2 ž3 ž4 ž5 e q => by obtain rfl := sj e; exact AutoFloatOps.lt_0 q) (fun ž1 ž2 ž3 ž4 ž5 e q => by obtain rfl := sj e; exact lt_fi q) (fun ž1 ž2 ž3 ž4 ž5 e q => by obtain rfl := sj e; exact lt_if q) h1 h2 h ⟨rfl, e0⟩
  | LtE => exact num_ok le_num (fun ž1 ž2 ž3 ž4 ž5 e q => by obtain rfl := sj e; exact le_int q) (fun ž1 ž2 ž3 ž4 ž5 e q => by obtain rfl := sj e; exact AutoFloatOps.le_0 q) (fun ž1 ž2 ž3 ž4 ž5 e q => by obtain rfl := sj e; exact le_fi q) (fun ž1 ž2 ž3 ž4 ž5 e q => by obtain rfl := sj e; exact le_if q) h1 h2 h ⟨rfl, e0⟩
  | Gt => exact num_ok gt_num (fun ž1 ž2 ž3 ž4 ž5 e q => by obtain rfl := sj e; exact gt_int q) (fun ž1 ž2 ž3 ž4 ž5 e q => by obtain rfl := sj e; exact AutoFloatOps.gt_0 q) (fun ž1 ž2 ž3 ž4 ž5 e q => by obtain rfl := sj e; exact gt_fi q) (fun ž1 ž2 ž3 ž4 ž5 e q => by obtain rfl := sj e; exact gt_if q) h1 h2 h ⟨rfl, e0⟩
  | GtE => exact num_ok ge_num (fun ž1 ž2 ž3 ž4 ž5 e q => by obtain rfl := sj e; exact ge_int q) (fun ž1 ž2 ž3 ž4 ž5 e q => by obtain rfl := sj e; exact AutoFloatOps.ge_0 q) (fun ž1 ž2 ž3 ž4 ž5 e q => by obtain rfl := sj e; exact ge_fi q) (fun ž1 ž2 ž3 ž4 ž5 e q => by obtain rfl := sj e; exact ge_if q) h1 h2 h ⟨rfl, e0⟩
  | Is =>
    (refine k2_3 (is_bools h) fun x y ž3 => ?_; subst ž3; intro ž4; subst ž4; intro ž5; subst ž5)
    obtain rfl := h1.sh
    obtain rfl := h2.sh
    refine wpAny_is_plain rfl ⟨?_, e0⟩
    cases x <;> cases y <;> rfl
  | IsNot =>
    unfold cmpO at h
    split at h <;> first | contradiction | cases h
  | In => exact (in_ok hb hs hu h1 h2 h).1
  | NotIn =>
    (refine k1_2 (Option.map_eq_some_iff.mp h) fun c hc ž3 => ?_; subst ž3)
    exact (in_ok hb hs hu h1 h2 hc).2
end
end
section
section
variable {C : Wd} {d : Nat} {D : Fd} {A : Around} {E : Value → Shared → Prop} {env : Env} {σ : Sig} {s : Shared} {G : Gh} {Mu : Addr → Prop}
noncomputable def b2 (op : Operator) (f g : Sig → Option PV) : Sig → Option PV := fun σ => (f σ).bind fun a => (g σ).bind fun b => PV.bin op a b
noncomputable def c2 (op : CmpOp) (f g : Sig → Option PV) : Sig → Option Bool := fun σ => (f σ).bind fun a => (g σ).bind fun b => cmpO op a b
noncomputable def ofB (f : Sig → Option Bool) : Sig → Option PV := fun σ => (f σ).map PV.bool
theorem bind_some {α β : Type} {o : Option α} {f : α → Option β} {r : β} (h : o.bind f = some r) : ∃ a, o = some a ∧ f a = some r := by
  cases o with
  | none => exact nv1 h
  | some a => exact ⟨a, rfl, h⟩
theorem Done.after {G₁ : Gh} {s₁ : Shared} {r : PV} {x : Value} {s₂ : Shared} (e : Ext G s G₁ s₁) (h : Done C G₁ s₁ r x s₂) : Done C G s r x s₂ :=
  let ⟨G₂, e₂, h₂⟩ := h; ⟨G₂, e.trans e₂, h₂⟩
theorem EV.bin {l r : Expr} {op : Operator} {pos : Pos} {f g : Sig → Option PV} (h1 : EV C d D l f) (h2 : EV C d D r g) : EV C d D (.BinOp l op r pos) (b2 op f g) := by
  intro A E env σ s G Mu p hr he hs hf
  refine k1_2 (bind_some hf) fun a ha hf => ?_
  refine k1_2 (bind_some hf) fun b hb hf => ?_
  refine wpAny_BinOp (bind2 h1 hr he hs ha fun v s₁ G₁ x₁ r₁ S₁ => bind2 h2 hr he S₁ hb fun u s₂ G₂ x₂ r₂ S₂ => ?_)
  exact wpAny_mono (bin_ok op hr S₂.sub (Rep.mono x₂.sub r₁) r₂ hf) (fun x s₃ h => Done.after (x₁.trans x₂) h) fun ž1 ž2 h => h
theorem EV.cmp {l r : Expr} {op : CmpOp} {pos : Pos} {f g : Sig → Option PV} (h1 : EV C d D l f) (h2 : EV C d D r g) (hm : behindInMarks op r = false := by rfl) : EV C d D (.Compare l [op] [r] pos) (ofB (c2 op f g)) := by
  intro A E env σ s G Mu p hr he hs hf
  unfold ofB at hf
  rw [Option.map_eq_some_iff] at hf
  obtain ⟨c, hf, rfl⟩ := hf
  obtain ⟨a, ha, hf⟩ := bind_some hf
  obtain ⟨b, hb, hf⟩ := bind_some hf
  refine wpAny_Compare1 (bind2 h1 hr he hs ha fun v s₁ G₁ x₁ r₁ S₁ => bind2 h2 hr he S₁ hb fun u s₂ G₂ x₂ r₂ S₂ => ?_) hm
  refine wpAny_mono (cmp_ok op S₂.base S₂.sub (by have := hr.units; lia) (Rep.mono x₂.sub r₁) r₂ hf) (fun x s₃ h => ?_) fun ž1 ž2 h => h
  obtain ⟨rfl, e⟩ := h
  exact ⟨_, (x₁.trans x₂).trans e, .bool _⟩
theorem IT.cmp {l r : Expr} {op : CmpOp} {pos : Pos} {f g : Sig → Option PV} (h1 : EV C d D l f) (h2 : EV C d D r g) (hm : behindInMarks op r = false := by rfl) : IT C d D (.Compare l [op] [r] pos) (c2 op f g) := by
  intro A E env σ s G Mu p hr he hs hf
  refine k1_2 (bind_some hf) fun a ha hf => ?_
  refine k1_2 (bind_some hf) fun b hb hf => ?_
  refine wpAny_isTrue_Compare1 (bind2 h1 hr he hs ha fun v s₁ G₁ x₁ r₁ S₁ => bind2 h2 hr he S₁ hb fun u s₂ G₂ x₂ r₂ S₂ => ?_) hm
  refine wpAny_mono (cmp_ok op S₂.base S₂.sub (by have := hr.units; lia) (Rep.mono x₂.sub r₁) r₂ hf) (fun x s₃ h => ?_) fun ž1 ž2 h => h
  (refine k0_2 h fun ž1 => ?_; subst ž1; intro e)
  exact wpAny_truthy_bool ⟨_, (x₁.trans x₂).trans e, rfl⟩
noncomputable def truO : PV → Option Bool
  | .bool b => some b
  | .int i => some (i != 0)
  | _ => none
theorem IT.val {e : Expr} {f : Sig → Option PV} (h : EV C d D e f)
    (he : ∀ env whole, isTrue e env whole = (do let v ← whole; standAt e.pos; holding [v] (truthy v)) := by intros; rfl) : IT C d D e (fun σ => (f σ).bind truO) := by
  intro A E env σ s G Mu b hr he' hs hf
  refine k1_2 (bind_some hf) fun a ha hf => ?_
  refine wpAny_isTrue_value (bind2 h hr he' hs ha fun v s₁ G₁ x₁ r₁ S₁ => ?_) (he _ _)
  unfold truO at hf
  split at hf
  · obtain rfl := sj hf; obtain rfl := r₁.sh; exact wpAny_truthy_bool ⟨_, x₁, rfl⟩
  · obtain rfl := sj hf; (refine k1_1 r₁.sh fun _ ž2 => ?_; subst ž2); exact PyProof.Rows.truthy_int ⟨_, x₁, by first | rfl | simp [bne]⟩
  · exact nv1 hf
noncomputable def andO (f g : Sig → Option Bool) : Sig → Option Bool := fun σ => (f σ).bind fun a => if a then g σ else some false
noncomputable def orO (f g : Sig → Option Bool) : Sig → Option Bool := fun σ => (f σ).bind fun a => if a then some true else g σ
theorem itBind {e : Expr} {f : Sig → Option Bool} {b : Bool} {Q : Bool → Shared → Prop} (h : IT C d D e f) (hr : Rm d A) (he : EnvOk D env) (hs : St C D G Mu env σ s) (hf : f σ = some b)
    (k : ∀ s₁ G₁, Ext G s G₁ s₁ → St C D G₁ Mu env σ s₁ → Q b s₁) : wpAny C.M A (isTrue e env (eval e env)) Q E s :=
  wpAny_mono (h A E env σ s G Mu b hr he hs hf) (fun r s₁ ⟨G₁, x, e⟩ => e ▸ k s₁ G₁ x (hs.ext x)) fun ž1 ž2 h => h
theorem IT.and {x y : Expr} {pos : Pos} {f g : Sig → Option Bool} (h1 : IT C d D x f) (h2 : IT C d D y g) : IT C d D (.BoolOp .And [x, y] pos) (andO f g) := by
  intro A E env σ s G Mu b hr he hs hf
  refine k1_2 (bind_some hf) fun a ha hf => ?_
  refine wpAny_isTrue_BoolOp ?_
  rw [arm_allTrue_cons]
  refine wpAny_bind (itBind h1 hr he hs ha fun s₁ G₁ x₁ S₁ => ?_)
  cases a with
  | false => obtain rfl := sj hf; exact wpAny_pure ⟨_, x₁, rfl⟩
  | true =>
    show wpAny _ _ (allTrue .And [y] env) _ _ _
    rw [arm_allTrue_cons]
    refine wpAny_bind (itBind h2 hr he S₁ hf fun s₂ G₂ x₂ S₂ => ?_)
    cases b with
    | false => exact wpAny_pure ⟨_, x₁.trans x₂, rfl⟩
    | true => exact wpAny_pure ⟨_, x₁.trans x₂, rfl⟩
theorem IT.or {x y : Expr} {pos : Pos} {f g : Sig → Option Bool} (h1 : IT C d D x f) (h2 : IT C d D y g) : IT C d D (.BoolOp .Or [x, y] pos) (orO f g) := by
  intro A E env σ s G Mu b hr he hs hf
  refine k1_2 (bind_some hf) fun a ha hf => ?_
  refine wpAny_isTrue_BoolOp ?_
  rw [arm_allTrue_cons]
  refine wpAny_bind (itBind h1 hr he hs ha fun s₁ G₁ x₁ S₁ => ?_)
  cases a with
  | true => obtain rfl := sj hf; exact wpAny_pure ⟨_, x₁, rfl⟩
  | false =>
    show wpAny _ _ (allTrue .Or [y] env) _ _ _
    rw [arm_allTrue_cons]
    refine wpAny_bind (itBind h2 hr he S₁ hf fun s₂ G₂ x₂ S₂ => ?_)
    cases b with
    | true => exact wpAny_pure ⟨_, x₁.trans x₂, rfl⟩
    | false => exact wpAny_pure ⟨_, x₁.trans x₂, rfl⟩
noncomputable def iteO (t : Sig → Option Bool) (f g : Sig → Option PV) : Sig → Option PV := fun σ => (t σ).bind fun b => if b then f σ else g σ
theorem EV.ite {t x y : Expr} {pos : Pos} {ft : Sig → Option Bool} {f g : Sig → Option PV} (ht : IT C d D t ft) (h1 : EV C d D x f) (h2 : EV C d D y g) : EV C d D (.IfExp t x y pos) (iteO ft f g) := by
  intro A E env σ s G Mu p hr he hs hf
  refine k1_2 (bind_some hf) fun b hb hf => ?_
  refine wpAny_IfExp (itBind ht hr he hs hb fun s₁ G₁ x₁ S₁ => ?_)
  cases b with
  | true => exact wpAny_mono (h1 A E env σ s₁ G₁ Mu p hr he S₁ hf) (fun v s₂ h => Done.after x₁ h) fun ž1 ž2 h => h
  | false => exact wpAny_mono (h2 A E env σ s₁ G₁ Mu p hr he S₁ hf) (fun v s₂ h => Done.after x₁ h) fun ž1 ž2 h => h
noncomputable def negO : PV → Option PV
  | .int i => some (.int (-i))
  | .flt x => some (.flt (Float64.neg x))
  | _ => none
theorem EV.neg {x : Expr} {pos : Pos} {f : Sig → Option PV} (h : EV C d D x f) : EV C d D (.UnaryOp .USub x pos) (fun σ => (f σ).bind negO) := by
  intro A E env σ s G Mu p hr he hs hf
  refine k1_2 (bind_some hf) fun a ha hf => ?_
  refine wpAny_UnaryOp (bind2 h hr he hs ha fun v s₁ G₁ x₁ r₁ S₁ => ?_)
  unfold negO at hf
  split at hf
  · obtain rfl := sj hf; (refine k1_1 r₁.sh fun _ ž2 => ?_; subst ž2); exact neg_int (Done.after x₁ (done_val S₁.sub (.int _ _) (Nat.le_succ _)))
  · obtain rfl := sj hf; (refine k1_2 r₁.sh fun _ ž2 => ?_; subst ž2; intro _); exact neg_float (Done.after x₁ (done_flt S₁.sub))
  · exact nv1 hf
inductive EVs (C : Wd) (d : Nat) (D : Fd) : List Expr → List (Sig → Option PV) → Prop
  | nil : EVs C d D [] []
  | cons {e : Expr} {es : List Expr} {f : Sig → Option PV} {fs : List (Sig → Option PV)} : EV C d D e f → (∀ env rest, starEach (e :: rest) env = (false, eval e env) :: starEach rest env) → EVs C d D es fs → EVs C d D (e :: es) (f :: fs)
noncomputable def seqO : List (Sig → Option PV) → Sig → Option (List PV)
  | [], _ => some []
  | f :: fs, σ => (f σ).bind fun a => (seqO fs σ).bind fun r => some (a :: r)
theorem spliced_ok {es : List Expr} {fs : List (Sig → Option PV)} (h : EVs C d D es fs) : ∀ {A : Around} {E : Value → Shared → Prop} {env : Env} {σ : Sig} {s : Shared} {G : Gh} {Mu : Addr → Prop} {pos : Pos} {ps : List PV}, Rm d A → EnvOk D env → St C D G Mu env σ s → seqO fs σ = some ps →
    wpAny C.M A (spliced (backTo pos (starEach es env))) (DoneS C G s ps) E s := by
  induction h with
  | nil =>
    intro A E env σ s G Mu pos ps hr he hs hf
    obtain rfl := sj hf
    exact spliced_none ⟨G, Ext.refl hs.sub, .nil⟩
  | cons h1 hst _ ih =>
    intro A E env σ s G Mu pos ps hr he hs hf
    refine k1_2 (bind_some hf) fun a ha hf => ?_
    refine k1_2 (bind_some hf) fun r hr' hf => ?_
    obtain rfl := sj hf
    refine spliced_more (bind2 h1 hr he hs ha fun v s₁ G₁ x₁ r₁ S₁ => ?_) (hst _ _)
    exact wpAny_mono (ih hr he S₁ hr') (fun vs s₂ ⟨G₂, x₂, r₂⟩ => ⟨G₂, x₁.trans x₂, .cons (Rep.mono x₂.sub r₁) r₂⟩) fun ž1 ž2 h => h
noncomputable def tupO (fs : List (Sig → Option PV)) : Sig → Option PV := fun σ => (seqO fs σ).bind fun ps => if ps.length ≤ 65536 then some (.tup ps) else none
noncomputable def lstO (fs : List (Sig → Option PV)) : Sig → Option PV := fun σ => (seqO fs σ).bind fun ps => if ps.length ≤ 65536 then some (.lst ps) else none
theorem EV.tuple {es : List Expr} {k : Nat} {pos : Pos} {fs : List (Sig → Option PV)} (h : EVs C d D es fs) : EV C d D (.Tuple es k pos) (tupO fs) := by
  intro A E env σ s G Mu p hr he hs hf
  refine k1_2 (bind_some hf) fun ps hps hf => ?_
  refine ite_k hf (fun _ hf => ?_) fun _ hf => ?_
  · obtain rfl := sj hf
    refine wpAny_Tuple (wpAny_mono (spliced_ok h hr he hs hps) (fun vs s₁ ⟨G₁, x₁, r₁⟩ => ?_) fun ž1 ž2 h => h)
    have l := RepL.length r₁
    exact ⟨by rw [sizeLine_eq]; lia, Done.after x₁ (done_tup x₁.inn (Nat.le_refl _) r₁)⟩
  · exact nv1 hf
theorem EV.list {es : List Expr} {pos : Pos} {fs : List (Sig → Option PV)} (h : EVs C d D es fs) : EV C d D (.List es pos) (lstO fs) := by
  intro A E env σ s G Mu p hr he hs hf
  refine k1_2 (bind_some hf) fun ps hps hf => ?_
  refine ite_k hf (fun _ hf => ?_) fun _ hf => ?_
  · obtain rfl := sj hf
    refine wpAny_List (wpAny_mono (spliced_ok h hr he hs hps) (fun vs s₁ ⟨G₁, x₁, r₁⟩ => ?_) fun ž1 ž2 h => h)
    have l := RepL.length r₁
    exact ⟨by rw [sizeLine_eq]; lia, Done.after x₁ (done_list x₁.inn (Nat.le_refl _) r₁)⟩
  · exact nv1 hf
noncomputable def smallI (k : Int) : Bool := decide (-(2 ^ 60) ≤ k) && decide (k < 2 ^ 60)
noncomputable def itemO : PV → PV → Option PV
  | .lst xs, .int k => if smallI k then (seqIndex? k xs.length).bind (xs[·]?) else none
  | .tup xs, .int k => if smallI k then (seqIndex? k xs.length).bind (xs[·]?) else none
  | .str x, .int k => if smallI k then ((seqIndex? k x.length).bind (x.cps[·]?)).map fun c => .str ⟨#[c]⟩ else none
  | .dct es, .int k => lookD es (.i k)
  | .dct es, .str x => lookD es (.s x)
  | _, _ => none
theorem smallI_iff {k : Int} (h : smallI k = true) : -(2 ^ 60) ≤ k ∧ k < 2 ^ 60 := by
  unfold smallI at h
  rw [Bool.and_eq_true, decide_eq_true_eq, decide_eq_true_eq] at h
  exact h
theorem seqIndex_some {k : Int} {n j : Nat} (h : seqIndex? k n = some j) : (0 ≤ k ∧ j = k.toNat ∧ j < n) ∨ (k < 0 ∧ -(n : Int) ≤ k ∧ j = (k + n).toNat ∧ j < n) := by
  unfold seqIndex? at h
  dsimp only at h
  split at (h)
  · split at (h)
    · rename_i h1 h2
      simp only [Bool.and_eq_true, decide_eq_true_eq] at h2
      obtain rfl := sj h
      right
      exact ⟨h1, by omega, rfl, by omega⟩
    · exact nv1 h
  · split at (h)
    · rename_i h1 h2
      simp only [Bool.and_eq_true, decide_eq_true_eq] at h2
      obtain rfl := sj h
      left
      exact ⟨by omega, rfl, by omega⟩
    · exact nv1 h
theorem item_list {value slice : Expr} {l : Addr} {vs : List Value} {xs : List PV} {k : Int} {t : Tok} {p : PV} (hin : In G s) (hl : s.heap.PlainList l vs.toArray) (hr : C.RepL G vs xs) (hk : smallI k = true)
    (hp : (seqIndex? k xs.length).bind (xs[·]?) = some p) (hs : subscripted slice false (.ref l) (.int k t) = operate [.ref l, .int k t] (getItem (.ref l) (.int k t))) :
    wpAny C.M A (subscriptTail value slice (.ref l) (.int k t)) (Done C G s p) E s := by
  refine k0_2 (smallI_iff hk) fun k1 k2 => ?_
  refine k1_2 (bind_some hp) fun j hj hx => ?_
  refine k1_2 (hr.get hx) fun v hv rv => ?_
  have hlen := hr.length
  have fin : Done C G s p v s := done_self hin rv
  refine tail_any hl.isList.typeIs slot_list_getitem.lookup ?_ hs
  rcases seqIndex_some hj with ⟨h0, rfl, hlt⟩ | ⟨h0, h1, rfl, hlt⟩
  · exact wpAny_getItem_list hl.isList h0 (by lia) (by simpa using hv) fin
  · exact wpAny_getItem_list_neg hl.isList h0 (by simp; lia) (by lia) (by simp only [List.size_toArray, hlen]; simpa using hv) fin
theorem item_ok {value slice : Expr} {v u : Value} {p q r : PV} (hin : In G s) (h1 : C.Rep G v p) (h2 : C.Rep G u q) (h : itemO p q = some r)
    (hs : ∀ o i, subscripted slice false o i = operate [o, i] (getItem o i)) : wpAny C.M A (subscriptTail value slice v u) (Done C G s r) E s := by
  unfold itemO at h
  split at h
  · refine ite_k h (fun _ h => ?_) fun _ h => ?_
    · rename_i hk
      (refine k2_3 h1.sh fun _ _ ž3 => ?_; subst ž3; intro hp hr)
      (refine k1_1 h2.sh fun _ ž2 => ?_; subst ž2)
      exact item_list hin (PlainList.sub hp hin.h) hr hk h (hs _ _)
    · exact nv1 h
  · refine ite_k h (fun _ h => ?_) fun _ h => ?_
    · rename_i hk
      refine k0_2 (smallI_iff hk) fun k1 k2 => ?_
      refine k1_2 (bind_some h) fun j hj hx => ?_
      (refine k2_3 h1.sh fun _ _ ž3 => ?_; subst ž3; intro hp hr)
      (refine k1_1 h2.sh fun _ ž2 => ?_; subst ž2)
      refine k1_2 (hr.get hx) fun v hv rv => ?_
      have hlen := hr.length
      exact item_tupleT (PlainTup.sub hp hin.h).isTup (by lia) (by lia) (by rw [hlen]; exact hj) hv (done_self hin rv) (hs _ _)
    · exact nv1 h
  · refine ite_k h (fun _ h => ?_) fun _ h => ?_
    · rename_i hk
      refine k0_2 (smallI_iff hk) fun k1 k2 => ?_
      rw [Option.map_eq_some_iff] at h
      (refine k1_2 h fun c hc ž3 => ?_; subst ž3)
      (refine k1_1 h1.sh fun _ ž2 => ?_; subst ž2)
      (refine k1_1 h2.sh fun _ ž2 => ?_; subst ž2)
      refine tail_any (T := "str") rfl PySem.F.slot_str_getitem.lookup ?_ (hs _ _)
      refine wpAny_with_toks (Nat.le_refl _) (PyProof.Rows.getItem_str (by rw [Bool.or_eq_false_iff]; exact ⟨decide_eq_false (by lia), decide_eq_false (by lia)⟩) hc ?_)
      intro ht
      exact done_val hin (.str _ _) ht
    · exact nv1 h
  · (refine k2_4 h1.sh fun _ _ ž3 => ?_; subst ž3; intro hd hm hr)
    · (refine k1_1 h2.sh fun _ ž2 => ?_; subst ž2)
      rcases hr.look (.i _) with ⟨q1, q2⟩ | ⟨p, v, q1, q2, q3⟩
      · rw [q1] at h; exact nv1 h
      · rw [q1] at h; obtain rfl := sj h
        refine tail_any (DictOf.sub hd hin.h).typeIs slot_dict_getitem.lookup ?_ (hs _ _)
        exact wpAny_getItem_of (knd := C.dk) (k := DK.i _) (by simp [dkK, DK.is, Value.isInt]) (DictOf.sub hd hin.h).mapOf q2 (done_val hin q3 (Nat.le_succ _))
  · (refine k2_4 h1.sh fun _ _ ž3 => ?_; subst ž3; intro hd hm hr)
    · (refine k1_1 h2.sh fun _ ž2 => ?_; subst ž2)
      rcases hr.look (.s _) with ⟨q1, q2⟩ | ⟨p, v, q1, q2, q3⟩
      · rw [q1] at h; exact nv1 h
      · rw [q1] at h; obtain rfl := sj h
        refine tail_any (DictOf.sub hd hin.h).typeIs slot_dict_getitem.lookup ?_ (hs _ _)
        exact wpAny_getItem_of (knd := C.dk) (k := DK.s _) (by simp [dkK, DK.is, Value.isStrOf]) (DictOf.sub hd hin.h).mapOf q2 (done_val hin q3 (Nat.le_succ _))
  · exact nv1 h
noncomputable def i2 (f g : Sig → Option PV) : Sig → Option PV := fun σ => (f σ).bind fun a => (g σ).bind fun b => itemO a b
theorem EV.item {value slice : Expr} {pos : Pos} {f g : Sig → Option PV} (h1 : EV C d D value f) (h2 : EV C d D slice g)
    (hs : ∀ o i, subscripted slice false o i = operate [o, i] (getItem o i) := by intros; rfl) : EV C d D (.Subscript value slice pos) (i2 f g) := by
  intro A E env σ s G Mu p hr he hst hf
  refine k1_2 (bind_some hf) fun a ha hf => ?_
  refine k1_2 (bind_some hf) fun b hb hf => ?_
  refine Subscript_ (bind2 h1 hr he hst ha fun v s₁ G₁ x₁ r₁ S₁ => bind2 h2 hr he S₁ hb fun u s₂ G₂ x₂ r₂ S₂ => ?_)
  exact wpAny_mono (item_ok S₂.sub (Rep.mono x₂.sub r₁) r₂ hf hs) (fun x s₃ h => Done.after (x₁.trans x₂) h) fun ž1 ž2 h => h
end
end
end Mine
namespace Mine
open PySem
section
theorem size_update (h : Heap) (a : Addr) (f : Obj → Obj) : (h.update a f).objs.size = h.objs.size := by
  unfold Heap.update; simp
theorem runs_size {M : Model} {Γ : Ctx} {p : Pos} {t : Sem PySem.Fin} {fs : List Frame} {s s' : Shared} {e : End} (h : Runs M Γ p t fs s e s') : s.heap.objs.size ≤ s'.heap.objs.size := by
  induction h <;> (try simp only [Shared.setGen, size_update, Heap.size_push] at *) <;> lia
theorem wakes_size {M : Model} {Γ : Ctx} {p : Pos} {g : Nat} {r : Resume} {s s' : Shared} {res : GenResult} (h : Wakes M Γ p g r s res s') : s.heap.objs.size ≤ s'.heap.objs.size := by
  unfold Wakes at h
  split at h
  · exact h.elim
  · split at h
    · (refine k2_4 h fun e₁ s₁ hr _ _ ž6 => ?_; subst ž6)
      have := runs_size hr
      exact this
    · rw [h.2]; exact Nat.le_refl _
    · rw [h.2]; exact Nat.le_refl _
  · (refine k2_4 h fun e₁ s₁ hr _ _ ž6 => ?_; subst ž6)
    have := runs_size hr
    exact this
  · rw [h.2]; exact Nat.le_refl _
  · rw [h.2]; exact Nat.le_refl _
theorem wp_size {α : Type} (M : Model) (Γ : Ctx) (n : Nat) (t : Sem α) : ∀ (Q : α → Pos → Shared → Prop) (E : Value → Pos → Shared → Prop) (p : Pos) (s : Shared), n ≤ s.heap.objs.size → Sem.wp M Γ t Q E p s →
    Sem.wp M Γ t (fun a p' s' => n ≤ s'.heap.objs.size ∧ Q a p' s') (fun e p' s' => n ≤ s'.heap.objs.size ∧ E e p' s') p s := by
  induction t with
  | pure a => intro Q E p s hn h; exact ⟨hn, h⟩
  | raise e => intro Q E p s hn h; exact ⟨hn, h⟩
  | unsupported _ => intro Q E p s _ h; exact h
  | finish _ => intro Q E p s _ h; exact h
  | rule _ k ih => intro Q E p s hn h; exact ih () Q E p s hn h
  | «at» p' k ih => intro Q E p s hn h; exact ih () Q E p' s hn h
  | load a _ k ih => intro Q E p s hn h; refine k1_2 h fun o ho h => ?_; exact ⟨o, ho, ih o Q E p s hn h⟩
  | update a _ f k ih => intro Q E p s hn h; exact ⟨h.1, ih () Q E p _ (by rw [size_update]; exact hn) h.2⟩
  | loadIfAlive a k ih => intro Q E p s hn h; exact ih _ Q E p s hn h
  | point _ k ih => intro Q E p s hn h; exact ih () Q E p s hn h
  | register _ _ => intro Q E p s _ h; exact h
  | alloc o k ih => intro Q E p s hn h; exact ih _ Q E p _ (by rw [Heap.size_push]; lia) h
  | fresh k ih => intro Q E p s hn h; exact ih _ Q E p _ hn h
  | ask k ih => intro Q E p s hn h; exact ih _ Q E p s hn h
  | choose src m k ih => intro Q E p s hn h; exact ⟨h.1, ih _ Q E p _ hn h.2⟩
  | os q _ k ih => intro Q E p s hn h; exact ih _ Q E p _ hn h
  | call c hd _ _ k ih => intro Q E p s hn h; refine k2_2 h fun r s' hr h => ?_; exact ⟨r, s', hr, ih r Q E p s' (Nat.le_trans hn (runs_size hr)) h⟩
  | handled own k ih => intro Q E p s hn h; exact ih _ Q E p s hn h
  | genState g k ih => intro Q E p s hn h; refine k1_2 h fun st hs h => ?_; exact ⟨st, hs, ih _ Q E p s hn h⟩
  | newGen c k ih => intro Q E p s hn h; exact ih _ Q E p _ hn h
  | resume g r _ k ih => intro Q E p s hn h; refine k2_2 h fun res s' hw h => ?_; exact ⟨res, s', hw, ih res Q E p s' (Nat.le_trans hn (wakes_size hw)) h⟩
  | yield _ _ _ _ => intro Q E p s _ h; exact h
  | stack k ih => intro Q E p s hn h; exact ih _ Q E p s hn h
  | fork _ _ => intro Q E p s _ h; exact h
  | thread k ih => intro Q E p s hn h; exact ih _ Q E p s hn h
  | await _ _ _ _ _ => intro Q E p s _ h; exact h
structure Grown (s s' : Shared) : Prop where
  toks : s.toks ≤ s'.toks
  size : s.heap.objs.size ≤ s'.heap.objs.size
theorem Grown.refl (s : Shared) : Grown s s := ⟨Nat.le_refl _, Nat.le_refl _⟩
section
variable {α : Type} {M : Model} {A : Around} {s : Shared}
theorem wpAny_grown {t : Sem α} {Q : α → Shared → Prop} {E : Value → Shared → Prop} (h : wpAny M A t (fun a s' => Grown s s' → Q a s') (fun e s' => Grown s s' → E e s') s) : wpAny M A t Q E s :=
  fun Γ p hΓ => by
    have h1 := Sem.wp_toks M Γ s.toks t _ _ p s (Nat.le_refl _) (h Γ p hΓ)
    have h2 := wp_size M Γ s.heap.objs.size t _ _ p s (Nat.le_refl _) h1
    exact Sem.wp_mono M Γ t (fun a ž1 s' x => x.2.2 ⟨x.2.1, x.1⟩) (fun e ž1 s' x => x.2.2 ⟨x.2.1, x.1⟩) p s h2
end
theorem name_goal {p : Prop} (h : ∀ J : Prop, (p → J) → J) : p := h p id
theorem all_nil {α : Type} {p : α → Prop} : ∀ x ∈ ([] : List α), p x := fun ž1 h => nomatch h
theorem all_cons {α : Type} {p : α → Prop} {a : α} {l : List α} (h : p a) (t : ∀ x ∈ l, p x) : ∀ x ∈ a :: l, p x := fun x hx => (List.mem_cons.mp hx).elim (fun e => e ▸ h) (t x)
end
end Mine
namespace Mine
open PySem PySem.W PySem.Calls PyProof.Rows
section
theorem Ext.ofKeeps {G : Gh} {s : Shared} {h' : Heap} {tk : Nat} (hin : In G s) (g : Grown s { s with heap := h', toks := tk }) (hk : ∀ b o, s.heap.get? b = some o → h'.get? b = some o) : Ext G s G { s with heap := h', toks := tk } :=
  Ext.grow hin g.toks hk g.size
structure ExtM (Mu : Addr → Prop) (G : Gh) (s : Shared) (Mu' : Addr → Prop) (G' : Gh) (s' : Shared) : Prop where
  sub : Le G G'
  new : ∀ a o, G'.h.get? a = some o → G.h.get? a = some o ∨ Mu a ∨ s.heap.objs.size ≤ a
  mu : ∀ a, Mu' a → Mu a ∨ s.heap.objs.size ≤ a
  keep : ∀ a o, ¬ Mu a → isTab o = false → s.heap.get? a = some o → s'.heap.get? a = some o
  size : s.heap.objs.size ≤ s'.heap.objs.size
  os : s'.os = s.os
  gens : AllBare s.gens → AllBare s'.gens
  old : ∀ h₀ : Heap, h₀.objs.size ≤ s.heap.objs.size → (∀ a, Mu a → h₀.objs.size ≤ a) → Old G.cd h₀ s.heap → Old G'.cd h₀ s'.heap
theorem ExtM.refl (Mu : Addr → Prop) (G : Gh) (s : Shared) : ExtM Mu G s Mu G s :=
  ⟨Le.refl _, fun ž1 ž2 e => .inl e, fun ž1 h => .inl h, fun ž1 ž2 ž3 ž4 e => e, Nat.le_refl _, rfl, fun x => x, fun ž1 ž2 ž3 x => x⟩
theorem Ext.toM {Mu : Addr → Prop} {G G' : Gh} {s s' : Shared} (x : Ext G s G' s') : ExtM Mu G s Mu G' s' :=
  ⟨x.sub, fun a o e => (x.new a o e).elim .inl fun h => .inr (.inr h), fun ž1 h => .inl h, fun a o ž1 c e => x.keep a o c e, x.size, x.os, x.gens, fun h₀ hz ž1 z => x.old h₀ hz z⟩
theorem ExtM.trans {Mu Mu₁ Mu₂ : Addr → Prop} {G G₁ G₂ : Gh} {s s₁ s₂ : Shared} (x : ExtM Mu G s Mu₁ G₁ s₁) (y : ExtM Mu₁ G₁ s₁ Mu₂ G₂ s₂) : ExtM Mu G s Mu₂ G₂ s₂ := by
  refine ⟨x.sub.trans y.sub, fun a o e => ?_, fun a h => ?_, fun a o hn c e => ?_, Nat.le_trans x.size y.size, y.os.trans x.os, fun z => y.gens (x.gens z), fun h₀ hz hm z => y.old h₀ (Nat.le_trans hz x.size) (fun a ha => ?_) (x.old h₀ hz hm z)⟩
  · refine Or.elim (y.new a o e) (fun e => ?_) fun ž => Or.elim ž (fun e => ?_) fun e => ?_
    · exact x.new a o e
    · refine Or.elim (x.mu a e) (fun e => ?_) fun e => ?_
      · exact .inr (.inl e)
      · exact .inr (.inr e)
    · exact .inr (.inr (Nat.le_trans x.size e))
  · refine Or.elim (y.mu a h) (fun h => ?_) fun h => ?_
    · exact x.mu a h
    · exact .inr (Nat.le_trans x.size h)
  · refine y.keep a o (fun h => ?_) c (x.keep a o hn c e)
    refine Or.elim (x.mu a h) (fun h => ?_) fun h => ?_
    · exact hn h
    · exact absurd (Heap.lt_size e) (Nat.not_lt.mpr h)
  · refine Or.elim (x.mu a ha) (fun h => ?_) fun h => ?_
    · exact hm a h
    · exact Nat.le_trans hz h
section
variable {C : Wd} {d : Nat} {D : Fd} {A : Around} {E : Value → Shared → Prop} {env : Env} {σ : Sig} {s : Shared} {G : Gh} {Mu : Addr → Prop}
theorem ExtM.one {a : Addr} {h' : Heap} {tk : Nat} (ha : Mu a) (hs : Heap.SameBut a s.heap h') : ExtM Mu G s Mu G { s with heap := h', toks := tk } :=
  ⟨Le.refl _, fun ž1 ž2 e => .inl e, fun ž1 h => .inl h, fun b o hn ž1 e => (hs.2 b fun q => hn (q ▸ ha)).trans e, Nat.le_of_eq hs.1.symm, rfl, fun x => x, fun ž1 ž2 hm z => z.step_same (hm a ha) hs⟩
theorem In.one {a : Addr} {h' : Heap} {tk : Nat} (hin : In G s) (hG : G.h.get? a = none) (hP : ∀ c P, G.cd = some (c, P) → P ≠ a) (hs : Heap.SameBut a s.heap h') (ht : s.toks ≤ tk) : In G { s with heap := h', toks := tk } :=
  ⟨fun b o e => (hs.2 b fun q => by rw [q, hG] at e; exact nv1 e).trans (hin.h b o e), (hin.toks ht).pos, (hin.toks ht).T, hin.cdW (wr := [a]) (fun b hb => by rw [List.mem_singleton] at hb; exact hb ▸ hG) (fun c P e hm => hP c P e (List.mem_singleton.mp hm)) fun b o hb e => (hs.2 b fun q => hb (by simp [q])).trans e⟩
noncomputable def Fd.Inj (D : Fd) : Prop := ∀ x y i, D.nm.lookup x = some i → D.nm.lookup y = some i → x = y
theorem lookup_inj {nm : List (Str × Nat)} (h : (nm.map (·.2)).Nodup) : ∀ x y i, nm.lookup x = some i → nm.lookup y = some i → x = y := by
  induction nm with
  | nil => intro x y i h1; exact nv1 h1
  | cons e r ih =>
    obtain ⟨k, j⟩ := e
    rw [List.map_cons, List.nodup_cons] at h
    intro x y i h1 h2
    have mem : ∀ {z : Str}, r.lookup z = some i → i ∈ r.map (·.2) := fun hz => List.mem_map.mpr ⟨_, mem_of_lookup hz, rfl⟩
    rw [List.lookup_cons] at h1 h2
    cases hx : x == k with
    | true =>
      rw [hx] at h1; obtain rfl := sj h1
      cases hy : y == k with
      | true => rw [eq_of_beq hx, eq_of_beq hy]
      | false => rw [hy] at h2; exact absurd (mem h2) h.1
    | false =>
      rw [hx] at h1
      cases hy : y == k with
      | true => rw [hy] at h2; obtain rfl := sj h2; exact absurd (mem h1) h.1
      | false => rw [hy] at h2; exact ih h.2 x y i h1 h2
theorem Fd.inj_of {D : Fd} (h : (D.nm.map (·.2)).Nodup) : D.Inj := lookup_inj h
noncomputable def Own (D : Fd) (env : Env) (a : Addr) : Prop := a = env.locals ∨ ∃ n, D.own.contains n = true ∧ env.cells.lookup n = some a
theorem St.own (hS : St C D G Mu env σ s) (a : Addr) (h : Own D env a) : Mu a := by
  rcases h with rfl | ⟨n, _, hn⟩
  · exact hS.loc
  · exact (hS.cel n a hn).1
theorem ExtM.up {M₀ Mu : Addr → Prop} {s' : Shared} (hM : ∀ a, M₀ a → Mu a) (x : ExtM M₀ G s M₀ G s') : ExtM Mu G s Mu G s' :=
  ⟨x.sub, fun ž1 ž2 e => .inl e, fun ž1 h => .inl h, fun a o hn t e => x.keep a o (fun h => hn (hM a h)) t e, x.size, x.os, x.gens, fun h₀ hz hm z => x.old h₀ hz (fun a h => hm a (hM a h)) z⟩
noncomputable def Fd.stores (D : Fd) (x : Str) (i : Nat) : Prop := D.nm.lookup x = some i ∧ D.wr x = true ∧ D.Inj
theorem LRep.moved {h h' : Heap} {b : Addr} {a : Addr} {v : Value} {lv : LV} (hs : Heap.SameBut b h h') (hab : lv.own = true → a ≠ b) (x : LRep C G h Mu a v lv) : LRep C G h' Mu a v lv := by
  cases lv with
  | pv p => exact x
  | ol xs =>
    obtain ⟨h1, h2, vs, ⟨n, h3⟩, h4⟩ := x
    exact ⟨h1, h2, vs, ⟨n, (hs.2 a (hab rfl)).trans h3⟩, h4⟩
  | od es =>
    obtain ⟨h1, h2, h3, kvs, h4, h5⟩ := x
    exact ⟨h1, h2, h3, kvs, h4.sameBut hs (hab rfl), h5⟩
theorem LRep.up {h : Heap} {Mu₁ : Addr → Prop} {a : Addr} {v : Value} {lv : LV} (hM : ∀ b, Mu b → Mu₁ b) (x : LRep C G h Mu a v lv) : LRep C G h Mu₁ a v lv := by
  cases lv with
  | pv p => exact x
  | ol xs => exact ⟨x.1, hM _ x.2.1, x.2.2⟩
  | od es => exact ⟨x.1, hM _ x.2.1, x.2.2⟩
theorem store_ok {x : Str} {i : Nat} {v : Value} {lv : LV} {a : Addr} {Q : Unit → Shared → Prop} (Mu₁ : Addr → Prop) (hM : ∀ b, Mu b → Mu₁ b) (hM₁ : ∀ b, Mu₁ b → G.h.get? b = none ∧ b < s.heap.objs.size) (he : EnvOk D env) (hx : D.stores x i) (hS : St C D G Mu env σ s) (hl : LRep C G s.heap Mu₁ a v lv)
    (hown : lv.own = true → ¬ Mu a)
    (k : ∀ s', ExtM (Own D env) G s (Own D env) G s' → St C D G Mu₁ env (σ.set i lv) s' → Q () s') : wpAny C.M A (storeName env x v) Q E s := by
  refine k0_3 hx fun hix hwr hinj => ?_
  have hkind : D.names.lookup x = some .local ∨ (D.names.lookup x = some .cell ∧ D.own.contains x = true) := by
    unfold Fd.wr at hwr
    split at hwr
    · exact .inl ‹_›
    · exact .inr ⟨‹_›, hwr⟩
    · exact nv4 hwr
  refine k2_3 hS.var fun m α hn hv ho => ?_
  have hne : lv.own = true → a ≠ env.locals ∧ ∀ n c, env.cells.lookup n = some c → a ≠ c := fun h => ⟨fun e => hown h (e ▸ hS.loc), fun n c hc e => hown h (e ▸ (hS.cel n c hc).1)⟩
  have fin : ∀ (h' : Heap) (tk : Nat) (b : Addr) (m' : Str → Option Value), Own D env b → Mu b → (b = env.locals ∨ ∃ n, env.cells.lookup n = some b) → Heap.SameBut b s.heap h' → s.toks ≤ tk → h'.Ns env.locals m' → At env m' h' x v →
      (∀ y, y ≠ x → ∀ u, At env m s.heap y u → At env m' h' y u) → (∀ n c, env.cells.lookup n = some c → ∃ u, h'.IsCell c u) → Q () { s with heap := h', toks := tk } := by
    intro h' tk b m' hob hb hwh hs ht hn' hat hoth hcel
    have hGb := (hS.mu b hb).1
    have hPb : ∀ c P, G.cd = some (c, P) → P ≠ b := by
      rcases hwh with rfl | ⟨n, hc⟩
      · refine k3_3 hn fun o es ep h1 h2 _ => ?_
        exact hS.sub.ne_tab h1 (isTab_dict h2)
      · obtain ⟨_, _, v, ⟨o, h1, h2⟩⟩ := hS.cel n b hc
        exact hS.sub.ne_tab h1 (isTab_cell h2)
    have nb : ∀ j lv', σ j = some lv' → lv'.own = true → α j ≠ b := by
      intro j lv' hj hlv e
      refine k0_4 (ho j lv' hj hlv) fun _ q1 q2 _ => ?_
      rcases hwh with rfl | ⟨n, hc⟩
      · exact q1 e
      · exact q2 n b hc e
    have na : lv.own = true → a ≠ b := fun hlv e => hown hlv (e ▸ hb)
    refine k _ (ExtM.one hob hs) ⟨hS.sub.one hGb hPb hs ht, hS.base, fun c hc => ⟨(hM₁ c hc).1, by show c < h'.objs.size; rw [hs.1]; exact (hM₁ c hc).2⟩, hM _ hS.loc, fun n c hm => ⟨hM _ (hS.cel n c hm).1, (hS.cel n c hm).2.1, hcel n c hm⟩, hS.apart,
      m', (fun j => if j = i then a else α j), hn', fun y j lv' hy hj => ?_, fun j lv' hj hlv => ?_⟩
    · by_cases hji : j = i
      · subst hji
        rw [Sig.set_self] at hj
        obtain rfl := sj hj
        have : y = x := hinj y x j hy hix
        subst this
        dsimp only
        rw [if_pos rfl]
        exact ⟨v, hat, hl.moved hs na⟩
      · rw [Sig.set_ne _ _ hji] at hj
        have hyx : y ≠ x := fun e => hji (by rw [e, hix] at hy; obtain rfl := sj hy; rfl)
        refine k1_2 (hv y j lv' hy hj) fun u h1 h2 => ?_
        dsimp only
        rw [if_neg hji]
        exact ⟨u, hoth y hyx u h1, (h2.up hM).moved hs (nb j lv' hj)⟩
    · by_cases hji : j = i
      · subst hji
        rw [Sig.set_self] at hj
        obtain rfl := sj hj
        have q0 := hl.mu (by cases lv <;> first | rfl | exact hlv)
        refine k0_2 (hne hlv) fun q1 q2 => ?_
        dsimp only
        rw [if_pos rfl]
        refine ⟨q0, q1, q2, fun k lv'' hk hlv'' e => ?_⟩
        by_cases hkj : k = j
        · exact hkj.symm
        · rw [Sig.set_ne _ _ hkj] at hk
          rw [if_neg hkj] at e
          exact absurd (e ▸ (ho k lv'' hk hlv'').1) (hown hlv)
      · rw [Sig.set_ne _ _ hji] at hj
        dsimp only
        rw [if_neg hji]
        refine k0_4 (ho j lv' hj hlv) fun q0 q1 q2 q3 => ?_
        refine ⟨hM _ q0, q1, q2, fun k lv'' hk hlv'' e => ?_⟩
        by_cases hki : k = i
        · subst hki
          rw [Sig.set_self] at hk
          obtain rfl := sj hk
          rw [if_pos rfl] at e
          exact absurd (e ▸ q0) (hown hlv'')
        · rw [Sig.set_ne _ _ hki] at hk
          rw [if_neg hki] at e
          exact q3 k lv'' hk hlv'' e
  have atLoc : ∀ {y : Str} {u : Value} {h' : Heap} {m' : Str → Option Value}, (∀ c, (∃ n, env.cells.lookup n = some c) → ∀ w, s.heap.IsCell c w → h'.IsCell c w) → (m y = some u → m' y = some u) → At env m s.heap y u → At env m' h' y u := by
    intro y u h' m' hc hm hat
    unfold At at hat ⊢
    split at hat
    · exact hm hat
    · refine k1_2 hat fun c h1 h2 => ?_; exact ⟨c, h1, hc c ⟨_, h1⟩ _ h2⟩
    · refine k1_2 hat fun c h1 h2 => ?_; exact ⟨c, h1, hc c ⟨_, h1⟩ _ h2⟩
    · exact hat
  rcases hkind with hk | ⟨hk, hown'⟩
  · have hk' : env.kindOf x = some .local := (he.kindOf x).trans hk
    refine wpAny_storeName_local hk' hn (fun h' hn' hs => ?_) (by rw [he.kind]; rfl)
    refine fin h' _ env.locals _ (.inl rfl) hS.loc (.inl rfl) hs (Nat.le_succ _) hn' ?_ (fun y hy u hat => ?_) (fun n c hm => ?_)
    · unfold At; rw [hk']; simp
    · refine atLoc (fun c ⟨n, hm⟩ w hc => hc.sameBut hs (hS.cel n c hm).2.1) (fun e => ?_) hat
      rw [if_neg hy]; exact e
    · obtain ⟨_, h2, u, h3⟩ := hS.cel n c hm
      exact ⟨u, h3.sameBut hs h2⟩
  · have hk' : env.kindOf x = some .cell := (he.kindOf x).trans hk
    refine k1_1 (he.cells x hk) fun c hc => ?_
    obtain ⟨h1, h2, w, h3⟩ := hS.cel x c hc
    refine wpAny_storeName_cell he.kind hk' hc h3 (fun h' hc' hs => ?_)
    refine fin h' _ c m (.inr ⟨x, hown', hc⟩) h1 (.inr ⟨x, hc⟩) hs (Nat.le_refl _) (hn.sameBut hs (Ne.symm h2)) ?_ (fun y hy u hat => ?_) (fun n b hm => ?_)
    · unfold At; rw [hk']; exact ⟨c, hc, hc'⟩
    · unfold At at hat ⊢
      have nec : ∀ b, env.cells.lookup y = some b → b ≠ c := fun b hb e => by
        subst e
        exact hy (hS.apart y x b hb hc)
      split at hat
      · exact hat
      · refine k1_2 hat fun b q1 q2 => ?_; exact ⟨b, q1, q2.sameBut hs (nec b q1)⟩
      · refine k1_2 hat fun b q1 q2 => ?_; exact ⟨b, q1, q2.sameBut hs (nec b q1)⟩
      · exact hat
    · by_cases hb : b = c
      · subst hb; exact ⟨_, hc'⟩
      · obtain ⟨_, _, u, q⟩ := hS.cel n b hm
        exact ⟨u, q.sameBut hs hb⟩
end
end
section
inductive Fl where
  | next | brk | cont
  | ret (p : PV)
noncomputable def FRep (C : Wd) (G : Gh) : Flow → Fl → Prop
  | .next, .next => True
  | .brk, .brk => True
  | .cont, .cont => True
  | .ret v, .ret p => C.Rep G v p
  | _, _ => False
inductive End (C : Wd) (D : Fd) (Mu : Addr → Prop) (env : Env) (G : Gh) (s : Shared) (r : Fl) (σ' : Sig) (fl : Flow) (s' : Shared) : Prop
  | intro (G' : Gh) (Mu' : Addr → Prop) (e : ExtM Mu G s Mu' G' s') (S : St C D G' Mu' env σ' s') (f : FRep C G' fl r)
noncomputable def EX (C : Wd) (d : Nat) (D : Fd) (b : List Stmt) (F : Sig → Option (Fl × Sig)) : Prop :=
  ∀ (A : Around) (E : Value → Shared → Prop) (env : Env) (σ : Sig) (s : Shared) (G : Gh) (Mu : Addr → Prop) (r : Fl) (σ' : Sig), Rm d A → EnvOk D env → D.Inj → St C D G Mu env σ s → F σ = some (r, σ') →
    wpAny C.M A (execs b env) (End C D Mu env G s r σ') E s
noncomputable def ES (C : Wd) (d : Nat) (D : Fd) (st : Stmt) (F : Sig → Option (Fl × Sig)) : Prop :=
  ∀ (A : Around) (E : Value → Shared → Prop) (env : Env) (σ : Sig) (s : Shared) (G : Gh) (Mu : Addr → Prop) (r : Fl) (σ' : Sig), Rm d A → EnvOk D env → D.Inj → St C D G Mu env σ s → F σ = some (r, σ') →
    wpAny C.M A (exec st env) (End C D Mu env G s r σ') E s
theorem End.after {C : Wd} {D : Fd} {Mu Mu₁ : Addr → Prop} {env : Env} {G G₁ : Gh} {s s₁ s₂ : Shared} {r : Fl} {σ' : Sig} {fl : Flow} (x : ExtM Mu G s Mu₁ G₁ s₁) (h : End C D Mu₁ env G₁ s₁ r σ' fl s₂) : End C D Mu env G s r σ' fl s₂ :=
  let ⟨G', Mu', e, S, f⟩ := h; ⟨G', Mu', x.trans e, S, f⟩
noncomputable def CallOK (C : Wd) (d : Nat) (f : Value) (Φ : List PV → Option PV) : Prop :=
  ∀ (A : Around) (E : Value → Shared → Prop) (s : Shared) (G : Gh) (vs : List Value) (ps : List PV) (p : PV), Rm d A → Bs C G → In G s → C.RepL G vs ps → Φ ps = some p → wpAny C.M A (call f vs) (Done C G s p) E s
section
variable {C : Wd} {d : Nat} {D : Fd}
theorem any_star (pos : Pos) {env : Env} : ∀ {es : List Expr} {fs : List (Sig → Option PV)}, EVs C d D es fs → ((backTo pos (starEach es env)).any fun x => x.1) = false := by
  intro es fs h
  induction h with
  | nil => rfl
  | cons _ hst _ ih => rw [hst]; exact ih
noncomputable def callO (Φ : List PV → Option PV) (fs : List (Sig → Option PV)) : Sig → Option PV := fun σ => (seqO fs σ).bind Φ
theorem EV.callK {x : Str} {np pos : Pos} {e : Expr} {rest : List Expr} {f : Value} {Φ : List PV → Option PV} {fs : List (Sig → Option PV)} (hx : D.names.lookup x = some .globalImplicit) (hv : nsIn C.K mainGlobals x = some (some f)) (hk : keepIn C.K f = true)
    (hd : (x == ("__debug__" : Str)) = false) (hc : CallOK C d f Φ) (ha : EVs C d D (e :: rest) fs) : EV C d D (.Call (.Name x np) (e :: rest) [] pos) (callO Φ fs) := by
  intro A E env σ s G Mu p hr he hs hf
  refine k1_2 (bind_some hf) fun ps hps hf' => ?_
  refine wpAny_Call_ofName ?_
  refine wpAny_mono ((EV.glob (pos := np) (.obj f) hx hv (fun G ž1 => .obj f) hd) A E env σ s G Mu _ hr he hs rfl) (fun v s₁ hv₁ => ?_) fun ž1 ž2 h => h
  obtain ⟨G₁, x₁, r₁⟩ := hv₁
  obtain rfl := r₁.sh
  have S₁ := hs.ext x₁
  cases ha with
  | @cons _ _ _ fs' h1 hst h2 =>
    refine callWith_K (S₁.base.X.keeps S₁.sub.h) hk ?_ (hst _ _) (any_star pos h2)
    refine wpAny_mono (spliced_ok (.cons h1 hst h2) hr he S₁ hps) (fun vs s₂ ⟨G₂, x₂, r₂⟩ => ?_) fun ž1 ž2 h => h
    have S₂ := S₁.ext x₂
    exact ⟨S₂.base.X.keeps S₂.sub.h, wpAny_mono (hc A E s₂ G₂ vs ps p hr S₂.base S₂.sub r₂ hf') (fun v s₃ h => Done.after (x₁.trans x₂) h) fun ž1 ž2 h => h⟩
theorem EV.callT {x : Str} {np pos : Pos} {e : Expr} {rest : List Expr} {T : String} {Φ : List PV → Option PV} {fs : List (Sig → Option PV)} (hx : D.names.lookup x = some .globalImplicit) (hv : nsIn C.K mainGlobals x = some none) (hb : bootBuiltins x = some (.type T)) (hne : x ≠ "__name__")
    (hd : (x == ("__debug__" : Str)) = false) (hc : CallOK C d (.type T) Φ) (ha : EVs C d D (e :: rest) fs) : EV C d D (.Call (.Name x np) (e :: rest) [] pos) (callO Φ fs) := by
  intro A E env σ s G Mu p hr he hs hf
  refine k1_2 (bind_some hf) fun ps hps hf' => ?_
  refine wpAny_Call_ofName ?_
  refine wpAny_mono ((EV.built (pos := np) hx hv hb hne hd) A E env σ s G Mu _ hr he hs rfl) (fun v s₁ hv₁ => ?_) fun ž1 ž2 h => h
  obtain ⟨G₁, x₁, r₁⟩ := hv₁
  obtain rfl := r₁.sh
  have S₁ := hs.ext x₁
  cases ha with
  | @cons _ _ _ fs' h1 hst h2 =>
    refine PyProof.Rows.callWith_type1 ?_ (hst _ _) (any_star pos h2)
    refine wpAny_mono (spliced_ok (.cons h1 hst h2) hr he S₁ hps) (fun vs s₂ ⟨G₂, x₂, r₂⟩ => ?_) fun ž1 ž2 h => h
    have S₂ := S₁.ext x₂
    exact wpAny_mono (hc A E s₂ G₂ vs ps p hr S₂.base S₂.sub r₂ hf') (fun v s₃ h => Done.after (x₁.trans x₂) h) fun ž1 ž2 h => h
theorem EV.callB {x : Str} {np pos : Pos} {e : Expr} {rest : List Expr} {T : String} {Φ : List PV → Option PV} {fs : List (Sig → Option PV)} (hx : D.names.lookup x = some .globalImplicit) (hv : nsIn C.K mainGlobals x = some none) (hb : bootBuiltins x = some (.builtin T)) (hne : x ≠ "__name__")
    (hd : (x == ("__debug__" : Str)) = false) (hc : CallOK C d (.builtin T) Φ) (ha : EVs C d D (e :: rest) fs) : EV C d D (.Call (.Name x np) (e :: rest) [] pos) (callO Φ fs) := by
  intro A E env σ s G Mu p hr he hs hf
  refine k1_2 (bind_some hf) fun ps hps hf' => ?_
  refine wpAny_Call_ofName ?_
  refine wpAny_mono ((EV.built (pos := np) hx hv hb hne hd) A E env σ s G Mu _ hr he hs rfl) (fun v s₁ hv₁ => ?_) fun ž1 ž2 h => h
  obtain ⟨G₁, x₁, r₁⟩ := hv₁
  obtain rfl := r₁.sh
  have S₁ := hs.ext x₁
  refine callWith_builtin (any_star pos ha) ?_
  have key := spliced_ok ha (pos := pos) (E := E) hr he S₁ hps
  cases ha with
  | @cons _ _ _ fs' h1 hst h2 =>
    have hb' : backTo pos (starEach (e :: rest) env) = (false, eval e env) :: backTo pos (starEach rest env) := by rw [hst]; rfl
    rw [hb'] at key ⊢
    refine evalArgs_plain (wpAny_mono key (fun vs s₂ ⟨G₂, x₂, r₂⟩ => ?_) fun ž1 ž2 h => h)
    have S₂ := S₁.ext x₂
    exact wpAny_mono (hc A E s₂ G₂ vs ps p hr S₂.base S₂.sub r₂ hf') (fun v s₃ h => Done.after (x₁.trans x₂) h) fun ž1 ž2 h => h
noncomputable def argSig (ps : List PV) : Sig := fun i => (ps[i]?).map LV.pv
theorem cellsFrom_some : ∀ (names : List (Str × NameKind)) (n : Nat) (acc : List (Str × Addr)) (x : Str), (names.lookup x = some .cell ∨ (acc.lookup x).isSome = true) → ((cellsFrom n names acc).lookup x).isSome = true := by
  intro names
  induction names with
  | nil => intro n acc x h; refine Or.elim h (fun h => ?_) fun h => ?_; exact nv1 h; exact h
  | cons e r ih =>
    obtain ⟨y, k⟩ := e
    intro n acc x h
    unfold cellsFrom
    have hacc : ∀ a : Addr, (acc.lookup x).isSome = true → (((y, a) :: acc).lookup x).isSome = true := fun a h => by
      rw [List.lookup_cons]
      split
      · rfl
      · exact h
    split
    · rename_i hk
      refine ih _ _ _ ?_
      refine Or.elim h (fun h => ?_) fun h => ?_
      · rw [List.lookup_cons] at h
        cases hx : x == y with
        | true => right; rw [List.lookup_cons, hx]; rfl
        | false => rw [hx] at h; exact .inl h
      · exact .inr (hacc _ h)
    · rename_i hk
      refine ih _ _ _ ?_
      refine Or.elim h (fun h => ?_) fun h => ?_
      · rw [List.lookup_cons] at h
        cases hx : x == y with
        | true => rw [hx] at h; obtain rfl := sj h; exact absurd rfl hk
        | false => rw [hx] at h; exact .inl h
      · exact .inr h
theorem bindL_zip (kindOf : Str → Option NameKind) : ∀ (params : List Str) (vals : List Value) (m : Str → Option Value) (i : Nat) (x : Str) (v : Value), params.Nodup → params[i]? = some x → vals[i]? = some v → params.length = vals.length → kindOf x = some .local →
    bindL kindOf (params.zip vals) m x = some v := by
  intro params
  induction params with
  | nil => intro vals m i x v _ h; simp at h
  | cons y r ih =>
    intro vals m i x v hn hx hv hl hk
    cases vals with
    | nil => simp at hv
    | cons u us =>
      rw [List.nodup_cons] at hn
      rw [List.zip_cons_cons]
      unfold bindL
      cases i with
      | zero =>
        simp only [List.getElem?_cons_zero, Option.some.injEq] at hx hv
        subst hx hv
        rw [if_pos hk]
        have stay : ∀ (ps : List Str) (vs : List Value) (m : Str → Option Value), y ∉ ps → bindL kindOf (ps.zip vs) m y = m y := by
          intro ps
          induction ps with
          | nil => intro vs m _; rfl
          | cons z ps ih2 =>
            intro vs m hz
            cases vs with
            | nil => rfl
            | cons w ws =>
              rw [List.zip_cons_cons]
              unfold bindL
              rw [ih2 ws _ (fun h => hz (.tail _ h))]
              split
              · dsimp only; rw [if_neg fun e => hz (by rw [e]; exact .head _)]
              · rfl
        rw [stay r us _ hn.1]
        simp
      | succ i =>
        exact ih us _ i x v hn.2 (by simpa using hx) (by simpa using hv) (by simpa using hl) hk
theorem bindC_zip (kindOf : Str → Option NameKind) : ∀ (params : List Str) (vals : List Value) (m : Str → Option Value) (i : Nat) (x : Str) (v : Value), params.Nodup → params[i]? = some x → vals[i]? = some v → params.length = vals.length → kindOf x ≠ some .local →
    bindC kindOf (params.zip vals) m x = some v := by
  intro params
  induction params with
  | nil => intro vals m i x v _ h; simp at h
  | cons y r ih =>
    intro vals m i x v hn hx hv hl hk
    cases vals with
    | nil => simp at hv
    | cons u us =>
      rw [List.nodup_cons] at hn
      rw [List.zip_cons_cons]
      unfold bindC
      cases i with
      | zero =>
        simp only [List.getElem?_cons_zero, Option.some.injEq] at hx hv
        subst hx hv
        rw [if_neg hk]
        have stay : ∀ (ps : List Str) (vs : List Value) (m : Str → Option Value), y ∉ ps → bindC kindOf (ps.zip vs) m y = m y := by
          intro ps
          induction ps with
          | nil => intro vs m _; rfl
          | cons z ps ih2 =>
            intro vs m hz
            cases vs with
            | nil => rfl
            | cons w ws =>
              rw [List.zip_cons_cons]
              unfold bindC
              rw [ih2 ws _ (fun h => hz (.tail _ h))]
              split
              · rfl
              · dsimp only; rw [if_neg fun e => hz (by rw [e]; exact .head _)]
        rw [stay r us _ hn.1]
        simp
      | succ i =>
        exact ih us _ i x v hn.2 (by simpa using hx) (by simpa using hv) (by simpa using hl) hk
theorem Rm.deeper {A : Around} {env : Env} (h : Rm (d + 1) A) : Rm d (A.deeper env) :=
  ⟨h.handled, by have := h.depth; show A.depth + 1 + d < _; lia, by have := h.units; show A.units + 3 + 8 * d + 200 < _; lia⟩
theorem fn_ok {a : Addr} {o : Obj} {fd : FuncData} {body : List Stmt} {F : Sig → Option (Fl × Sig)} {Φ : List PV → Option PV} (params : List Str)
    (ho : C.K.lookup a = some o) (hdata : o.data = .func fd) (hcd : codeIn C.K fd.code fd.qualname = true) (hbody : fd.body = .stmts body) (hclo : fd.closure = []) (hg : fd.globals = mainGlobals) (hb : fd.builtins = builtinsNs)
    (hD : D.names = fd.scope.names) (hinj : (D.nm.map (·.2)).Nodup) (hnd : params.Nodup) (hbind : ∀ vals : List Value, vals.length = params.length → bindArgs fd ⟨vals, []⟩ = pure (params.zip vals))
    (hpar : ∀ x i, D.nm.lookup x = some i → i < params.length → params[i]? = some x) (hkind : ∀ x ∈ params, D.names.lookup x = some .local ∨ D.names.lookup x = some .cell) (hfree : ∀ x, D.names.lookup x ≠ some .free)
    (hEX : EX C d D body F) (hΦ : ∀ qs p, Φ qs = some p → qs.length = params.length ∧ ∃ σ', F (argSig qs) = some (.ret p, σ')) (hcode : ∀ c, D.cd = some c → fd.code = .ref c)
    (hco : fd.scope.isCoroutine = false := by rfl) (hgen : fd.scope.isGenerator = false := by rfl) (hk : fd.scope.kind = .function := by rfl) : CallOK C (d + 1) (.ref a) Φ := by
  intro A E s G vs ps p hr hB hs hv hf
  obtain ⟨hlen, σ', hF⟩ := hΦ ps p hf
  have hlv := hv.length
  have lim := hB.lim.keeps hs.h
  have X := hB.X.keeps hs.h
  refine wpAny_call ?_
  refine codeAny_call_function (by have := hr.depth; lia) (X _ _ ho) hdata hco hgen hbody (codeRec_of X hcd) ?_
  rw [hbind vs (by lia), hclo]
  have hkd : ∀ x ∈ params.zip vs, fd.scope.names.lookup x.1 = some .local ∨ (fd.scope.names.lookup x.1 = some .cell ∧ ((cellsFrom (s.heap.objs.size + 1) fd.scope.names []).lookup x.1).isSome = true) := by
    intro x hx
    refine Or.elim (hkind x.1 (List.of_mem_zip hx).1) (fun h => ?_) fun h => ?_
    · exact .inl (hD ▸ h)
    · exact .inr ⟨hD ▸ h, cellsFrom_some _ _ _ _ (.inl (hD ▸ h))⟩
  refine wpAny_pure (wpAny_grown (wpAny_newFunctionEnv_cells hk hkd fun env he s₁ x gr => ?_))
  refine ⟨lim.keeps x.toInCall.keep, ?_⟩
  have henv : EnvOk D env := by
    subst he
    exact ⟨hk, hD.symm, hg, hb, fun y hy => Option.isSome_iff_exists.mp (cellsFrom_some _ _ _ _ (.inl (hD ▸ hy))), fun y hy => absurd hy (hfree y), hcode⟩
  (refine k2_1 x.toInCall.same fun h₁ tk ž3 => ?_; subst ž3)
  have x₁ : Ext G s G { s with heap := h₁, toks := tk } := Ext.ofKeeps hs gr x.toInCall.keep
  have fresh : ∀ b, (b = env.locals ∨ ∃ n, env.cells.lookup n = some b) → s.heap.objs.size ≤ b ∧ b < h₁.objs.size := by
    rintro b (rfl | ⟨n, hm⟩)
    · exact ⟨x.toInCall.fresh, x.toInCall.ns.lt⟩
    · exact ⟨Nat.le_trans x.toInCall.fresh (Nat.le_of_lt (x.above n b (mem_of_lookup hm))), (x.cell n b hm).lt⟩
  have hG : ∀ b, s.heap.objs.size ≤ b → G.h.get? b = none := fun b hb => by
    cases e : G.h.get? b with
    | none => rfl
    | some ob => exact absurd (Heap.lt_size (hs.h b ob e)) (Nat.not_lt.mpr hb)
  have S₁ : St C D G (fun b => b = env.locals ∨ ∃ n, env.cells.lookup n = some b) env (argSig ps) { s with heap := h₁, toks := tk } := by
    refine ⟨x₁.inn, hB, fun b hb => ⟨hG b (fresh b hb).1, (fresh b hb).2⟩, .inl rfl, fun n c hm => ⟨.inr ⟨n, hm⟩, Nat.ne_of_gt (x.above n c (mem_of_lookup hm)), _, x.cell n c hm⟩, (fun n n' c h1 h2 => name_of_addr x.apart (mem_of_lookup h1) (mem_of_lookup h2)), _, fun ž1 => 0, x.toInCall.ns, fun y i lv hy hi => ?_, fun i lv hi hlv => ?_⟩
    · unfold argSig at hi
      rw [Option.map_eq_some_iff] at hi
      (refine k1_2 hi fun q hq ž3 => ?_; subst ž3)
      refine k1_2 (hv.get hq) fun v hv' rv => ?_
      have hi' : i < params.length := by
        have := (List.getElem?_eq_some_iff.mp hq).1
        lia
      have hpy := hpar y i hy hi'
      refine ⟨v, ?_, rv⟩
      unfold At
      rw [henv.kindOf]
      refine Or.elim (hkind y (List.mem_of_getElem? hpy)) (fun h => ?_) fun h => ?_
      · rw [h]
        exact bindL_zip _ params vs _ i y v hnd hpy hv' (by lia) ((henv.kindOf y).trans h)
      · rw [h]
        refine k1_1 (henv.cells y h) fun c hc => ?_
        refine ⟨c, hc, ?_⟩
        have := x.cell y c hc
        rw [bindC_zip _ params vs _ i y v hnd hpy hv' (by lia) (by rw [henv.kindOf, h]; exact fun q => nomatch q)] at this
        exact this
    · unfold argSig at hi
      rw [Option.map_eq_some_iff] at hi
      (refine k1_2 hi fun q hq ž3 => ?_; subst ž3)
      exact nv4 hlv
  subst he
  refine codeAny_func (wpAny_mono (hEX _ _ _ _ _ _ _ _ _ (Rm.deeper hr) henv (Fd.inj_of hinj) S₁ hF) (fun fl s' hend => ?_) fun ž1 ž2 h => h)
  obtain ⟨G', Mu', e, S', hfl⟩ := hend
  cases fl with
  | ret v =>
    refine ⟨G', ⟨e.sub, S'.sub, fun b ob hb => ?_, fun b ob ht hb => ?_, Nat.le_trans x₁.size e.size, e.os, e.gens, fun h₀ hz z => ?_⟩, hfl⟩
    · refine Or.elim (e.new b ob hb) (fun h => ?_) fun ž => Or.elim ž (fun h => ?_) fun h => ?_
      · exact .inl h
      · exact .inr (fresh b h).1
      · exact .inr (Nat.le_trans x₁.size h)
    · refine e.keep b ob (fun h => ?_) ht (x.toInCall.keep b ob hb)
      exact absurd (Heap.lt_size hb) (Nat.not_lt.mpr (fresh b h).1)
    · exact e.old h₀ (Nat.le_trans hz x₁.size) (fun b hb => Nat.le_trans hz (fresh b hb).1) (x₁.old h₀ hz z)
  | next => exact hfl.elim
  | brk => exact hfl.elim
  | cont => exact hfl.elim
end
end
section
section
variable {C : Wd} {d : Nat} {D : Fd} {A : Around} {E : Value → Shared → Prop} {env : Env} {σ : Sig} {s : Shared} {G : Gh} {Mu : Addr → Prop}
noncomputable def seqF (F H : Sig → Option (Fl × Sig)) : Sig → Option (Fl × Sig) := fun σ => (F σ).bind fun r => match r with
  | (.next, σ₁) => H σ₁
  | r => some r
noncomputable def nextF : Sig → Option (Fl × Sig) := fun σ => some (.next, σ)
theorem EX.nil : EX C d D [] nextF := by
  intro A E env σ s G Mu r σ' hr he hi hs hF
  cases hF
  exact wpAny_pure ⟨G, Mu, ExtM.refl .., hs, trivial⟩
theorem EX.cons {st : Stmt} {rest : List Stmt} {F H : Sig → Option (Fl × Sig)} (h1 : ES C d D st F) (h2 : EX C d D rest H) : EX C d D (st :: rest) (seqF F H) := by
  intro A E env σ s G Mu r σ' hr he hi hs hF
  unfold seqF at hF
  (refine k1_2 (bind_some hF) fun ž1 => ?_; obtain ⟨r₁, σ₁⟩ := ž1; intro hF₁ hF₂)
  refine wpAny_execs_cons (wpAny_mono (h1 A E env σ s G Mu r₁ σ₁ hr he hi hs hF₁) (fun fl s₁ hend => ?_) fun ž1 ž2 h => h)
  obtain ⟨G₁, Mu₁, e₁, S₁, f₁⟩ := hend
  cases r₁ with
  | next =>
    cases fl <;> first | exact f₁.elim | skip
    exact wpAny_mono (h2 A E env σ₁ s₁ G₁ Mu₁ r σ' hr he hi S₁ hF₂) (fun fl s₂ h => End.after e₁ h) fun ž1 ž2 h => h
  | ret p =>
    cases hF₂
    cases fl <;> first | exact f₁.elim | exact ⟨G₁, Mu₁, e₁, S₁, f₁⟩
  | brk =>
    cases hF₂
    cases fl <;> first | exact f₁.elim | exact ⟨G₁, Mu₁, e₁, S₁, f₁⟩
  | cont =>
    cases hF₂
    cases fl <;> first | exact f₁.elim | exact ⟨G₁, Mu₁, e₁, S₁, f₁⟩
noncomputable def setF (i : Nat) (f : Sig → Option PV) : Sig → Option (Fl × Sig) := fun σ => (f σ).bind fun p => some (.next, σ.set i (.pv p))
theorem store_pv {x : Str} {i : Nat} {v : Value} {p : PV} {Q : Unit → Shared → Prop} (he : EnvOk D env) (hi : D.Inj) (hx : D.nm.lookup x = some i) (hk : D.wr x = true) (hS : St C D G Mu env σ s) (hp : C.Rep G v p)
    (k : ∀ s', ExtM (Own D env) G s (Own D env) G s' → St C D G Mu env (σ.set i (.pv p)) s' → Q () s') : wpAny C.M A (storeName env x v) Q E s :=
  store_ok (a := 0) (lv := .pv p) Mu (fun ž1 h => h) hS.mu he ⟨hx, hk, hi⟩ hS hp (fun h => nomatch h) k
theorem ES.assign {x : Str} {pos pos' : Pos} {value : Expr} {f : Sig → Option PV} (i : Nat) (hx : D.nm.lookup x = some i) (hk : D.wr x = true) (hf : EV C d D value f)
    (hs : ∀ env, EnvOk D env → swapsWith value (some (.Name x pos')) pos.line env = pure false) : ES C d D (.Assign [.Name x pos'] value pos) (setF i f) := by
  intro A E env σ s G Mu r σ' hr he hi hS hF
  refine k1_2 (bind_some hF) fun p hp hF => ?_
  cases hF
  refine wpAny_Assign_Name (bind2 hf hr he hS hp fun v s₁ G₁ x₁ r₁ S₁ => ?_) (hs env he)
  exact store_pv he hi hx hk S₁ r₁ fun s₂ e₂ S₂ => ⟨G₁, Mu, (Ext.toM x₁).trans (e₂.up S₁.own), S₂, trivial⟩
noncomputable def ifF (t : Sig → Option Bool) (F H : Sig → Option (Fl × Sig)) : Sig → Option (Fl × Sig) := fun σ => (t σ).bind fun b => if b then F σ else H σ
theorem ES.ifS {t : Expr} {b o : List Stmt} {pos : Pos} {ft : Sig → Option Bool} {F H : Sig → Option (Fl × Sig)} (ht : IT C d D t ft) (h1 : EX C d D b F) (h2 : EX C d D o H) : ES C d D (.If t b o pos) (ifF ft F H) := by
  intro A E env σ s G Mu r σ' hr he hi hS hF
  refine k1_2 (bind_some hF) fun c hc hF => ?_
  refine wpAny_If (itBind ht hr he hS hc fun s₁ G₁ x₁ S₁ => ?_)
  cases c with
  | true => exact wpAny_mono (h1 A E env σ s₁ G₁ Mu r σ' hr he hi S₁ hF) (fun fl s₂ h => End.after (Ext.toM x₁) h) fun ž1 ž2 h => h
  | false => exact wpAny_mono (h2 A E env σ s₁ G₁ Mu r σ' hr he hi S₁ hF) (fun fl s₂ h => End.after (Ext.toM x₁) h) fun ž1 ž2 h => h
noncomputable def retF (f : Sig → Option PV) : Sig → Option (Fl × Sig) := fun σ => (f σ).bind fun p => some (.ret p, σ)
theorem ES.ret {e : Expr} {pos : Pos} {f : Sig → Option PV} (hf : EV C d D e f) : ES C d D (.Return (some e) pos) (retF f) := by
  intro A E env σ s G Mu r σ' hr he hi hS hF
  refine k1_2 (bind_some hF) fun p hp hF => ?_
  cases hF
  exact wpAny_Return_some (bind2 hf hr he hS hp fun v s₁ G₁ x₁ r₁ S₁ => ⟨G₁, Mu, Ext.toM x₁, S₁, r₁⟩)
noncomputable def int2 (f : Int → Int → Int) : PV → PV → Option PV
  | .int a, .int b => some (.int (f a b))
  | _, _ => none
theorem int2_k {f : Int → Int → Int} {a b r : PV} {P : PV → PV → Prop} (h : int2 f a b = some r) (k : ∀ x y, r = .int (f x y) → P (.int x) (.int y)) : P a b := by
  unfold int2 at h
  split at h
  · exact k _ _ (Option.some.inj h).symm
  · exact nv1 h
noncomputable def PV.inp : Operator → PV → PV → Option PV
  | .Add => int2 fun a b => a + b
  | .Sub => int2 fun a b => a - b
  | _ => noP
theorem inp_ok {v u : Value} {a b r : PV} (op : Operator) (hs : In G s) (h1 : C.Rep G v a) (h2 : C.Rep G u b) (h : PV.inp op a b = some r) : wpAny C.M A (inplaceOp op v u) (Done C G s r) E s := by
  revert h1 h2
  cases op with
  | Add => exact int2_k (P := fun a b => C.Rep G v a → C.Rep G u b → wpAny C.M A (inplaceOp .Add v u) (Done C G s r) E s) h fun x y h h1 h2 => by subst h; (refine k1_1 h1.sh fun _ ž2 => ?_; subst ž2); (refine k1_1 h2.sh fun _ ž2 => ?_; subst ž2); exact iadd_int (done_val hs (.int _ _) (Nat.le_succ _))
  | Sub => exact int2_k (P := fun a b => C.Rep G v a → C.Rep G u b → wpAny C.M A (inplaceOp .Sub v u) (Done C G s r) E s) h fun x y h h1 h2 => by subst h; (refine k1_1 h1.sh fun _ ž2 => ?_; subst ž2); (refine k1_1 h2.sh fun _ ž2 => ?_; subst ž2); exact isub_int (done_val hs (.int _ _) (Nat.le_succ _))
  | _ => exact nomatch h
set_option tactic.hygienic true in
theorem ES.aug {x : Str} {pos pos' : Pos} {op : Operator} {value : Expr} {f : Sig → Option PV} (i : Nat) (hx : D.nm.lookup x = some i) (hk : D.wr x = true) (hf : EV C d D value f)
    (hd : (x == ("__debug__" : Str)) = false := by rfl) (hc : (x == ("__classdict__" : Str)) = false := by rfl) : ES C d D (.AugAssign (.Name x pos') op value pos) (setF i fun σ => (vv i σ).bind fun a => (f σ).bind fun b => PV.inp op a b) := by
  intro A E env σ s G Mu r σ' hr he hi hS hF
  refine k1_2 (bind_some hF) fun p hp hF => ?_
  cases (hF)
  refine k1_2 (bind_some hp) fun a ha hp => ?_
  refine k1_2 (bind_some hp) fun b hb hp => ?_
  have hv := (EV.var (C := C) (d := d) (pos := pos') i hx hd hc) A E env σ s G Mu a hr he hS ha
  have hv' : wpAny C.M A (loadName env x) (Done C G s a) E s := by
    refine k2_3 hS.var fun m α hn hv ho => ?_
    unfold vv at ha
    split at ha
    · rename_i q hq
      cases (ha)
      refine k1_2 (hv x i _ hx hq) fun v h1 h2 => ?_
      have fin : Done C G s a v s := ⟨G, Ext.refl hS.sub, h2⟩
      unfold At at h1
      split at h1
      · rename_i hk'; exact wpAny_loadName_local he.kind hk' hn h1 fin
      · rename_i hk'; refine k1_2 h1 fun c hc' hcell => ?_; exact wpAny_loadName_cell he.kind hk' hc' hcell fin
      · rename_i hk'; refine k1_2 h1 fun c hc' hcell => ?_; exact wpAny_loadName_free he.kind hk' hc' hcell fin hc
      · exact h1.elim
    · cases (ha)
  refine wpAny_AugAssign_Name (wpAny_mono hv' (fun v s₁ ⟨G₁, x₁, r₁⟩ => ?_) fun ž1 ž2 h => h)
  have S₁ := hS.ext x₁
  refine bind2 hf hr he S₁ hb fun u s₂ G₂ x₂ r₂ S₂ => ?_
  refine wpAny_mono (inp_ok op S₂.sub (Rep.mono x₂.sub r₁) r₂ hp) (fun y s₃ ⟨G₃, x₃, r₃⟩ => ?_) fun ž1 ž2 h => h
  have S₃ := S₂.ext x₃
  exact store_pv he hi hx hk S₃ r₃ fun s₄ e₄ S₄ => ⟨G₃, Mu, (Ext.toM ((x₁.trans x₂).trans x₃)).trans (e₄.up S₃.own), S₄, trivial⟩
noncomputable def ItemRep (C : Wd) (G : Gh) (h : Heap) (tr : Bool) (v : Value) (p : PV) : Prop :=
  C.Rep G v p ∨ (tr = true ∧ ∃ T vals ps, v = .ref T ∧ p = .tup ps ∧ h.IsTuple T vals.toArray ∧ C.RepL G vals ps)
noncomputable def AT (C : Wd) (D : Fd) (tr : Bool) (t : Expr) (k : PV → Sig → Option Sig) : Prop :=
  ∀ (A : Around) (E : Value → Shared → Prop) (env : Env) (σ : Sig) (s : Shared) (G : Gh) (Mu : Addr → Prop) (v : Value) (p : PV) (σ' : Sig), A.handled = none → EnvOk D env → D.Inj → St C D G Mu env σ s → ItemRep C G s.heap tr v p → k p σ = some σ' →
    wpAny C.M A (assign t env v) (fun ž1 s' => ExtM (Own D env) G s (Own D env) G s' ∧ St C D G Mu env σ' s') E s
noncomputable def setK (i : Nat) : PV → Sig → Option Sig := fun p σ => some (σ.set i (.pv p))
theorem AT.name {x : Str} {pos : Pos} (i : Nat) (hx : D.nm.lookup x = some i) (hk : D.wr x = true) : AT C D false (.Name x pos) (setK i) := by
  intro A E env σ s G Mu v p σ' hh he hi hS hv hk'
  obtain rfl := sj hk'
  rcases hv with hv | ⟨h, _⟩
  · rw [arm_assign_Name]
    exact wpAny_bind (wpAny_standAt (wpAny_bindName (store_pv he hi hx hk hS hv fun s' e S => ⟨e, S⟩)))
  · exact nv4 h
noncomputable def setsK : List Nat → List PV → Sig → Option Sig
  | [], [], σ => some σ
  | i :: is, p :: ps, σ => setsK is ps (σ.set i (.pv p))
  | _, _, _ => none
inductive Names (D : Fd) : List Expr → List Nat → Prop
  | nil : Names D [] []
  | cons {x : Str} {pos : Pos} {es : List Expr} {i : Nat} {is : List Nat} : D.nm.lookup x = some i → D.wr x = true → Names D es is → Names D (.Name x pos :: es) (i :: is)
theorem Names.star {es : List Expr} {is : List Nat} (h : Names D es is) : ((assignEach es env).findIdx? (·.1)) = none ∧ (assignEach es env).length = es.length := by
  induction h with
  | nil => exact ⟨rfl, rfl⟩
  | @cons x pos es i is _ _ _ ih =>
    have e : assignEach (.Name x pos :: es) env = (false, assign (.Name x pos) env) :: assignEach es env := rfl
    rw [e]
    refine ⟨?_, by rw [List.length_cons, ih.2, List.length_cons]⟩
    rw [List.findIdx?_cons]
    simp [ih.1]
theorem assigns_ok {es : List Expr} {is : List Nat} (h : Names D es is) : ∀ {s : Shared} {σ σ' : Sig} {vals : List Value} {ps : List PV}, EnvOk D env → D.Inj → St C D G Mu env σ s → C.RepL G vals ps → setsK is ps σ = some σ' →
    wpAny C.M A (assignInOrder ((assignEach es env).map (·.2)) vals) (fun ž1 s' => ExtM (Own D env) G s (Own D env) G s' ∧ St C D G Mu env σ' s') E s := by
  induction h with
  | nil =>
    intro s σ σ' vals ps he hi hS hv hk
    cases hv with
    | nil => obtain rfl := sj hk; exact wpAny_pure ⟨ExtM.refl .., hS⟩
    | cons _ _ => exact nv1 hk
  | @cons x pos es i is hx hk _ ih =>
    intro s σ σ' vals ps he hi hS hv hk'
    cases hv with
    | nil => exact nv1 hk'
    | cons hv hvs =>
      have e : assignEach (.Name x pos :: es) env = (false, assign (.Name x pos) env) :: assignEach es env := rfl
      rw [e, List.map_cons]
      show wpAny _ _ (do holding _ (assign (.Name x pos) env _); assignInOrder _ _) _ _ _
      refine wpAny_bind (wpAny_holding ?_)
      rw [arm_assign_Name]
      refine wpAny_bind (wpAny_standAt (wpAny_bindName (store_pv he hi hx hk hS hv fun s₁ e₁ S₁ => ?_)))
      exact wpAny_mono (ih he hi S₁ hvs hk') (fun ž1 s₂ h => ⟨e₁.trans h.1, h.2⟩) fun ž1 ž2 h => h
theorem setsK_length : ∀ {is : List Nat} {ps : List PV} {σ σ' : Sig}, setsK is ps σ = some σ' → is.length = ps.length
  | [], [], _, _, _ => rfl
  | _ :: is, _ :: ps, σ, σ', h => by rw [List.length_cons, List.length_cons, setsK_length (is := is) h]
  | [], _ :: _, _, _, h => by exact nv1 h
  | _ :: _, [], _, _, h => by exact nv1 h
theorem Names.length {es : List Expr} {is : List Nat} (h : Names D es is) : es.length = is.length := by
  induction h with
  | nil => rfl
  | cons _ _ _ ih => rw [List.length_cons, List.length_cons, ih]
noncomputable def tupK (is : List Nat) : PV → Sig → Option Sig
  | .tup ps, σ => setsK is ps σ
  | _, _ => none
theorem unpack_ok {es : List Expr} {is : List Nat} (h : Names D es is) {T : Addr} {vals : List Value} {ps : List PV} {σ' : Sig} (hh : A.handled = none) (he : EnvOk D env) (hi : D.Inj) (hS : St C D G Mu env σ s) (hT : s.heap.IsTuple T vals.toArray) (hr : C.RepL G vals ps) (hk : setsK is ps σ = some σ') :
    wpAny C.M A (unpack (.ref T) (assignEach es env)) (fun ž1 s' => ExtM (Own D env) G s (Own D env) G s' ∧ St C D G Mu env σ' s') E s := by
  have l1 := hr.length
  have l2 := setsK_length hk
  have l3 := h.length
  refine k0_2 (h.star (env := env)) fun n1 n2 => ?_
  unfold unpack
  refine wpAny_bind (wpAny_holding ?_)
  rw [n1]
  have hn : (assignEach es env).length = vals.toArray.size := by rw [n2]; simp; lia
  rw [hn]
  refine wpAny_grown (wpAny_unpackItems_tuple hh hT fun h' hx gr => ?_)
  have x₁ : Ext G s G { s with heap := h' } := by
    refine Ext.ofKeeps (tk := s.toks) hS.sub gr fun b o e => hx b o (Nat.ne_of_lt (Heap.lt_size e)) e
  have S₁ := hS.ext x₁
  have e : vals.toArray.toList = vals := by simp
  rw [e]
  exact wpAny_mono (assigns_ok h he hi S₁ hr hk) (fun ž1 s₂ h => ⟨(Ext.toM x₁).trans h.1, h.2⟩) fun ž1 ž2 h => h
set_option tactic.hygienic true in
theorem AT.tuple {es : List Expr} {k : Nat} {pos : Pos} {is : List Nat} (h : Names D es is) (tr : Bool) : AT C D tr (.Tuple es k pos) (tupK is) := by
  intro A E env σ s G Mu v p σ' hh he hi hS hv hk'
  have key : ∃ T vals ps, v = .ref T ∧ p = .tup ps ∧ s.heap.IsTuple T vals.toArray ∧ C.RepL G vals ps := by
    rcases hv with hv | ⟨_, h⟩
    · cases hv <;> first | (exact nv1 hk'; done) | skip
      · rename_i hp hr
        exact ⟨_, _, _, rfl, rfl, PlainTup.isTuple (PlainTup.sub hp hS.sub.h), hr⟩
    · exact h
  (refine k3_4 key fun T vals ps ž4 => ?_; subst ž4; intro ž5; subst ž5; intro hT hr)
  rw [arm_assign_Tuple]
  refine wpAny_bind (wpAny_standAt ?_)
  exact wpAny_mono (unpack_ok h hh he hi hS hT hr hk') (fun ž1 s' h => h) fun ž1 ž2 h => h
end
end
section
section
variable {C : Wd} {d : Nat} {D : Fd} {A : Around} {E : Value → Shared → Prop} {env : Env} {σ : Sig} {s s' : Shared} {G : Gh} {Mu : Addr → Prop}
theorem St.wr {wr : List Addr} (S : St C D G Mu env σ s) (hW : ∀ a ∈ wr, ¬ Mu a ∧ G.h.get? a = none) (hP : ∀ c P, G.cd = some (c, P) → P ∉ wr) {h' : Heap} {tk : Nat} (hk : ∀ b o, b ∉ wr → s.heap.get? b = some o → h'.get? b = some o) (gr : Grown s { s with heap := h', toks := tk }) :
    St C D G Mu env σ { s with heap := h', toks := tk } := by
  refine k2_3 S.var fun m α hn hv ho => ?_
  have nw : ∀ a, Mu a → a ∉ wr := fun a h hw => (hW a hw).1 h
  have hcell : ∀ n c, env.cells.lookup n = some c → ∀ v, s.heap.IsCell c v → h'.IsCell c v := fun n c hm v ⟨o, ho, hd⟩ => ⟨o, hk c o (nw c (S.cel n c hm).1) ho, hd⟩
  refine ⟨⟨fun a o e => hk a o (fun hw => ?_) (S.sub.h a o e), (S.sub.toks gr.toks).pos, (S.sub.toks gr.toks).T, S.sub.cdW (fun a ha => (hW a ha).2) hP hk⟩, S.base, fun a ha => ⟨(S.mu a ha).1, Nat.lt_of_lt_of_le (S.mu a ha).2 gr.size⟩, S.loc, fun n c hm => ?_, S.apart, m, α, ?_, fun y i lv hy hl => ?_, ho⟩
  · rw [(hW a hw).2] at e; exact nv1 e
  · obtain ⟨h1, h2, v, h3⟩ := S.cel n c hm
    exact ⟨h1, h2, v, hcell n c hm v h3⟩
  · refine k3_2 hn fun o es ep h1 r => ?_; exact ⟨o, es, ep, hk _ o (nw _ S.loc) h1, r⟩
  · refine k1_2 (hv y i lv hy hl) fun v h1 h2 => ?_
    refine ⟨v, ?_, ?_⟩
    · unfold At at h1 ⊢
      split at h1
      · exact h1
      · refine k1_2 h1 fun c hc hx => ?_; exact ⟨c, hc, hcell _ c hc _ hx⟩
      · refine k1_2 h1 fun c hc hx => ?_; exact ⟨c, hc, hcell _ c hc _ hx⟩
      · exact h1
    · cases lv with
      | pv p => exact h2
      | ol xs =>
        obtain ⟨h1, h2, vs, ⟨n, h3⟩, h4⟩ := h2
        exact ⟨h1, h2, vs, ⟨n, hk _ _ (nw _ h2) h3⟩, h4⟩
      | od es =>
        obtain ⟨h1, h2, h3, kvs, ⟨o, es', ep, h4, r⟩, h5⟩ := h2
        exact ⟨h1, h2, h3, kvs, ⟨o, es', ep, hk _ _ (nw _ h2) h4, r⟩, h5⟩
theorem ExtM.wr {wr : List Addr} {Mu' : Addr → Prop} (hM : ∀ a ∈ wr, Mu' a) {h' : Heap} {tk : Nat} (hk : ∀ b o, b ∉ wr → s.heap.get? b = some o → h'.get? b = some o) (gr : Grown s { s with heap := h', toks := tk })
    (hold : ∀ h₀ : Heap, h₀.objs.size ≤ s.heap.objs.size → (∀ a, Mu' a → h₀.objs.size ≤ a) → Old G.cd h₀ s.heap → Old G.cd h₀ h') : ExtM Mu' G s Mu' G { s with heap := h', toks := tk } :=
  ⟨Le.refl _, fun ž1 ž2 e => .inl e, fun ž1 h => .inl h, fun a o hn ž1 e => hk a o (fun h => hn (hM a h)) e, gr.size, rfl, fun x => x, hold⟩
theorem oldK_keep {cd : Option (Addr × Addr)} {h₀ h h' : Heap} (zz : Old cd h₀ h) (hk : ∀ b o, b < h₀.objs.size → h.get? b = some o → h'.get? b = some o) : Old cd h₀ h' := by
  refine ⟨?_, zz.2⟩
  have z := zz.1
  refine ⟨fun b o e => ?_, fun b o e => let ⟨o', ho'⟩ := z.there b o e; ⟨o', hk _ _ (Heap.lt_size e) ho'⟩⟩
  rcases z.old b o e with x | ⟨t, hc, vs, more, hv, x⟩ | ⟨rfl, hc, ⟨o', es, n, ho', r⟩, q⟩
  · exact .inl (hk _ _ (Heap.lt_size e) x)
  · exact .inr (.inl ⟨t, hc, vs, more, hv, hk _ _ (Heap.lt_size e) x⟩)
  · have l := Heap.lt_size e
    exact .inr (.inr ⟨rfl, hc, ⟨o', es, n, hk _ _ l ho', r⟩, fun key => by rw [OldK.staticOf_congr ((hk _ _ l ho').trans ho'.symm) key]; exact q key⟩)
structure WlkP (C : Wd) (d : Nat) (tgt : Expr) (tr : Bool) (I : Addr) (xs : List PV) (G : Gh) (lo : Nat) (s : Shared) (fp wr : List Addr) (P Md : Nat → Value → Heap → Prop) (St : Nat → Heap → Prop) : Prop where
  hwr : ∀ b ∈ wr, lo ≤ b ∧ b < s.heap.objs.size ∧ G.h.get? b = none
  hfp : ∀ b ∈ fp, b ∈ wr ∨ ∃ o, G.h.get? b = some o
  st : St 0 s.heap
  tab : ∀ i h b o, St i h → b ∈ wr → h.get? b = some o → isTab o = false
  turns : ∀ A, Rm d A → KTurns C.prog C.w A tgt I fp wr xs.length P Md St
  item : ∀ i v h, i < xs.length → P i v h → ∃ p, xs[i]? = some p ∧ ItemRep C G h tr v p
  self : ∀ A, Rm d A → ∀ i (s : Shared) (Q : Value → Shared → Prop) (E : Value → Shared → Prop), St i s.heap → Q (.ref I) s → wpAny C.M A (pyIter (.ref I)) Q E s
noncomputable def Wlk (C : Wd) (d : Nat) (tgt : Expr) (tr : Bool) (I : Addr) (xs : List PV) (G : Gh) (lo : Nat) (s : Shared) : Prop :=
  ∃ (fp wr : List Addr) (P Md : Nat → Value → Heap → Prop) (St : Nat → Heap → Prop), WlkP C d tgt tr I xs G lo s fp wr P Md St
noncomputable def EI (C : Wd) (d : Nat) (D : Fd) (tgt : Expr) (tr : Bool) (e : Expr) (f : Sig → Option (List PV)) : Prop :=
  ∀ (A : Around) (E : Value → Shared → Prop) (env : Env) (σ : Sig) (s : Shared) (G : Gh) (Mu : Addr → Prop) (xs : List PV) (Q : Value → Shared → Prop), Rm d A → EnvOk D env → St C D G Mu env σ s → f σ = some xs →
    (∀ I s₁ G₁, Ext G s G₁ s₁ → Wlk C d tgt tr I xs G₁ s.heap.objs.size s₁ → Q (.ref I) s₁) → wpAny C.M A (eval e env) (fun x s₁ => wpAny C.M A (pyIter x) Q E s₁) E s
noncomputable def forF (k : PV → Sig → Option Sig) (F : Sig → Option (Fl × Sig)) : List PV → Sig → Option (Fl × Sig)
  | [], σ => some (.next, σ)
  | p :: ps, σ => (k p σ).bind fun σ₁ => (F σ₁).bind fun r => match r with
    | (.next, σ₂) => forF k F ps σ₂
    | (.cont, σ₂) => forF k F ps σ₂
    | (.brk, σ₂) => some (.next, σ₂)
    | (.ret v, σ₂) => some (.ret v, σ₂)
theorem ItemRep.le {G' : Gh} {h : Heap} {tr : Bool} {v : Value} {p : PV} (x : Le G G') (r : ItemRep C G h tr v p) : ItemRep C G' h tr v p := by
  rcases r with r | ⟨h1, T, vals, ps, h2, h3, h4, h5⟩
  · exact .inl (Rep.mono x r)
  · exact .inr ⟨h1, T, vals, ps, h2, h3, h4, RepL.mono x h5⟩
theorem ExtM.drop {M₂ : Addr → Prop} {G₁ G₂ : Gh} {s₁ s₂ : Shared} {wr : List Addr} (x₁ : Ext G s G₁ s₁) (hwr : ∀ b ∈ wr, s.heap.objs.size ≤ b) (all : ExtM (fun a => Mu a ∨ a ∈ wr) G₁ s₁ (fun a => M₂ a ∨ a ∈ wr) G₂ s₂) : ExtM Mu G s M₂ G₂ s₂ := by
  refine ⟨x₁.sub.trans all.sub, fun a o h => ?_, fun a h => ?_, fun a o hn ht h => ?_, Nat.le_trans x₁.size all.size, all.os.trans x₁.os, fun z => all.gens (x₁.gens z), fun h₀ hz hm z => ?_⟩
  · rcases all.new a o h with h | (h | h) | h
    · exact (x₁.new a o h).elim .inl fun h => .inr (.inr h)
    · exact .inr (.inl h)
    · exact .inr (.inr (hwr a h))
    · exact .inr (.inr (Nat.le_trans x₁.size h))
  · rcases all.mu a (.inl h) with (h | h) | h
    · exact .inl h
    · exact .inr (hwr a h)
    · exact .inr (Nat.le_trans x₁.size h)
  · exact all.keep a o (fun q => q.elim hn fun q => absurd (Heap.lt_size h) (Nat.not_lt.mpr (hwr a q))) ht (x₁.keep a o ht h)
  · exact all.old h₀ (Nat.le_trans hz x₁.size) (fun a ha => ha.elim (hm a) fun ha => Nat.le_trans hz (hwr a ha)) (x₁.old h₀ hz z)
theorem ExtM.widen {M M' W : Addr → Prop} {G₁ G₂ : Gh} {s₁ s₂ : Shared} (x : ExtM M G₁ s₁ M' G₂ s₂) : ExtM (fun a => M a ∨ W a) G₁ s₁ (fun a => M' a ∨ W a) G₂ s₂ :=
  ⟨x.sub, fun a o h => (x.new a o h).elim .inl fun h => h.elim (fun h => .inr (.inl (.inl h))) fun h => .inr (.inr h), fun a h => h.elim (fun h => (x.mu a h).elim (fun h => .inl (.inl h)) .inr) fun h => .inl (.inr h),
    fun a o hn ht h => x.keep a o (fun q => hn (.inl q)) ht h, x.size, x.os, x.gens, fun h₀ hz hm z => x.old h₀ hz (fun a ha => hm a (.inl ha)) z⟩
theorem ExtM.apart {M M' : Addr → Prop} {G₁ G₂ : Gh} {s₁ s₂ : Shared} (x : ExtM M G₁ s₁ M' G₂ s₂) {b n : Nat} (h1 : ¬ M b) (h2 : G₁.h.get? b = none) (h3 : b < n) (hn : n ≤ s₁.heap.objs.size) : ¬ M' b ∧ G₂.h.get? b = none ∧ b < s₂.heap.objs.size := by
  have h4 := Nat.lt_of_lt_of_le h3 hn
  refine ⟨fun hm => (x.mu b hm).elim h1 fun h => absurd h4 (Nat.not_lt.mpr h), ?_, Nat.lt_of_lt_of_le h4 x.size⟩
  cases q : G₂.h.get? b with
  | none => rfl
  | some o =>
    refine Or.elim (x.new b o q) (fun h => ?_) fun ž => Or.elim ž (fun h => ?_) fun h => ?_
    · rw [h2] at h; exact nv1 h
    · exact absurd h h1
    · exact absurd h4 (Nat.not_lt.mpr h)
theorem ExtM.stands {M M' : Addr → Prop} {G₀ G₁ G₂ : Gh} {s₁ s₂ : Shared} {wr : List Addr} (x : ExtM M G₁ s₁ M' G₂ s₂) (hin : In G₁ s₁) (hin2 : In G₂ s₂) (hle : Le G₀ G₁) (hw : ∀ b ∈ wr, ¬ M b) {b : Addr} {o : Obj} (hfp : b ∈ wr ∨ ∃ o, G₀.h.get? b = some o) (ht : b ∈ wr → isTab o = false) (ho : s₁.heap.get? b = some o) :
    s₂.heap.get? b = some o := by
  rcases hfp with hb | ⟨o', ho'⟩
  · exact x.keep b o (hw b hb) (ht hb) ho
  · have h1 := hin.h b o' (hle.h b o' ho')
    rw [ho] at h1
    obtain rfl := sj h1
    exact hin2.h b _ (x.sub.h b _ (hle.h b _ ho'))
structure ForAt (C : Wd) (D : Fd) (k : PV → Sig → Option Sig) (F : Sig → Option (Fl × Sig)) (r : Fl) (σ' : Sig) (env : Env) (Mu : Addr → Prop) (G₁ : Gh) (s₁ : Shared) (wr : List Addr) (Sk : Nat → Heap → Prop) (xs : List PV) (n i : Nat) (G₂ : Gh) (Mu₂ : Addr → Prop) (σ₂ : Sig) (s₂ : Shared) : Prop where
  hn : n = xs.length - i
  le : i ≤ xs.length
  g : Le G₁ G₂
  e : ExtM (fun a => Mu a ∨ a ∈ wr) G₁ s₁ (fun a => Mu₂ a ∨ a ∈ wr) G₂ s₂
  S : St C D G₂ Mu₂ env σ₂ s₂
  st : Sk i s₂.heap
  hwr : ∀ b ∈ wr, ¬ Mu₂ b ∧ G₂.h.get? b = none ∧ b < s₂.heap.objs.size
  hF : forF k F (xs.drop i) σ₂ = some (r, σ')
theorem ES.forS {tgt iter : Expr} {body : List Stmt} {pos : Pos} {tr : Bool} {f : Sig → Option (List PV)} {k : PV → Sig → Option Sig} {F : Sig → Option (Fl × Sig)} (hE : EI C d D tgt tr iter f) (hT : AT C D tr tgt k) (hB : EX C d D body F)
    (hfold : ∀ env x, foldedSetIterable iter env x = pure x := by intros; rfl) : ES C d D (.For tgt iter body [] pos) (fun σ => (f σ).bind fun xs => forF k F xs σ) := by
  intro A E env σ s G Mu r σ' hr he hi hS hF
  refine k1_2 (bind_some hF) fun xs hxs hF => ?_
  refine wpAny_For (hE A E env σ s G Mu xs _ hr he hS hxs fun I s₁ G₁ x₁ hw => ?_) (hfold env)
  have S₁ := hS.ext x₁
  obtain ⟨fp, wr, P, Md, Sk, hwr, hfp, hst, htab, hK, hP, _⟩ := hw
  have W := hK A hr
  suffices key : ∀ R : Result → Shared → Prop, (∀ f s', End C D Mu env G s r σ' f s' → R (.ok f) s') → codeAny C.M A (.forLoop tgt (.ref I) body [] env) R s₁ from key _ fun ž1 ž2 h => h
  intro R hR
  obtain ⟨J, hJ⟩ : ∃ J : Nat → Shared → Prop, J = fun n s₂ => ∃ i G₂ Mu₂ σ₂, ForAt C D k F r σ' env Mu G₁ s₁ wr Sk xs n i G₂ Mu₂ σ₂ s₂ := ⟨_, rfl⟩
  refine codeAny_forLoop_any J ?_ xs.length (by rw [hJ]; exact ⟨0, G₁, Mu, σ, rfl, Nat.zero_le _, Le.refl _, ExtM.refl .., S₁, hst, fun b hb => ⟨fun hm => absurd (hS.mu b hm).2 (Nat.not_lt.mpr (hwr b hb).1), (hwr b hb).2.2, (hwr b hb).2.1⟩, hF⟩)
  · intro n s₂ hJn
    obtain ⟨i, G₂, Mu₂, σ₂, hn, hile, hle, e₂, S₂, hst₂, hwr₂, hF₂⟩ := hJ ▸ hJn
    have hW₂ : ∀ a ∈ wr, ¬ Mu₂ a ∧ G₂.h.get? a = none := fun a h => ⟨(hwr₂ a h).1, (hwr₂ a h).2.1⟩
    have hPw : ∀ c P, G₂.cd = some (c, P) → P ∉ wr := fun c P e hm => by
      obtain ⟨_, _, _, ps, _, ⟨_, tp⟩⟩ := S₂.sub.cd c P e
      have := htab _ _ P _ hst₂ hm tp
      exact nv3 this
    have step : ∀ (s₃ : Shared) (h' : Heap) (tk : Nat), (∀ b ∈ wr, b < s₃.heap.objs.size) → (∀ b o, b ∉ wr → s₃.heap.get? b = some o → h'.get? b = some o) → Grown s₃ { s₃ with heap := h', toks := tk } →
        ExtM (fun a => Mu₂ a ∨ a ∈ wr) G₂ s₃ (fun a => Mu₂ a ∨ a ∈ wr) G₂ { s₃ with heap := h', toks := tk } := fun s₃ h' tk ž1 hk gr =>
      ExtM.wr (fun a h => .inr h) hk gr fun h₀ hz hm z => oldK_keep z fun b o hb e => hk b o (fun h => absurd hb (Nat.not_lt.mpr (hm b (.inr h)))) e
    by_cases hlt : i < xs.length
    · refine wpAny_grown (W.item i s₂ _ _ hlt hst₂ fun v h₃ tk₃ hMd hk₃ gr₃ => ?_)
      have S₃ := S₂.wr hW₂ hPw hk₃ gr₃
      have e₃ := step s₂ h₃ tk₃ (fun b hb => (hwr₂ b hb).2.2) hk₃ gr₃
      refine wpAny_grown (W.go i v _ _ _ hMd fun h₄ hPv hst₄ hk₄ gr₄ => ?_)
      have S₄ := S₃.wr (tk := tk₃) hW₂ hPw hk₄ gr₄
      have e₄ := step _ h₄ tk₃ (fun b hb => Nat.lt_of_lt_of_le (hwr₂ b hb).2.2 gr₃.size) hk₄ gr₄
      refine k1_2 (hP i v h₄ hlt hPv) fun p hp hit => ?_
      have hd : xs.drop i = p :: xs.drop (i + 1) := by
        rw [List.drop_eq_getElem_cons hlt]
        rw [List.getElem?_eq_getElem hlt] at hp
        rw [Option.some.inj hp]
      rw [hd] at hF₂
      refine k1_2 (bind_some hF₂) fun σ₃ hσ₃ hF₃ => ?_
      (refine k1_2 (bind_some hF₃) fun ž1 => ?_; obtain ⟨r₄, σ₄⟩ := ž1; intro hr₄ hF₄)
      refine wpAny_mono (hT A _ env σ₂ _ G₂ Mu₂ v p σ₃ hr.handled he hi S₄ (hit.le hle) hσ₃) (fun ž1 s₅ ha => ?_) fun ž1 ž2 h => h
      refine k0_2 ha fun e₅' S₅ => ?_
      have e₅ := e₅'.up S₄.own
      refine wpAny_mono (hB A _ env σ₃ s₅ G₂ Mu₂ r₄ σ₄ hr he hi S₅ hr₄) (fun fl s₆ hend => ?_) fun ž1 ž2 h => h
      obtain ⟨G₆, Mu₆, e₆, S₆, hfl⟩ := hend
      have size₄ : s₂.heap.objs.size ≤ h₄.objs.size := Nat.le_trans gr₃.size gr₄.size
      have e56 := e₅.trans e₆
      have keep56 : ∀ b ∈ wr, ¬ Mu₆ b ∧ G₆.h.get? b = none ∧ b < s₆.heap.objs.size := fun b hb => e56.apart (hwr₂ b hb).1 (hwr₂ b hb).2.1 (hwr₂ b hb).2.2 size₄
      have hst₆ : Sk (i + 1) s₆.heap := W.frame _ _ _ hst₄ fun b hb o ho => e56.stands S₄.sub S₆.sub hle (fun b hb => (hwr₂ b hb).1) (hfp b hb) (fun hb => htab _ _ b o hst₄ hb ho) ho
      have all := ((e₂.trans e₃).trans e₄).trans (e56.widen (W := fun a => a ∈ wr))
      have leave : ∀ (fl' : Flow) (rr : Fl), rr = r → σ₄ = σ' → FRep C G₆ fl' rr → R (.ok fl') s₆ := fun fl' rr e1 e2 hfr => hR fl' s₆ (e1 ▸ e2 ▸ ⟨G₆, Mu₆, ExtM.drop x₁ (fun b hb => (hwr b hb).1) all, S₆, hfr⟩)
      have again : forF k F (xs.drop (i + 1)) σ₄ = some (r, σ') → ∃ m, m < n ∧ J m s₆ := fun h =>
        ⟨xs.length - (i + 1), by lia, by rw [hJ]; exact ⟨i + 1, G₆, Mu₆, σ₄, rfl, hlt, hle.trans e56.sub, all, S₆, hst₆, keep56, h⟩⟩
      cases r₄ with
      | next =>
        cases fl <;> first | exact hfl.elim | exact again hF₄
      | cont =>
        cases fl <;> first | exact hfl.elim | exact again hF₄
      | brk =>
        cases hF₄
        cases fl <;> first | exact hfl.elim | exact leave .next .next rfl rfl trivial
      | ret q =>
        cases hF₄
        cases fl <;> first | exact hfl.elim | exact leave _ _ rfl rfl hfl
    · have hi' : i = xs.length := by lia
      subst hi'
      rw [List.drop_length] at hF₂
      cases hF₂
      refine wpAny_grown (W.done s₂ _ _ hst₂ fun h₃ tk₃ hk₃ gr₃ => ?_)
      have S₃ := S₂.wr hW₂ hPw hk₃ gr₃
      have e₃ := step s₂ h₃ tk₃ (fun b hb => (hwr₂ b hb).2.2) hk₃ gr₃
      have all := e₂.trans e₃
      exact wpAny_pure (hR _ _ ⟨G₂, Mu₂, ExtM.drop x₁ (fun b hb => (hwr b hb).1) all, S₃, trivial⟩)
end
end
section
noncomputable def rangeL (a b c : Int) : List PV := (List.range (Builtin.Range.rangeSize a b c).toNat).map fun (i : Nat) => .int (a + (i : Int) * c)
noncomputable def DK.pv : DK → PV
  | .i n => .int n
  | .s x => .str x
noncomputable def iterO : PV → Option (List PV)
  | .lst xs => some xs
  | .tup xs => some xs
  | .rng a b c => if Builtin.Range.small a b c = true ∧ c ≠ 0 then some (rangeL a b c) else none
  | .dct es => some (es.map fun e => e.1.pv)
  | _ => none
theorem DK.rep {C : Wd} {G : Gh} {k : DK} {v : Value} (h : C.dk.is k v = true) : C.Rep G v k.pv := by
  cases k with
  | i n => (refine k1_1 (DK.shape_i h) fun t ž2 => ?_; subst ž2); exact .int _ _
  | s x => (refine k1_1 (DK.shape_s h) fun t ž2 => ?_; subst ž2); exact .str _ _
theorem rangeSize_nonneg (a b c : Int) : 0 ≤ Builtin.Range.rangeSize a b c := by
  unfold Builtin.Range.rangeSize
  split
  · rename_i hc
    split
    · have : 0 ≤ (b - a - 1) / c := Int.ediv_nonneg (by lia) (by lia)
      lia
    · lia
  · rename_i hc
    split
    · have : 0 ≤ (a - b - 1) / (-c) := Int.ediv_nonneg (by lia) (by lia)
      lia
    · lia
section
variable {C : Wd} {d : Nat} {D : Fd} {A : Around} {E : Value → Shared → Prop} {env : Env} {σ : Sig} {s s' : Shared} {G : Gh} {Mu : Addr → Prop}
theorem letGo_rangeiter {E : Value → Shared → Prop} {target : Expr} {I : Addr} {x y z : Int} {v : Value} {Q' : Unit → Shared → Prop} {s' : Shared} (hit : IsRangeIter s'.heap I x y z) (h : Q' () s') :
    wpAny C.M A (letOwnedTupleGo target (.ref I) v) Q' E s' := by
  unfold letOwnedTupleGo
  cases target <;> first
    | exact wpAny_pure h
    | (cases v <;> first
        | exact wpAny_pure h
        | (refine wpAny_bind (wpAny_load hit ?_)
           exact wpAny_pure h))
theorem gNone (hin : In G s) {b : Addr} (h : s.heap.objs.size ≤ b) : G.h.get? b = none := by
  cases e : G.h.get? b with
  | none => rfl
  | some o => exact absurd (Heap.lt_size (hin.h b o e)) (Nat.not_lt.mpr h)
set_option tactic.hygienic true in
theorem iter_ok {tgt : Expr} {v : Value} {p : PV} {xs : List PV} {Q : Value → Shared → Prop} (hin : In G s) (hb : Bs C G) (h : C.Rep G v p) (hx : iterO p = some xs)
    (hQ : ∀ I s₁, Ext G s G s₁ → Wlk C d tgt false I xs G s.heap.objs.size s₁ → Q (.ref I) s₁) : wpAny C.M A (pyIter v) Q E s := by
  have fresh : ∀ o, ∀ b ∈ [s.heap.objs.size], s.heap.objs.size ≤ b ∧ b < (s.heap.push o).objs.size ∧ G.h.get? b = none := by
    intro o b hb
    rw [List.mem_singleton] at hb
    subst hb
    exact ⟨Nat.le_refl _, by rw [Heap.size_push]; lia, gNone hin (Nat.le_refl _)⟩
  unfold iterO at hx
  split at hx
  · cases (hx)
    · obtain ⟨a, vs, rfl, hp, hr⟩ := h.sh
      have hl := (PlainList.sub hp hin.h).isList
      have hlen := hr.length
      refine wpAny_pyIter_list hl (hQ _ _ (Ext.push hin (Nat.le_refl _) _) ?_)
      have hne : a ≠ s.heap.objs.size := Nat.ne_of_lt (by obtain ⟨o, ho, _⟩ := hl; exact Heap.lt_size ho)
      refine ⟨[s.heap.objs.size, a], [s.heap.objs.size], fun i v ž1 => vs.toArray[i]? = some v, fun i v h => (vs.toArray[i]? = some v) ∧ (h.IsListIter s.heap.objs.size a (i + 1) ∧ h.IsList a vs.toArray), fun i h => h.IsListIter s.heap.objs.size a i ∧ h.IsList a vs.toArray, fresh _, fun b hb => ?_, ⟨⟨_, Heap.get?_push_size _ rfl, rfl, rfl⟩, ?_⟩, ?_, fun A hr' => ?_, ?_, ?_⟩
      · rcases List.mem_cons.mp hb with rfl | hb
        · exact .inl (.head _)
        · rw [List.mem_singleton] at hb
          subst hb
          obtain ⟨n, e⟩ := hp
          exact .inr ⟨_, e⟩
      · exact IsList.sub hl fun b o e => Heap.get?_push_of_some _ e
      · rintro i h b o ⟨⟨o', e, hc, hd⟩, _⟩ hb ho
        rw [List.mem_singleton] at hb
        subst hb
        rw [e] at ho; cases (ho)
        unfold isTab
        rw [hd, hc]; rfl
      · have := Walks.list (prog := C.prog) (w := C.w) (A := A) hr'.handled s.heap.objs.size a hne vs.toArray
        have hz : vs.toArray.size = xs.length := by simp; lia
        rw [hz] at this
        exact KTurns.ofWalks this fun i v s Q E hst hq => letGo_listiter hst.1 hq
      · intro i v h hi hv
        have hv' : vs[i]? = some v := by simpa using hv
        obtain ⟨p, hp', rp⟩ := hr.getV hv'
        exact ⟨p, hp', .inl rp⟩
      · exact fun A hr' i s' Q E hst hq => (Walks.list (prog := C.prog) (w := C.w) (A := A) hr'.handled s.heap.objs.size a hne vs.toArray).self i s' Q E hst hq
  · cases (hx)
    · obtain ⟨a, vs, rfl, hp, hr⟩ := h.sh
      have hl := PlainTup.isTuple (PlainTup.sub hp hin.h)
      have hlen := hr.length
      refine wpAny_pyIter_tuple hl (hQ _ _ (Ext.push hin (Nat.le_refl _) _) ?_)
      have hne : a ≠ s.heap.objs.size := Nat.ne_of_lt (by obtain ⟨o, ho, _⟩ := hl; exact Heap.lt_size ho)
      refine ⟨[s.heap.objs.size, a], [s.heap.objs.size], fun i v ž1 => vs.toArray[i]? = some v, fun i v h => (vs.toArray[i]? = some v) ∧ (h.IsTupleIter s.heap.objs.size a (i + 1) ∧ h.IsTuple a vs.toArray), fun i h => h.IsTupleIter s.heap.objs.size a i ∧ h.IsTuple a vs.toArray, fresh _, fun b hb => ?_, ⟨⟨_, Heap.get?_push_size _ rfl, rfl, rfl⟩, ?_⟩, ?_, fun A hr' => ?_, ?_, ?_⟩
      · rcases List.mem_cons.mp hb with rfl | hb
        · exact .inl (.head _)
        · rw [List.mem_singleton] at hb
          subst hb
          obtain ⟨n, e⟩ := hp
          exact .inr ⟨_, e⟩
      · obtain ⟨o, ho, r⟩ := hl; exact ⟨o, Heap.get?_push_of_some _ ho, r⟩
      · rintro i h b o ⟨⟨o', e, hc, hd⟩, _⟩ hb ho
        rw [List.mem_singleton] at hb
        subst hb
        rw [e] at ho; cases (ho)
        unfold isTab
        rw [hd, hc]; rfl
      · have := Walks.tuple (prog := C.prog) (w := C.w) (A := A) hr'.handled s.heap.objs.size a hne vs.toArray
        have hz : vs.toArray.size = xs.length := by simp; lia
        rw [hz] at this
        exact KTurns.ofWalks this fun i v s Q E hst hq => letGo_tupleiter hst.1 hq
      · intro i v h hi hv
        have hv' : vs[i]? = some v := by simpa using hv
        obtain ⟨p, hp', rp⟩ := hr.getV hv'
        exact ⟨p, hp', .inl rp⟩
      · exact fun A hr' i s' Q E hst hq => (Walks.tuple (prog := C.prog) (w := C.w) (A := A) hr'.handled s.heap.objs.size a hne vs.toArray).self i s' Q E hst hq
  · split at hx
    · rename_i x y z hsm
      cases (hx)
      · obtain ⟨r, t, u, w, rfl, hR⟩ := h.sh
        have hR' : IsRange s.heap r _ _ _ _ _ _ := hin.h _ _ hR
        refine wpAny_pyIter_range hR' hsm.1 (hQ _ _ (Ext.push hin (Nat.le_refl _) _) ?_)
        have hn := rangeSize_nonneg x y z
        have hlen : (rangeL x y z).length = (Builtin.Range.rangeSize x y z).toNat := by unfold rangeL; simp
        refine ⟨[s.heap.objs.size], [s.heap.objs.size], fun i v ž1 => ∃ t, v = .int (x + (i : Nat) * z) t, fun i v h => (∃ t, v = .int (x + (i : Nat) * z) t) ∧ (IsRangeIter h s.heap.objs.size (x + ((i + 1 : Nat) : Nat) * z) (((Builtin.Range.rangeSize x y z).toNat : Int) - ((i + 1 : Nat) : Nat)) z), fun i h => IsRangeIter h s.heap.objs.size (x + (i : Nat) * z) (((Builtin.Range.rangeSize x y z).toNat : Int) - (i : Nat)) z, fresh _, fun b hb => .inl hb, ?_, ?_, fun A hr' => ?_, ?_, ?_⟩
        · show IsRangeIter _ _ _ _ _
          have e1 : x + ((0 : Nat) : Int) * z = x := by simp
          have e2 : (((Builtin.Range.rangeSize x y z).toNat : Nat) : Int) - ((0 : Nat) : Int) = Builtin.Range.rangeSize x y z := by lia
          rw [e1, e2]
          exact Heap.get?_push_size _ rfl
        · intro i h b o e hb ho
          rw [List.mem_singleton] at hb
          subst hb
          have e' : h.get? s.heap.objs.size = some _ := e
          rw [e'] at ho; cases (ho); rfl
        · have := Walks.range (prog := C.prog) (w := C.w) (A := A) hr'.handled s.heap.objs.size x z (Builtin.Range.rangeSize x y z).toNat
          rw [← hlen] at this ⊢
          exact KTurns.ofWalks this fun i v s Q E hst hq => letGo_rangeiter hst hq
        · intro i v h hi hv
          obtain ⟨t, rfl⟩ := hv
          refine ⟨.int (x + i * z), ?_, .inl (.int _ _)⟩
          unfold rangeL at hi ⊢
          rw [List.length_map, List.length_range] at hi
          rw [List.getElem?_map, List.getElem?_range hi]
          rfl
        · exact fun A hr' i s' Q E hst hq => (Walks.range (prog := C.prog) (w := C.w) (A := A) hr'.handled s.heap.objs.size x z (Builtin.Range.rangeSize x y z).toNat).self i s' Q E hst hq
    · cases (hx)
  · rename_i es
    cases (hx)
    · obtain ⟨a, kvs, rfl, hd, hm, hr⟩ := h.sh
      obtain ⟨ep, hda⟩ := (DictOf.sub hd hin.h).dictAt
      have hlen := hr.length
      refine wpAny_pyIter_dict hm hda (hQ _ _ (Ext.push hin (Nat.le_refl _) _) ?_)
      have hne : a ≠ s.heap.objs.size := Nat.ne_of_lt hda.lt_size
      refine ⟨[s.heap.objs.size, a], [s.heap.objs.size], fun i v ž1 => ∃ k x, kvs[i]? = some (k, x) ∧ C.dk.is k v = true, fun i v h => (∃ k x, kvs[i]? = some (k, x) ∧ C.dk.is k v = true) ∧ (h.IsKeyIter s.heap.objs.size a (i + 1) kvs.length ep ∧ h.DictAt C.dk a kvs ep), fun i h => h.IsKeyIter s.heap.objs.size a i kvs.length ep ∧ h.DictAt C.dk a kvs ep, fresh _, fun b hb => ?_, ⟨⟨_, Heap.get?_push_size _ rfl, rfl, rfl⟩, hda.push _⟩, ?_, fun A hr' => ?_, ?_, ?_⟩
      · rcases List.mem_cons.mp hb with rfl | hb
        · exact .inl (.head _)
        · rw [List.mem_singleton] at hb
          subst hb
          obtain ⟨o, es, ep, e, _⟩ := hd
          exact .inr ⟨_, e⟩
      · rintro i h b o ⟨⟨o', e, hc, hd⟩, _⟩ hb ho
        rw [List.mem_singleton] at hb
        subst hb
        rw [e] at ho; cases (ho)
        unfold isTab
        rw [hd, hc]; rfl
      · have := Walks.dictKeys (prog := C.prog) (w := C.w) (A := A) (knd := C.dk) hr'.handled s.heap.objs.size a hne kvs ep
        have hz : kvs.length = (es.map fun e => e.1.pv).length := by simp; lia
        rw [hz] at this ⊢
        exact KTurns.ofWalks this fun i v s Q E hst hq => letGo_keyiter hst.1 hq
      · rintro i v h hi ⟨k, x, hk, hv⟩
        have hkeys := hr.keys
        have : (es.map (·.1))[i]? = some k := by rw [← hkeys, List.getElem?_map, hk]; rfl
        refine ⟨k.pv, ?_, .inl (DK.rep hv)⟩
        rw [List.getElem?_map] at this ⊢
        cases he : es[i]? with
        | none => rw [he] at this; cases (this)
        | some e => rw [he] at this; cases (this); rfl
      · exact fun A hr' i s' Q E hst hq => (Walks.dictKeys (prog := C.prog) (w := C.w) (A := A) (knd := C.dk) hr'.handled s.heap.objs.size a hne kvs ep).self i s' Q E hst hq
  · cases (hx)
theorem EI.ofEV {tgt e : Expr} {f : Sig → Option PV} (h : EV C d D e f) : EI C d D tgt false e (fun σ => (f σ).bind iterO) := by
  intro A E env σ s G Mu xs Q hr he hS hf hQ
  refine k1_2 (bind_some hf) fun p hp hx => ?_
  refine bind2 h hr he hS hp fun v s₁ G₁ x₁ r₁ S₁ => ?_
  refine iter_ok (d := d) (tgt := tgt) S₁.sub S₁.base r₁ hx fun I s₂ x₂ hw => hQ I s₂ G₁ (x₁.trans x₂) ?_
  refine k5_1 hw fun fp wr P Md St K => ?_
  exact ⟨fp, wr, P, Md, St, fun b hb => ⟨Nat.le_trans x₁.size (K.hwr b hb).1, (K.hwr b hb).2⟩, K.hfp, K.st, K.tab, K.turns, K.item, K.self⟩
end
end
section
noncomputable def tyP : PV → Option String
  | .str _ => some "str"
  | .tup _ => some "tuple"
  | .lst _ => some "list"
  | .dct _ => some "dict"
  | _ => none
section
variable {C : Wd} {d : Nat} {D : Fd} {A : Around} {E : Value → Shared → Prop} {env : Env} {σ : Sig} {s s' : Shared} {G : Gh} {Mu : Addr → Prop}
set_option tactic.hygienic true in
theorem tyP_ok {v : Value} {p : PV} {T : String} (hs : In G s) (h : C.Rep G v p) (ht : tyP p = some T) : s.TypeIs v T ∧ ∀ a, v = .ref a → ∃ ob, s.heap.get? a = some ob ∧ ob.dict = none := by
  cases h <;> simp [tyP] at ht
  · subst ht; exact ⟨typeIs_str _ _ _, fun ž1 e => nomatch e⟩
  · subst ht
    rename_i hp hr
    refine k1_1 (PlainTup.sub hp hs.h) fun n e => ?_
    exact ⟨⟨_, e, rfl⟩, fun a q => by cases q; exact ⟨_, e, rfl⟩⟩
  · subst ht
    rename_i hp hr
    refine k1_1 (PlainList.sub hp hs.h) fun n e => ?_
    exact ⟨⟨_, e, rfl⟩, fun a q => by cases q; exact ⟨_, e, rfl⟩⟩
  · subst ht
    rename_i hd hm hr
    exact ⟨(DictOf.sub hd hs.h).typeIs, (DictOf.sub hd hs.h).mapOf.noDict⟩
theorem kw_nil (pos : Pos) : (backToKw pos (keywordEach [] env)).all (fun x => x.1.isSome) = true := rfl
theorem all_plain (pos : Pos) : ∀ {es : List Expr} {fs : List (Sig → Option PV)}, EVs C d D es fs → ((backTo pos (starEach es env)).all fun x => !x.1) = true := by
  intro es fs h
  induction h with
  | nil => rfl
  | cons _ hst _ ih => rw [hst]; exact ih
theorem args_ok {f : Value} {es : List Expr} {fs : List (Sig → Option PV)} {pos : Pos} {ps : List PV} {Q : Args → Shared → Prop} (ha : EVs C d D es fs) (hr : Rm d A) (he : EnvOk D env) (hS : St C D G Mu env σ s) (hps : seqO fs σ = some ps)
    (hQ : ∀ vs s₁ G₁, Ext G s G₁ s₁ → C.RepL G₁ vs ps → Q ⟨vs, []⟩ s₁) : wpAny C.M A (evalArgs f true (backTo pos (starEach es env)) []) Q E s := by
  have key := spliced_ok ha (pos := pos) (E := E) hr he hS hps
  cases ha with
  | nil =>
    obtain rfl := sj hps
    exact PySem.evalArgs_none (hQ [] s G (Ext.refl hS.sub) .nil)
  | @cons e rest _ fs' h1 hst h2 =>
    have hb' : backTo pos (starEach (e :: rest) env) = (false, eval e env) :: backTo pos (starEach rest env) := by rw [hst]; rfl
    rw [hb'] at key ⊢
    exact evalArgs_plain (wpAny_mono key (fun vs s₂ ⟨G₂, x₂, r₂⟩ => hQ vs s₂ G₂ x₂ r₂) fun ž1 ž2 h => h)
noncomputable def methO (T : String) (Φ : List PV → Option PV) (f : Sig → Option PV) (fs : List (Sig → Option PV)) : Sig → Option PV := fun σ => (f σ).bind fun p => if tyP p = some T then (seqO fs σ).bind fun ps => Φ (p :: ps) else none
theorem EV.meth {e : Expr} {name : Str} {apos pos : Pos} {args : List Expr} {T id : String} {f : Sig → Option PV} {fs : List (Sig → Option PV)} {Φ : List PV → Option PV} (h : EV C d D e f) (ha : EVs C d D args fs) (hc : CallOK C d (.builtin id) Φ)
    (pa : PlainAttrs T) (slot : Slot T name id) (hty : typeOf (.builtin id) = pure (.type "method_descriptor")) (hn : args.length < 30 := by decide) (hline : (apos.endLine == pos.line) = true := by rfl)
    (hbase : ∀ env, attributeBase e name env (eval e env) = eval e env := by intros; rfl) : EV C d D (.Call (.Attribute e name apos) args [] pos) (methO T Φ f fs) := by
  intro A E env σ s G Mu p hr he hs hf
  refine k1_2 (bind_some hf) fun q hq hf => ?_
  refine ite_k hf (fun _ hf => ?_) fun _ hf => ?_
  · rename_i ht
    refine k1_2 (bind_some hf) fun ps hps hf => ?_
    have hfew : ((backTo pos (starEach args env)).all (fun x => !x.1) && (backToKw pos (keywordEach [] env)).all (fun x => x.1.isSome)
      && decide (args.length + ([] : List Keyword).length + (if ([] : List Keyword).isEmpty then 0 else 1) < 30)) = true := by
      rw [all_plain pos ha, kw_nil]
      simpa using hn
    refine wpAny_Call_method_lateS (hbase env) hfew hline (bind2 h hr he hs hq fun v s₁ G₁ x₁ r₁ S₁ => ?_)
    refine k0_2 (tyP_ok S₁.sub r₁ ht) fun t1 t2 => ?_
    refine ⟨T, id, pa, slot, hty, t1, t2, callWith_builtin (any_star pos ha) (args_ok ha hr he S₁ hps fun vs s₂ G₂ x₂ r₂ => ?_)⟩
    exact wpAny_mono (hc A E s₂ G₂ (v :: vs) (q :: ps) p hr (S₁.base.sub x₂.sub) x₂.inn (.cons (Rep.mono x₂.sub r₁) r₂) hf) (fun x s₃ h => Done.after (x₁.trans x₂) h) fun ž1 ž2 h => h
  · exact nv1 hf
noncomputable def valuesO : PV → Option (List PV)
  | .dct es => some (es.map (·.2))
  | _ => none
noncomputable def itemsO : PV → Option (List PV)
  | .dct es => some (es.map fun e => .tup [e.1.pv, e.2])
  | _ => none
set_option tactic.hygienic true in
theorem EI.values {tgt e : Expr} {apos pos : Pos} {f : Sig → Option PV} (h : EV C d D e f) (hline : (apos.endLine == pos.line) = true := by rfl)
    (hbase : ∀ env, attributeBase e "values" env (eval e env) = eval e env := by intros; rfl) : EI C d D tgt false (.Call (.Attribute e "values" apos) [] [] pos) (fun σ => (f σ).bind valuesO) := by
  intro A E env σ s G Mu xs Q hr he hS hf hQ
  refine k1_2 (bind_some hf) fun p hp hx => ?_
  refine Call_method0 (hbase env) hline (bind2 h hr he hS hp fun v s₁ G₁ x₁ r₁ S₁ => ?_)
  unfold valuesO at hx
  split at hx
  · rename_i es
    obtain rfl := sj hx
    · (refine k2_4 r₁.sh fun a kvs ž3 => ?_; subst ž3; intro hd hm hr')
      have hd₁ := DictOf.sub hd S₁.sub.h
      refine ⟨"dict", "dict.values", F.plainAttrs_dict, F.slot_dict_values, F.type_dict_values, hd₁.typeIs, hd₁.mapOf.noDict, method_meetsIn F.slot_dict_values F.entry_dict_values rfl (PySem.evalArgs_none ⟨rfl, hd₁.typeIs, F.args_dict_values_1 _, _, meets_dict_values C.dk a hm, ⟨kvs, hd₁⟩, ?_⟩)⟩
      refine k1_1 hd₁.dictAt fun ep hda => ?_
      have x₂ : Ext G₁ s₁ G₁ _ := Ext.push (tk := s₁.toks) S₁.sub (Nat.le_refl _) { cls := .type "dict_values", data := .fields #[.ref a] }
      have hda₂ := hda.push { cls := .type "dict_values", data := .fields #[.ref a] }
      refine wpAny_pyIter_values (s := { s₁ with heap := s₁.heap.push { cls := .type "dict_values", data := .fields #[.ref a] } }) (knd := C.dk) ⟨_, Heap.get?_push_size _ rfl, rfl, rfl⟩ hda₂ ?_
      have x₃ := Ext.push (tk := s₁.toks) x₂.inn (Nat.le_refl _) { cls := .type "dict_valueiterator", data := .fields #[.ref a, .int 0 0, .int kvs.length 0, .int ep 0] }
      have hda₃ := hda₂.push { cls := .type "dict_valueiterator", data := .fields #[.ref a, .int 0 0, .int kvs.length 0, .int ep 0] }
      refine hQ _ _ G₁ (x₁.trans (x₂.trans x₃)) ?_
      have hz : (s₁.heap.push { cls := .type "dict_values", data := .fields #[.ref a] }).objs.size = s₁.heap.objs.size + 1 := Heap.size_push ..
      have hlen := hr'.length
      have hlt := hda.lt_size
      generalize hI : (s₁.heap.push { cls := .type "dict_values", data := .fields #[.ref a] }).objs.size = I at *
      have hne : a ≠ I := Nat.ne_of_lt (Nat.lt_of_lt_of_le hlt (by rw [hz]; exact Nat.le_succ _))
      refine ⟨[I, a], [I], fun i v ž1 => ∃ k, kvs[i]? = some (k, v), fun i v h => (∃ k, kvs[i]? = some (k, v)) ∧ (h.IsValIter I a (i + 1) kvs.length ep ∧ h.DictAt C.dk a kvs ep), fun i h => h.IsValIter I a i kvs.length ep ∧ h.DictAt C.dk a kvs ep, fun b hb => ?_, fun b hb => ?_,
        ⟨⟨_, hI ▸ Heap.get?_push_size _ rfl, rfl, rfl⟩, hda₃⟩, ?_, fun A hr' => ?_, ?_, ?_⟩
      · rw [List.mem_singleton] at hb
        rw [hb]
        refine ⟨by have := x₁.size; rw [hz]; lia, by show _ < Array.size _; rw [Heap.size_push, hI]; exact Nat.lt_succ_self _, gNone S₁.sub (by rw [hz]; exact Nat.le_succ _)⟩
      · rcases List.mem_cons.mp hb with rfl | hb
        · exact .inl (.head _)
        · rw [List.mem_singleton] at hb
          subst hb
          refine k3_2 hd fun o es ep e _ => ?_
          exact .inr ⟨_, e⟩
      · rintro i h b o ⟨⟨o', e, hc, hd⟩, _⟩ hb ho
        rw [List.mem_singleton] at hb
        subst hb
        rw [e] at ho; obtain rfl := sj ho
        unfold isTab
        rw [hd, hc]; rfl
      · have := Walks.dictValues (prog := C.prog) (w := C.w) (A := A) (knd := C.dk) hr'.handled I a hne kvs ep
        have hz : kvs.length = (es.map (·.2)).length := by simp; lia
        rw [hz] at this ⊢
        exact KTurns.ofWalks this fun i v s Q E hst hq => letGo_valiter hst.1 hq
      · rintro i v h hi ⟨k, hk⟩
        rw [List.length_map] at hi
        obtain ⟨e, he⟩ : ∃ e, es[i]? = some e := ⟨es[i], List.getElem?_eq_getElem hi⟩
        obtain ⟨k', p⟩ := e
        refine k1_2 (hr'.get he) fun v' hv' rv => ?_
        rw [hk] at hv'; cases hv'
        exact ⟨p, by rw [List.getElem?_map, he]; rfl, .inl rv⟩
      · exact fun A hr' i s' Q E hst hq => (Walks.dictValues (prog := C.prog) (w := C.w) (A := A) (knd := C.dk) hr'.handled I a hne kvs ep).self i s' Q E hst hq
  · exact nv1 hx
set_option tactic.hygienic true in
theorem EI.items {elts : List Expr} {k : Nat} {tpos : Pos} {e : Expr} {apos pos : Pos} {f : Sig → Option PV} (h : EV C d D e f) (hline : (apos.endLine == pos.line) = true := by rfl)
    (hbase : ∀ env, attributeBase e "items" env (eval e env) = eval e env := by intros; rfl) : EI C d D (.Tuple elts k tpos) true (.Call (.Attribute e "items" apos) [] [] pos) (fun σ => (f σ).bind itemsO) := by
  intro A E env σ s G Mu xs Q hr he hS hf hQ
  refine k1_2 (bind_some hf) fun p hp hx => ?_
  refine Call_method0 (hbase env) hline (bind2 h hr he hS hp fun v s₁ G₁ x₁ r₁ S₁ => ?_)
  unfold itemsO at hx
  split at hx
  · rename_i es
    obtain rfl := sj hx
    · (refine k2_4 r₁.sh fun a kvs ž3 => ?_; subst ž3; intro hd hm hr')
      have hd₁ := DictOf.sub hd S₁.sub.h
      refine ⟨"dict", "dict.items", F.plainAttrs_dict, F.slot_dict_items, F.type_dict_items, hd₁.typeIs, hd₁.mapOf.noDict, method_meetsIn F.slot_dict_items F.entry_dict_items rfl (PySem.evalArgs_none ⟨rfl, hd₁.typeIs, F.args_dict_items_1 _, _, meets_dict_items C.dk a hm, ⟨kvs, hd₁⟩, ?_⟩)⟩
      refine k1_1 hd₁.dictAt fun ep hda => ?_
      have x₂ : Ext G₁ s₁ G₁ _ := Ext.push (tk := s₁.toks) S₁.sub (Nat.le_refl _) { cls := .type "dict_items", data := .fields #[.ref a] }
      have hda₂ := hda.push { cls := .type "dict_items", data := .fields #[.ref a] }
      refine wpAny_pyIter_items (s := { s₁ with heap := s₁.heap.push { cls := .type "dict_items", data := .fields #[.ref a] } }) (knd := C.dk) ⟨_, Heap.get?_push_size _ rfl, rfl, rfl⟩ hda₂ ?_
      have x₃ := Ext.push (tk := s₁.toks) x₂.inn (Nat.le_refl _) { cls := .type "dict_itemiterator", data := .fields #[.none, .bool false, .ref a, .int 0 0, .int kvs.length 0, .int ep 0, .none, .none] }
      have hda₃ := hda₂.push { cls := .type "dict_itemiterator", data := .fields #[.none, .bool false, .ref a, .int 0 0, .int kvs.length 0, .int ep 0, .none, .none] }
      refine hQ _ _ G₁ (x₁.trans (x₂.trans x₃)) ?_
      have hz : (s₁.heap.push { cls := .type "dict_items", data := .fields #[.ref a] }).objs.size = s₁.heap.objs.size + 1 := Heap.size_push ..
      have hlen := hr'.length
      have hlt := hda.lt_size
      generalize hI : (s₁.heap.push { cls := .type "dict_items", data := .fields #[.ref a] }).objs.size = I at *
      have hne : a ≠ I := Nat.ne_of_lt (Nat.lt_of_lt_of_le hlt (by rw [hz]; exact Nat.le_succ _))
      have hlm : (es.map fun e => PV.tup [e.1.pv, e.2]).length = kvs.length := by simp; lia
      refine ⟨[I, a], [I], fun i v h => ∃ T k key x, v = .ref T ∧ kvs[i]? = some (k, x) ∧ C.dk.is k key = true ∧ h.IsTuple T #[key, x], fun i v h => ∃ T k key x, v = .ref T ∧ kvs[i]? = some (k, x) ∧ C.dk.is k key = true ∧ h.IsTuple T #[key, x] ∧ IsItemIterOut h I a (i + 1) kvs.length ep key x T ∧ h.DictAt C.dk a kvs ep ∧ T ≠ I,
        fun i h => (∃ ok ov, IsItemIter h I a i kvs.length ep ok ov) ∧ h.DictAt C.dk a kvs ep, fun b hb => ?_, fun b hb => ?_,
        ⟨⟨.none, .none, hI ▸ Heap.get?_push_size _ rfl⟩, hda₃⟩, ?_, fun A hr' => ?_, ?_, ?_⟩
      · rw [List.mem_singleton] at hb
        rw [hb]
        refine ⟨by have := x₁.size; rw [hz]; lia, by show _ < Array.size _; rw [Heap.size_push, hI]; exact Nat.lt_succ_self _, gNone S₁.sub (by rw [hz]; exact Nat.le_succ _)⟩
      · rcases List.mem_cons.mp hb with rfl | hb
        · exact .inl (.head _)
        · rw [List.mem_singleton] at hb
          subst hb
          refine k3_2 hd fun o es ep e _ => ?_
          exact .inr ⟨_, e⟩
      · rintro i h b o ⟨⟨ok, ov, e⟩, _⟩ hb ho
        rw [List.mem_singleton] at hb
        subst hb
        have e' : h.get? b = some _ := e
        rw [e'] at ho; obtain rfl := sj ho; rfl
      · rw [hlm]
        refine ⟨fun b hb => by simp at hb; simp [hb], fun i h h' st hk => ?_, fun i s Q E hi st hQ => ?_, fun i v s Q E hm hQ => ?_, fun s Q E st hQ => ?_⟩
        · (refine k0_2 st fun ž1 => ?_; obtain ⟨ok, ov, e⟩ := ž1; intro hd)
          exact ⟨⟨ok, ov, hk I (by simp) _ e⟩, hd.at' fun o e => hk a (by simp) o e⟩
        · (refine k0_2 st fun ž1 => ?_; obtain ⟨ok, ov, e⟩ := ž1; intro hd)
          obtain ⟨⟨k, x⟩, hx⟩ : ∃ q, kvs[i]? = some q := ⟨kvs[i], by simp [hi]⟩
          have hne' : s.heap.objs.size ≠ I := Nat.ne_of_gt (Heap.lt_size e)
          refine wpAny_pyNext_items_item (knd := C.dk) e hd hx fun key h' hkey hout htup hsz hk => ?_
          exact hQ _ h' s.toks ⟨_, k, key, x, rfl, hx, hkey, ⟨_, htup, rfl, _, rfl⟩, hout, hd.at' fun o e => hk a o hne e, hne'⟩ fun b o hb e => hk b o (fun q => hb (by simp [q])) e
        · (refine k4_7 hm fun T k key x ž5 => ?_; subst ž5; intro hx hkey htup hout hd hT)
          refine wpAny_letOwnedTupleGo_items hout fun h' hit hs => ?_
          exact hQ h' ⟨T, k, key, x, rfl, hx, hkey, htup.at fun o e => (hs.2 T hT).trans e, ⟩ ⟨⟨_, _, hit⟩, hd.at' fun o e => (hs.2 a hne).trans e⟩ fun b o hb e => (hs.2 b fun q => hb (by simp [q])).trans e
        · (refine k0_2 st fun ž1 => ?_; obtain ⟨ok, ov, e⟩ := ž1; intro hd)
          exact wpAny_pyNext_items_end (knd := C.dk) hr'.handled e hd (by simp) fun h' he' => hQ h' s.toks fun b o hb e => he' b o (fun q => hb (by simp [q])) e
      · rintro i v h hi ⟨T, k, key, x, rfl, hx, hkey, htup⟩
        rw [List.length_map] at hi
        obtain ⟨e, he⟩ : ∃ e, es[i]? = some e := ⟨es[i], List.getElem?_eq_getElem hi⟩
        obtain ⟨k', p⟩ := e
        refine k1_2 (hr'.get he) fun v' hv' rv => ?_
        rw [hx] at hv'; cases hv'
        exact ⟨.tup [k.pv, p], by rw [List.getElem?_map, he]; rfl, .inr ⟨rfl, T, [key, x], [k.pv, p], rfl, rfl, htup, .cons (DK.rep hkey) (.cons rv .nil)⟩⟩
      · rintro A hr' i s' Q E ⟨⟨ok, ov, e⟩, hd⟩ hq
        exact kcp_self e hq
  · exact nv1 hx
noncomputable def enumL : Nat → List PV → List PV
  | _, [] => []
  | i, x :: xs => .tup [.int i, x] :: enumL (i + 1) xs
theorem enumL_get : ∀ (xs : List PV) (n i : Nat) (x : PV), xs[i]? = some x → (enumL n xs)[i]? = some (.tup [.int ((n + i : Nat) : Int), x])
  | [], _, _, _, h => by simp at h
  | y :: ys, n, 0, x, h => by simp at h; subst h; rfl
  | y :: ys, n, i + 1, x, h => by
    have := enumL_get ys (n + 1) i x (by simpa using h)
    have e : n + 1 + i = n + (i + 1) := by lia
    rw [e] at this
    simpa [enumL] using this
theorem enumL_length : ∀ (xs : List PV) (n : Nat), (enumL n xs).length = xs.length
  | [], _ => rfl
  | _ :: ys, n => by simp [enumL, enumL_length ys]
noncomputable def enumO : PV → Option (List PV)
  | .lst xs => some (enumL 0 xs)
  | _ => none
set_option tactic.hygienic true in
theorem EI.enum {elts : List Expr} {k : Nat} {tpos np pos : Pos} {e : Expr} {f : Sig → Option PV} (h : EV C d D e f) (hx : D.names.lookup (Str.ofString "enumerate") = some .globalImplicit) (hv : nsIn C.K mainGlobals (Str.ofString "enumerate") = some none)
    (hst : ∀ env rest, starEach (e :: rest) env = (false, eval e env) :: starEach rest env := by intros; rfl) : EI C d D (.Tuple elts k tpos) true (.Call (.Name (Str.ofString "enumerate") np) [e] [] pos) (fun σ => (f σ).bind enumO) := by
  intro A E env σ s G Mu xs Q hr he hS hf hQ
  refine k1_2 (bind_some hf) fun p hp hx' => ?_
  refine wpAny_Call_ofName ?_
  refine wpAny_mono ((EV.built (pos := np) hx hv (v := .type "enumerate") (by decide +kernel) (by decide) (by decide)) A E env σ s G Mu _ hr he hS rfl) (fun v s₁ hv₁ => ?_) fun ž1 ž2 h => h
  obtain ⟨G₁, x₁, r₁⟩ := hv₁
  obtain rfl := r₁.sh
  have S₁ := hS.ext x₁
  refine PyProof.Rows.callWith_type1 ?_ (hst _ _) rfl
  refine spliced_more (bind2 h hr he S₁ hp fun v s₂ G₂ x₂ r₂ S₂ => spliced_none ?_) (hst _ _)
  unfold enumO at hx'
  split at hx'
  · rename_i ys
    obtain rfl := sj hx'
    · (refine k2_3 r₂.sh fun a vs ž3 => ?_; subst ž3; intro hpl hr')
      have hl := (PlainList.sub hpl S₂.sub.h).isList
      refine wpAny_grown (call_enumerate_list hl fun h' hen hit hz hk gr => ?_)
      have x₃ : Ext G₂ s₂ G₂ { s₂ with heap := h' } := Ext.ofKeeps (tk := s₂.toks) S₂.sub gr hk
      have hlt : a < s₂.heap.objs.size := by refine k1_2 hl fun o ho _ => ?_; exact Heap.lt_size ho
      have hl₃ : h'.IsList a vs.toArray := by refine k1_2 hl fun o ho r => ?_; exact ⟨o, hk _ _ ho, r⟩
      refine wpAny_pyIter_enum hen (hQ _ _ G₂ ((x₁.trans x₂).trans x₃) ?_)
      have hlen := hr'.length
      generalize hI : s₂.heap.objs.size = I at *
      have W := fun A (hr : Rm d A) => (WalksT.enumerate (prog := C.prog) (w := C.w) (A := A) hr.handled (I + 1) I a (Nat.succ_ne_self I) (Nat.ne_of_lt (Nat.lt_succ_of_lt hlt)) (Nat.ne_of_lt hlt) vs.toArray)
      have hn : (enumL 0 ys).length = vs.toArray.size := by rw [enumL_length]; simp; lia
      have sz := (x₁.trans x₂).size
      refine ⟨[I + 1, I, a], [I + 1, I], _, _, _, fun b hb => ?_, fun b hb => ?_, ⟨⟨.none, hen⟩, hit, hl₃⟩, ?_, fun A hr => hn ▸ KTurns.ofWalksU (W A hr).toU, ?_, fun A hr => (W A hr).self⟩
      · simp only [List.mem_cons, List.not_mem_nil, or_false] at hb
        have hb' : I ≤ b ∧ b < h'.objs.size := by rcases hb with rfl | rfl <;> exact ⟨by first | exact Nat.le_succ _ | exact Nat.le_refl _, by rw [hz]; first | exact Nat.lt_succ_self _ | exact Nat.lt_succ_of_lt (Nat.lt_succ_self _)⟩
        refine ⟨Nat.le_trans sz (Nat.le_trans (Nat.le_of_eq hI) hb'.1), hb'.2, gNone S₂.sub (Nat.le_trans (Nat.le_of_eq hI) hb'.1)⟩
      · simp only [List.mem_cons, List.not_mem_nil, or_false] at hb
        rcases hb with rfl | rfl | rfl
        · exact .inl (by simp)
        · exact .inl (by simp)
        · refine k1_1 hpl fun n e => ?_
          exact .inr ⟨_, e⟩
      · rintro i h b o ⟨⟨old, q1⟩, ⟨o', q2, hc, hd⟩, q3⟩ hb ho
        simp only [List.mem_cons, List.not_mem_nil, or_false] at hb
        rcases hb with rfl | rfl
        · have q1' : h.get? (I + 1) = some _ := q1
          rw [q1'] at ho; obtain rfl := sj ho; rfl
        · rw [q2] at ho; obtain rfl := sj ho
          unfold isTab
          rw [hd, hc]; rfl
      · rintro i v h hi ⟨T, vals, rfl, ⟨t, x, hx, rfl⟩, htup⟩
        have hx' : vs[i]? = some x := by simpa using hx
        refine k1_2 (hr'.getV hx') fun p hp' rp => ?_
        refine ⟨.tup [.int i, p], by have := enumL_get ys 0 i p hp'; simpa using this, .inr ⟨rfl, T, [.int i t, x], [.int i, p], rfl, rfl, htup, .cons (.int _ _) (.cons rp .nil)⟩⟩
  · exact nv1 hx'
end
end
section
noncomputable def Fd.rel (D : Fd) (names : List (Str × NameKind)) : List (Str × NameKind) := names.map fun (n, k) => if (k == .free && D.names.lookup n == some .cell) then (n, .cell) else (n, k)
noncomputable def ownNames (names : List (Str × NameKind)) : List Str := (names.filter fun e => e.2 == .local || e.2 == .cell).map (·.1)
noncomputable def freeNames (names : List (Str × NameKind)) : List Str := (names.filter fun e => e.2 == .free).map (·.1)
noncomputable def Fd.sub (D : Fd) (sc : Scope) : Fd where
  names := D.rel sc.names
  nm := (ownNames sc.names).zipIdx D.next ++ (freeNames sc.names).filterMap fun x => (D.nm.lookup x).map fun i => (x, i)
  own := ownNames sc.names
  next := D.next + (ownNames sc.names).length
  cd := none
noncomputable def Fd.subOk (D : Fd) (sc : Scope) : Bool :=
  ((D.sub sc).nm.all fun e => !decide (e.2 < D.next) || (sc.names.lookup e.1 == some .free && D.nm.lookup e.1 == some e.2 && (D.names.lookup e.1 == some .cell || D.names.lookup e.1 == some .free))) &&
  decide (((D.sub sc).nm.map (·.2)).Nodup) &&
  (sc.names.all fun e => sc.names.lookup e.1 == some e.2) &&
  (sc.names.all fun e => !(e.2 == .free) || (D.names.lookup e.1 == some .cell || D.names.lookup e.1 == some .free)) &&
  sc.kind == .function
structure SubOk (D : Fd) (sc : Scope) : Prop where
  nm : ∀ x i, (D.sub sc).nm.lookup x = some i → i < D.next → sc.names.lookup x = some .free ∧ D.nm.lookup x = some i ∧ (D.names.lookup x = some .cell ∨ D.names.lookup x = some .free)
  inj : (D.sub sc).Inj
  fn : ∀ e ∈ sc.names, sc.names.lookup e.1 = some e.2
  fr : ∀ e ∈ sc.names, e.2 = .free → D.names.lookup e.1 = some .cell ∨ D.names.lookup e.1 = some .free
  kind : sc.kind = .function
theorem SubOk.of {D : Fd} {sc : Scope} (h : D.subOk sc = true) : SubOk D sc := by
  unfold Fd.subOk at h
  simp only [Bool.and_eq_true, List.all_eq_true, decide_eq_true_eq, beq_iff_eq, Bool.or_eq_true, Bool.not_eq_true', decide_eq_false_iff_not, beq_eq_false_iff_ne] at h
  (refine k0_2 h fun ž1 => ?_; obtain ⟨⟨⟨h1, h2⟩, h3⟩, h4⟩ := ž1; intro h5)
  refine ⟨fun x i hx hi => ?_, Fd.inj_of h2, h3, fun e he hf => ?_, h5⟩
  · rcases h1 (x, i) (mem_of_lookup hx) with q | ⟨⟨q1, q2⟩, q3⟩
    · exact absurd hi q
    · exact ⟨q1, q2, q3⟩
  · refine Or.elim (h4 e he) (fun q => ?_) fun q => ?_
    · exact absurd hf q
    · exact q
section
variable {C : Wd} {d : Nat} {D : Fd} {A : Around} {E : Value → Shared → Prop} {env : Env} {σ : Sig} {s s' : Shared} {G : Gh} {Mu : Addr → Prop} {sc : Scope}
theorem relabel_names (he : EnvOk D env) : (relabel sc env).names = D.rel sc.names := by
  unfold relabel Fd.rel
  have e : (env.scope.kind == ScopeKind.function) = true := by rw [he.kind]; rfl
  simp only [e, Bool.and_true, he.kindOf]
theorem closure_ok (hf : ∀ e ∈ sc.names, e.2 = .free → ∃ c, env.cells.lookup e.1 = some c) :
    ∃ cl, closureFor sc env = pure cl ∧ (∀ e ∈ cl, env.cells.lookup e.1 = some e.2 ∧ (e.1, NameKind.free) ∈ sc.names) ∧ ∀ e ∈ sc.names, e.2 = .free → ∃ c, cl.lookup e.1 = some c ∧ env.cells.lookup e.1 = some c := by
  have key : ∀ (names : List (Str × NameKind)) (acc : List (Str × Addr)), (∀ e ∈ names, (e ∈ sc.names)) → (∀ e ∈ names, e.2 = .free → ∃ c, env.cells.lookup e.1 = some c) → (∀ e ∈ acc, env.cells.lookup e.1 = some e.2 ∧ (e.1, NameKind.free) ∈ sc.names) →
      ∃ cl, (forIn names acc fun (x : Str × NameKind) (cs : List (Str × Addr)) => (if x.2 == NameKind.free then (do let a ← cellOf env x.1; pure (ForInStep.yield ((x.1, a) :: cs))) else pure (ForInStep.yield cs) : Sem (ForInStep (List (Str × Addr))))) = (pure cl : Sem _) ∧
        (∀ e ∈ cl, env.cells.lookup e.1 = some e.2 ∧ (e.1, NameKind.free) ∈ sc.names) ∧ (∀ e ∈ acc, (cl.lookup e.1).isSome = true) ∧ ∀ e ∈ names, e.2 = .free → (cl.lookup e.1).isSome = true := by
    intro names
    induction names with
    | nil =>
      intro acc _ _ ha
      refine ⟨acc, by rw [List.forIn_nil], ha, fun e he => ?_, fun e he => nomatch he⟩
      obtain ⟨x, c⟩ := e
      clear ha
      induction acc with
      | nil => cases he
      | cons y ys ih =>
        rw [List.lookup_cons]
        split
        · rfl
        · rename_i hne
          rcases List.mem_cons.mp he with rfl | he
          · simp at hne
          · exact ih he
    | cons e r ih =>
      intro acc hsub hn ha
      obtain ⟨x, k⟩ := e
      rw [List.forIn_cons]
      by_cases hk : k = .free
      · subst hk
        refine k1_1 (hn (x, .free) (.head _) rfl) fun c hc => ?_
        have hco : cellOf env x = pure c := by unfold cellOf; rw [hc]
        obtain ⟨cl, h1, h2, h3, h4⟩ := ih ((x, c) :: acc) (fun e he => hsub e (.tail _ he)) (fun e he => hn e (.tail _ he)) (fun e he => by
          rcases List.mem_cons.mp he with rfl | he
          · exact ⟨hc, hsub _ (.head _)⟩
          · exact ha e he)
        refine ⟨cl, ?_, h2, fun e he => h3 e (.tail _ he), fun e he hf => ?_⟩
        · simp only [beq_self_eq_true, if_true, hco, pure_bind]
          exact h1
        · rcases List.mem_cons.mp he with rfl | he
          · exact h3 (x, c) (.head _)
          · exact h4 e he hf
      · have hb : (k == NameKind.free) = false := by simpa using hk
        refine k1_4 (ih acc (fun e he => hsub e (.tail _ he)) (fun e he => hn e (.tail _ he)) ha) fun cl h1 h2 h3 h4 => ?_
        refine ⟨cl, ?_, h2, h3, fun e he hf => ?_⟩
        · simp only [hb, Bool.false_eq_true, if_false, pure_bind]
          exact h1
        · rcases List.mem_cons.mp he with rfl | he
          · exact absurd hf hk
          · exact h4 e he hf
  refine k1_4 (key sc.names [] (fun ž1 h => h) hf (fun e he => nomatch he)) fun cl h1 h2 _ h4 => ?_
  refine ⟨cl, ?_, h2, fun e he hfr => ?_⟩
  · unfold closureFor
    simp only [h1]
    first
      | rfl
      | (simp only [pure_bind])
  · refine k1_1 (Option.isSome_iff_exists.mp (h4 e he hfr)) fun c hc => ?_
    exact ⟨c, hc, (h2 (e.1, c) (mem_of_lookup hc)).1⟩
theorem cellsFrom_append : ∀ (names : List (Str × NameKind)) (n : Nat) (acc : List (Str × Addr)), cellsFrom n names acc = cellsFrom n names [] ++ acc
  | [], n, acc => rfl
  | (x, k) :: r, n, acc => by
    unfold cellsFrom
    split
    · rw [cellsFrom_append r (n + 1) ((x, n) :: acc), cellsFrom_append r (n + 1) [(x, n)], List.append_assoc]; rfl
    · exact cellsFrom_append r n acc
theorem cellsFrom_mem : ∀ (names : List (Str × NameKind)) (n : Nat) (x : Str) (c : Addr), (x, c) ∈ cellsFrom n names [] → (x, NameKind.cell) ∈ names
  | [], n, x, c, h => by cases h
  | (y, k) :: r, n, x, c, h => by
    unfold cellsFrom at h
    split at h
    · rename_i hk
      rw [cellsFrom_append] at h
      refine Or.elim (List.mem_append.mp h) (fun h => ?_) fun h => ?_
      · exact .tail _ (cellsFrom_mem r _ x c h)
      · rw [List.mem_singleton] at h
        cases h
        rw [eq_of_beq hk]
        exact .head _
    · exact .tail _ (cellsFrom_mem r _ x c h)
theorem pushCells_size : ∀ (names : List (Str × NameKind)) (h : Heap), h.objs.size ≤ (pushCells h names).objs.size
  | [], h => Nat.le_refl _
  | (y, k) :: r, h => by
    unfold pushCells
    split
    · exact Nat.le_trans (by rw [Heap.size_push]; exact Nat.le_succ _) (pushCells_size r _)
    · exact pushCells_size r _
theorem mem_rel {x : Str} {k : NameKind} (h : (x, k) ∈ D.rel sc.names) : (x, k) ∈ sc.names ∨ (k = .cell ∧ (x, NameKind.free) ∈ sc.names) := by
  unfold Fd.rel at h
  (refine k1_2 (List.mem_map.mp h) fun ž1 => ?_; obtain ⟨y, k'⟩ := ž1; intro hm e)
  dsimp only at e
  refine ite_k e (fun _ e => ?_) fun _ e => ?_
  · rename_i hc
    rw [Bool.and_eq_true] at hc
    cases e
    have := eq_of_beq hc.1
    subst this
    exact .inr ⟨rfl, hm⟩
  · cases e
    exact .inl hm
set_option tactic.hygienic true in
theorem lookup_rel {x : Str} {k : NameKind} : ∀ {names : List (Str × NameKind)}, names.lookup x = some k → (D.rel names).lookup x = some (if (k == .free && D.names.lookup x == some .cell) then .cell else k)
  | [], h => by cases (h)
  | (y, k') :: r, h => by
    have e0 : D.rel ((y, k') :: r) = (if (k' == .free && D.names.lookup y == some .cell) then (y, .cell) else (y, k')) :: D.rel r := rfl
    rw [e0]
    rw [List.lookup_cons] at h
    cases hx : x == y with
    | true =>
      rw [hx] at h
      cases (h)
      have e := eq_of_beq hx
      subst e
      by_cases hc : (k == NameKind.free && D.names.lookup x == some .cell) = true
      · rw [if_pos hc, if_pos hc, List.lookup_cons, hx]
      · rw [if_neg hc, if_neg hc, List.lookup_cons, hx]
    | false =>
      rw [hx] at h
      by_cases hc : (k' == NameKind.free && D.names.lookup y == some .cell) = true
      · rw [if_pos hc, List.lookup_cons, hx]; exact lookup_rel h
      · rw [if_neg hc, List.lookup_cons, hx]; exact lookup_rel h
noncomputable def Sig.below (σ : Sig) (n : Nat) : Sig := fun i => if i < n then σ i else none
set_option tactic.hygienic true in
theorem sub_env {Q : Env → Shared → Prop} {cl : List (Str × Addr)} (he : EnvOk D env) (hS : St C D G Mu env σ s) (ok : SubOk D sc) (hcl1 : ∀ e ∈ cl, env.cells.lookup e.1 = some e.2 ∧ (e.1, NameKind.free) ∈ sc.names) (hcl2 : ∀ e ∈ sc.names, e.2 = .free → ∃ c, cl.lookup e.1 = some c ∧ env.cells.lookup e.1 = some c)
    (k : ∀ (cenv env' : Env) (s' : Shared), env' = { cenv with scope := relabel sc env } → cenv.locals = s.heap.objs.size → EnvOk (D.sub sc) env' → Ext G s G s' → St C (D.sub sc) G (fun a => Mu a ∨ s.heap.objs.size ≤ a ∧ a < s'.heap.objs.size) env' (σ.below D.next) s' →
      (∀ a, Own (D.sub sc) env' a → s.heap.objs.size ≤ a) → Q cenv s') : wpAny C.M A (newFunctionEnv sc env.globals cl [] env.qual none .none (some env)) Q E s := by
  simp only [newFunctionEnv, Option.isSome_some, if_true]
  refine wpAny_bind (wpAny_alloc ?_)
  refine wpAny_bind (wpAny_layCells _ (fun name kind cells => by cases hkc : kind == NameKind.cell <;> simp [hkc]) _ _ _ _ ?_)
  have sz1 : (s.heap.push { cls := .type "dict", data := .dict #[] }).objs.size = s.heap.objs.size + 1 := Heap.size_push ..
  have ok0 := cellsFrom_ok sc.names (s.heap.push { cls := .type "dict", data := .dict #[] }) (s.heap.objs.size + 1) [] ⟨fun ž1 ž2 hm => (nomatch hm), List.Pairwise.nil⟩ (by rw [sz1]; exact Nat.le_refl _)
  rw [sz1] at ok0
  dsimp only
  rw [sz1, cellsFrom_append]
  have keep : ∀ b o, s.heap.get? b = some o → (pushCells (s.heap.push { cls := .type "dict", data := .dict #[] }) sc.names).get? b = some o := fun b o e => pushCells_keeps _ _ b o (Heap.get?_push_of_some _ e)
  have sz2 : s.heap.objs.size + 1 ≤ (pushCells (s.heap.push { cls := .type "dict", data := .dict #[] }) sc.names).objs.size := by
    have := pushCells_size sc.names (s.heap.push { cls := .type "dict", data := .dict #[] })
    rw [sz1] at this
    exact this
  have hns : (pushCells (s.heap.push { cls := .type "dict", data := .dict #[] }) sc.names).Ns s.heap.objs.size (fun ž1 => none) := (Heap.Ns.new s.heap (.type "dict")).keeps (pushCells_keeps _ _)
  generalize hNC : cellsFrom (s.heap.objs.size + 1) sc.names [] = NC at ok0 ⊢
  have hNCm : ∀ x c, (x, c) ∈ NC → (x, NameKind.cell) ∈ sc.names := fun x c h => cellsFrom_mem sc.names _ x c (hNC ▸ h)
  have hNCs : ∀ x, (x, NameKind.cell) ∈ sc.names → (NC.lookup x).isSome = true := fun x h => hNC ▸ cellsFrom_some sc.names _ [] x (.inl (ok.fn _ h))
  generalize pushCells (s.heap.push { cls := .type "dict", data := .dict #[] }) sc.names = H at ok0 keep sz2 hns ⊢
  refine wpAny_bind (wpAny_pure (wpAny_pure ?_))
  have look : ∀ x c, (NC ++ cl).lookup x = some c → (NC.lookup x = some c ∧ (x, c) ∈ NC) ∨ (cl.lookup x = some c ∧ (x, c) ∈ cl ∧ env.cells.lookup x = some c) := by
    intro x c h
    rw [List.lookup_append] at h
    cases hx : NC.lookup x with
    | some c' => rw [hx] at h; obtain rfl := sj h; exact .inl ⟨rfl, mem_of_lookup hx⟩
    | none =>
      rw [hx] at h
      have h' : cl.lookup x = some c := h
      exact .inr ⟨h', mem_of_lookup h', (hcl1 _ (mem_of_lookup h')).1⟩
  have freeAt : ∀ x, (x, NameKind.free) ∈ sc.names → ∃ c, (NC ++ cl).lookup x = some c ∧ env.cells.lookup x = some c := by
    intro x hx
    refine k1_2 (hcl2 _ hx rfl) fun c h1 h2 => ?_
    refine ⟨c, ?_, h2⟩
    rw [List.lookup_append]
    cases hn : NC.lookup x with
    | some c' =>
      have := ok.fn _ (hNCm _ _ (mem_of_lookup hn))
      have h2 := ok.fn _ hx
      rw [h2] at this
      cases this
    | none => exact h1
  have x₁ : Ext G s G { s with heap := H } := Ext.grow (tk := s.toks) hS.sub (Nat.le_refl _) keep (by lia)
  have hnew : ∀ x c, (x, c) ∈ NC → s.heap.objs.size + 1 ≤ c ∧ H.IsCell c none := fun x c h => ⟨(ok0.empty x c h).2, (ok0.empty x c h).1⟩
  refine k2_3 hS.var fun m α hn hv ho => ?_
  have loclt : ∀ x c, env.cells.lookup x = some c → c < s.heap.objs.size := fun x c h => (hS.mu c (hS.cel x c h).1).2
  refine k _ _ _ rfl rfl ⟨ok.kind, ?_, he.glob, he.blt, fun x hx => ?_, fun x hx => ?_, (fun ž1 e => by exact nv1 e)⟩ x₁ ⟨x₁.inn, hS.base, fun a ha => ?_, ?_, fun x c hx => ?_, fun x y c hx hy => ?_, fun ž1 => none, α, hns, fun x i lv hx hi => ?_, fun i lv hi hown => ?_⟩ fun a ha => ?_
  · exact relabel_names he
  · have hx' : (D.rel sc.names).lookup x = some .cell := hx
    rcases mem_rel (mem_of_lookup hx') with h | ⟨_, h⟩
    · refine k1_1 (Option.isSome_iff_exists.mp (hNCs x h)) fun c hc => ?_
      exact ⟨c, by show (NC ++ cl).lookup x = some c; rw [List.lookup_append, hc]; rfl⟩
    · refine k1_2 (freeAt x h) fun c hc _ => ?_
      exact ⟨c, hc⟩
  · have hx' : (D.rel sc.names).lookup x = some .free := hx
    rcases mem_rel (mem_of_lookup hx') with h | ⟨h, _⟩
    · refine k1_2 (freeAt x h) fun c hc _ => ?_
      exact ⟨c, hc⟩
    · cases h
  · rcases ha with ha | ⟨h1, h2⟩
    · exact ⟨(hS.mu a ha).1, Nat.lt_of_lt_of_le (hS.mu a ha).2 (by show s.heap.objs.size ≤ H.objs.size; lia)⟩
    · exact ⟨gNone hS.sub h1, h2⟩
  · exact .inr ⟨Nat.le_refl _, by show s.heap.objs.size < H.objs.size; lia⟩
  · rcases look x c hx with ⟨_, h⟩ | ⟨_, _, h⟩
    · refine k0_2 (hnew x c h) fun h1 h2 => ?_
      exact ⟨.inr ⟨Nat.le_of_succ_le h1, h2.lt⟩, Nat.ne_of_gt h1, none, h2⟩
    · obtain ⟨h1, h2, v, h3⟩ := hS.cel x c h
      exact ⟨.inl h1, Nat.ne_of_lt (loclt x c h), v, h3.keeps keep⟩
  · rcases look x c hx with ⟨_, h⟩ | ⟨_, _, h⟩ <;> rcases look y c hy with ⟨_, h'⟩ | ⟨_, _, h'⟩
    · exact name_of_addr ok0.apart h h'
    · exact absurd (loclt y c h') (Nat.not_lt.mpr (Nat.le_of_succ_le (hnew x c h).1))
    · exact absurd (loclt x c h) (Nat.not_lt.mpr (Nat.le_of_succ_le (hnew y c h').1))
    · exact hS.apart x y c h h'
  · unfold Sig.below at hi
    refine ite_k hi (fun _ hi => ?_) fun _ hi => ?_
    · rename_i hlt
      refine k0_3 (ok.nm x i hx hlt) fun q1 q2 q3 => ?_
      refine k1_2 (hv x i lv q2 hi) fun v h1 h2 => ?_
      refine ⟨v, ?_, ?_⟩
      · refine k1_2 (freeAt x (mem_of_lookup q1)) fun c hc hc' => ?_
        have hcell : H.IsCell c (some v) := by
          unfold At at h1
          rw [he.kindOf] at h1
          (refine Or.elim q3 (fun q3 => ?_) fun q3 => ?_) <;> rw [q3] at h1
          · refine k1_2 h1 fun c' e1 e2 => ?_
            rw [hc'] at e1; obtain rfl := sj e1
            exact e2.keeps keep
          · refine k1_2 h1 fun c' e1 e2 => ?_
            rw [hc'] at e1; obtain rfl := sj e1
            exact e2.keeps keep
        unfold At Env.kindOf
        dsimp only
        rw [relabel_names he, lookup_rel q1]
        split
        · rename_i hq; split at hq <;> cases hq
        · exact ⟨c, hc, hcell⟩
        · exact ⟨c, hc, hcell⟩
        · rename_i n1 n2 n3
          split at n2
          · exact n2 rfl
          · exact n3 (by rw [if_neg ‹_›])
      · cases lv with
        | pv p => exact h2
        | ol xs => obtain ⟨h1, h2, vs, ⟨n, h3⟩, h4⟩ := h2; exact ⟨h1, .inl h2, vs, ⟨n, keep _ _ h3⟩, h4⟩
        | od es => obtain ⟨h1, h2, h3, kvs, h4, h5⟩ := h2; exact ⟨h1, .inl h2, h3, kvs, h4.keep keep, h5⟩
    · exact nv1 hi
  · unfold Sig.below at hi
    refine ite_k hi (fun _ hi => ?_) fun _ hi => ?_
    · refine k0_4 (ho i lv hi hown) fun q0 q1 q2 q3 => ?_
      have lt := (hS.mu _ q0).2
      refine ⟨.inl q0, Nat.ne_of_lt lt, fun x c hx => ?_, fun j lv' hj hown' e => ?_⟩
      · rcases look x c hx with ⟨_, h⟩ | ⟨_, _, h⟩
        · exact Nat.ne_of_lt (Nat.lt_of_lt_of_le lt (Nat.le_of_succ_le (hnew x c h).1))
        · exact q2 x c h
      · unfold Sig.below at hj
        refine ite_k hj (fun _ hj => ?_) fun _ hj => ?_
        · exact q3 j lv' hj hown' e
        · exact nv1 hj
    · exact nv1 hi
  · rcases ha with rfl | ⟨x, hx, hc⟩
    · exact Nat.le_refl _
    · rcases look x a hc with ⟨_, h⟩ | ⟨hcl, hm, h⟩
      · exact Nat.le_of_succ_le (hnew x a h).1
      · exfalso
        have hown : x ∈ ownNames sc.names := by
          have hx' : (ownNames sc.names).contains x = true := hx
          simpa using hx'
        unfold ownNames at hown
        (refine k1_2 (List.mem_map.mp hown) fun e he' ž3 => ?_; subst ž3)
        refine k0_2 (List.mem_filter.mp he') fun hm1 hm2 => ?_
        have q1 := ok.fn _ (hcl1 _ hm).2
        have q2 := ok.fn _ hm1
        rw [q1] at q2
        have q3 := Option.some.inj q2
        rw [← q3] at hm2
        have h0 : (NameKind.free == NameKind.local || NameKind.free == NameKind.cell) = true := hm2
        exact absurd h0 (by decide)
end
end
section
noncomputable def Sig.clear (σ : Sig) (is : List Nat) : Sig := fun j => if is.contains j then none else σ j
section
variable {C : Wd} {d : Nat} {D : Fd} {A : Around} {E : Value → Shared → Prop} {env : Env} {σ σ' : Sig} {s s' : Shared} {G G' : Gh} {Mu : Addr → Prop} {sc : Scope}
theorem St.forget (S : St C D G Mu env σ' s) (h : ∀ i lv, σ i = some lv → σ' i = some lv) : St C D G Mu env σ s := by
  refine k2_3 S.var fun m α hn hv ho => ?_
  exact ⟨S.sub, S.base, S.mu, S.loc, S.cel, S.apart, m, α, hn, fun x i lv hx hi => hv x i lv hx (h i lv hi), fun i lv hi hown => let ⟨q0, q1, q2, q3⟩ := ho i lv (h i lv hi) hown; ⟨q0, q1, q2, fun j lv' hj hown' e => q3 j lv' (h j lv' hj) hown' e⟩⟩
theorem St.clear (S : St C D G Mu env σ s) (is : List Nat) : St C D G Mu env (σ.clear is) s := S.forget fun i lv h => by
  unfold Sig.clear at h
  refine ite_k h (fun _ h => ?_) fun _ h => ?_
  · exact nv1 h
  · exact h
structure Coll (C : Wd) (acc : Addr) (Acc : Gh → Heap → List PV → Prop) : Prop where
  mono : ∀ G G' h h' os, Le G G' → (∀ o, h.get? acc = some o → isTab o = false → h'.get? acc = some o) → Acc G h os → Acc G' h' os
inductive Handed (C : Wd) (D : Fd) (env : Env) (acc : Addr) (Acc : Gh → Heap → List PV → Prop) (js : List Nat) (σ : Sig) (s : Shared) (G : Gh) (Mu : Addr → Prop) (all : List PV) (s' : Shared) : Prop
  | intro (G' : Gh) (σ' : Sig) (e : ExtM (fun a => Own D env a ∨ a = acc) G s (fun a => (Own D env a ∨ a = acc) ∨ s.heap.objs.size ≤ a) G' s') (S : St C D G' Mu env σ' s') (k : ∀ i lv, ¬ js.contains i = true → σ i = some lv → σ' i = some lv) (g : G'.h.get? acc = none) (A : Acc G' s'.heap all)
noncomputable def EmOK (C : Wd) (d : Nat) (D : Fd) (env : Env) (acc : Addr) (Acc : Gh → Heap → List PV → Prop) (js : List Nat) (em : Sem Unit) (inner : Sig → Option (List PV)) : Prop :=
  ∀ (A : Around) (E : Value → Shared → Prop) (σ : Sig) (s : Shared) (G : Gh) (Mu : Addr → Prop) (os o : List PV), Rm d A → EnvOk D env → St C D G Mu env σ s → ¬ Mu acc → G.h.get? acc = none → acc < s.heap.objs.size → Acc G s.heap os → os.length + o.length ≤ 65536 → inner σ = some o →
    wpAny C.M A em (fun ž1 s' => Handed C D env acc Acc js σ s G Mu (os ++ o) s') E s
noncomputable def clF (k : PV → Sig → Option Sig) (is : List Nat) (t : Sig → Option Bool) (inner : Sig → Option (List PV)) (σ : Sig) : List PV → Option (List PV)
  | [] => some []
  | p :: ps => (k p (σ.clear is)).bind fun σ₁ => (t σ₁).bind fun b => (if b then inner σ₁ else some []).bind fun o => (clF k is t inner σ ps).bind fun r => some (o ++ r)
noncomputable def TsOK (C : Wd) (d : Nat) (D : Fd) (ifs : List Expr) (t : Sig → Option Bool) : Prop :=
  ∀ (A : Around) (E : Value → Shared → Prop) (env : Env) (σ : Sig) (s : Shared) (G : Gh) (Mu : Addr → Prop) (b : Bool), Rm d A → EnvOk D env → St C D G Mu env σ s → t σ = some b →
    wpAny C.M A (forIn ifs true fun c r => if r = true then do let ok ← isTrue c env (eval c env); pure (ForInStep.yield ok) else pure (ForInStep.yield r)) (DoneB G s b) E s
noncomputable def yesT : Sig → Option Bool := fun ž1 => some true
theorem TsOK.nil : TsOK C d D [] yesT := by
  intro A E env σ s G Mu b hr he hS hb
  obtain rfl := sj hb
  exact wpAny_tests_nil ⟨G, Ext.refl hS.sub, rfl⟩
theorem TsOK.one {c : Expr} {t : Sig → Option Bool} (h : IT C d D c t) : TsOK C d D [c] t := by
  intro A E env σ s G Mu b hr he hS hb
  exact wpAny_tests_one (h A E env σ s G Mu b hr he hS hb)
theorem clF_le {k : PV → Sig → Option Sig} {is : List Nat} {t : Sig → Option Bool} {inner : Sig → Option (List PV)} {σ : Sig} {p : PV} {ps : List PV} {out : List PV} (h : clF k is t inner σ (p :: ps) = some out) :
    ∃ σ₁ b o r, k p (σ.clear is) = some σ₁ ∧ t σ₁ = some b ∧ (if b then inner σ₁ else some []) = some o ∧ clF k is t inner σ ps = some r ∧ out = o ++ r := by
  unfold clF at h
  refine k1_2 (bind_some h) fun σ₁ h1 h => ?_
  refine k1_2 (bind_some h) fun b h2 h => ?_
  refine k1_2 (bind_some h) fun o h3 h => ?_
  refine k1_2 (bind_some h) fun r h4 h => ?_
  obtain rfl := sj h
  exact ⟨σ₁, b, o, r, h1, h2, h3, h4, rfl⟩
structure ClAt (C : Wd) (D : Fd) (env : Env) (acc : Addr) (Acc : Gh → Heap → List PV → Prop) (k : PV → Sig → Option Sig) (is : List Nat) (t : Sig → Option Bool) (inner : Sig → Option (List PV)) (σ : Sig) (Mu : Addr → Prop) (Gb G₁ : Gh) (sb : Shared) (wr : List Addr) (Sk : Nat → Heap → Prop) (xs all : List PV) (n i : Nat) (G₂ : Gh) (os₂ out₂ : List PV) (s₂ : Shared) : Prop where
  hn : n = xs.length - i
  le : i ≤ xs.length
  g : Le G₁ G₂
  e : ExtM (fun a => Own D env a ∨ a = acc) Gb sb (fun a => (Own D env a ∨ a = acc) ∨ sb.heap.objs.size ≤ a) G₂ s₂
  S : St C D G₂ Mu env (σ.clear is) s₂
  st : Sk i s₂.heap
  hwr : ∀ b ∈ wr, G₂.h.get? b = none ∧ b < s₂.heap.objs.size
  hacc : G₂.h.get? acc = none ∧ acc < s₂.heap.objs.size
  A : Acc G₂ s₂.heap os₂
  F : clF k is t inner σ (xs.drop i) = some out₂
  sum : os₂ ++ out₂ = all
theorem cl_loop {e : Expr} {kk : Nat} {I acc : Addr} {tgt iter : Expr} {ifs : List Expr} {em : Sem Unit} {Acc : Gh → Heap → List PV → Prop} {js is : List Nat} {k : PV → Sig → Option Sig} {t : Sig → Option Bool} {inner : Sig → Option (List PV)} {tr : Bool}
    {R : Result → Shared → Prop} {xs out os : List PV} {Gb G₁ : Gh} {sb s₁ : Shared}
    (hturn : compTurn e kk (.ref I) (.ref acc) env = (do
      standAt iter.pos
      match ← pyNext (.ref I) with
      | none => pure (.done .next)
      | some v =>
        letOwnedTupleGo tgt (.ref I) v
        assign tgt env v
        let ok ← forIn ifs true fun c r => if r = true then do let ok ← isTrue c env (eval c env); pure (ForInStep.yield ok) else pure (ForInStep.yield r)
        if ok = true then em
        again (.compLoop e kk (.ref I) (.ref acc) env)))
    (hq : (Code.compLoop e kk (.ref I) (.ref acc) env).quiet = true)
    (hden : C.M.den (.compLoop e kk (.ref I) (.ref acc) env) = (compTurn e kk (.ref I) (.ref acc) env).onRaise (fun x => do noteFrame x env; theTreesLotGoes x))
    (hund : A.under (.compLoop e kk (.ref I) (.ref acc) env) = A)
    (hcol : Coll C acc Acc) (hAt : AT C D tr tgt k) (hk : ∀ p σ σ₁, k p σ = some σ₁ → ∀ j, ¬ is.contains j = true → σ₁ j = σ j) (hjs : ∀ j, js.contains j = true → is.contains j = true) (hT : TsOK C d D ifs t) (hE : EmOK C d D env acc Acc js em inner)
    (hr : Rm d A) (he : EnvOk D env) (hi : D.Inj) (x₀ : ExtM (fun a => Own D env a ∨ a = acc) Gb sb (fun a => (Own D env a ∨ a = acc) ∨ sb.heap.objs.size ≤ a) G₁ s₁)
    (hS : St C D G₁ Mu env σ s₁) {fp wr : List Addr} {P Md : Nat → Value → Heap → Prop} {Sk : Nat → Heap → Prop}
    (hwr : ∀ b ∈ wr, sb.heap.objs.size ≤ b ∧ ¬ Mu b ∧ b ≠ acc ∧ G₁.h.get? b = none ∧ b < s₁.heap.objs.size) (hfp : ∀ b ∈ fp, b ∈ wr ∨ ∃ o, G₁.h.get? b = some o) (hst : Sk 0 s₁.heap) (htab : ∀ i h b o, Sk i h → b ∈ wr → h.get? b = some o → isTab o = false)
    (W : KTurns C.prog C.w A tgt I fp wr xs.length P Md Sk) (hP : ∀ i v h, i < xs.length → P i v h → ∃ p, xs[i]? = some p ∧ ItemRep C G₁ h tr v p)
    (hacc : ¬ Mu acc) (haccG : G₁.h.get? acc = none) (haccb : acc < s₁.heap.objs.size) (hA : Acc G₁ s₁.heap os) (hlen : os.length + out.length ≤ 65536)
    (hf : clF k is t inner σ xs = some out)
    (hR : ∀ s' G', ExtM (fun a => Own D env a ∨ a = acc) Gb sb (fun a => (Own D env a ∨ a = acc) ∨ sb.heap.objs.size ≤ a) G' s' → St C D G' Mu env (σ.clear is) s' → G'.h.get? acc = none → Acc G' s'.heap (os ++ out) → R (.ok .next) s') :
    codeAny C.M A (.compLoop e kk (.ref I) (.ref acc) env) R s₁ := by
  have hOwn : ∀ a, Own D env a → Mu a := fun a h => hS.own a h
  have wrV : ∀ b ∈ wr, ¬ (Own D env b ∨ b = acc) := by
    intro b hb h
    refine Or.elim h (fun h => ?_) fun h => ?_
    · exact (hwr b hb).2.1 (hOwn b h)
    · exact (hwr b hb).2.2.1 h
  have accO : ¬ Own D env acc := fun h => hacc (hOwn acc h)
  obtain ⟨J, hJ⟩ : ∃ J : Nat → Shared → Prop, J = fun n s₂ => ∃ i G₂ os₂ out₂, ClAt C D env acc Acc k is t inner σ Mu Gb G₁ sb wr Sk xs (os ++ out) n i G₂ os₂ out₂ s₂ := ⟨_, rfl⟩
  refine codeAny_loop hq J ?_ xs.length (by rw [hJ]; exact ⟨0, G₁, os, out, rfl, Nat.zero_le _, Le.refl _, x₀, hS.clear is, hst, fun b hb => (hwr b hb).2.2.2, ⟨haccG, haccb⟩, hA, hf, rfl⟩)
  intro n s₂ hJn
  obtain ⟨i, G₂, os₂, out₂, hn, hile, hle, e₂, S₂, hst₂, hwr₂, ⟨hG₂, hac₂⟩, hA₂, hF₂, hsum⟩ := hJ ▸ hJn
  rw [hden, hund]
  refine wpAny_noted ?_
  rw [hturn]
  refine wpAny_bind (wpAny_standAt (wpAny_bind ?_))
  have sbs : sb.heap.objs.size ≤ s₂.heap.objs.size := e₂.size
  have hW₂ : ∀ a ∈ wr, ¬ Mu a ∧ G₂.h.get? a = none := fun a h => ⟨(hwr a h).2.1, (hwr₂ a h).1⟩
  have hPw : ∀ c P, G₂.cd = some (c, P) → P ∉ wr := fun c P e hm => by
    obtain ⟨_, _, _, ps, _, ⟨_, tp⟩⟩ := S₂.sub.cd c P e
    have := htab _ _ P _ hst₂ hm tp
    exact nv3 this
  have wrA : acc ∉ wr := fun h => wrV acc h (.inr rfl)
  have step : ∀ (s₃ : Shared) (h' : Heap) (tk : Nat), (∀ b o, b ∉ wr → s₃.heap.get? b = some o → h'.get? b = some o) → Grown s₃ { s₃ with heap := h', toks := tk } →
      ExtM (fun a => (Own D env a ∨ a = acc) ∨ sb.heap.objs.size ≤ a) G₂ s₃ (fun a => (Own D env a ∨ a = acc) ∨ sb.heap.objs.size ≤ a) G₂ { s₃ with heap := h', toks := tk } := fun s₃ h' tk hk gr =>
    ExtM.wr (fun a h => .inr (hwr a h).1) hk gr fun h₀ hz hm z => oldK_keep z fun b o hb e => hk b o (fun h => absurd hb (Nat.not_lt.mpr (hm b (.inr (hwr b h).1)))) e
  by_cases hlt : i < xs.length
  · refine wpAny_grown (W.item i s₂ _ _ hlt hst₂ fun v h₃ tk₃ hMd hk₃ gr₃ => ?_)
    have S₃ := S₂.wr hW₂ hPw hk₃ gr₃
    have e₃ := step s₂ h₃ tk₃ hk₃ gr₃
    refine wpAny_bind (wpAny_grown (W.go i v _ _ _ hMd fun h₄ hPv hst₄ hk₄ gr₄ => ?_))
    have S₄ := S₃.wr (tk := tk₃) hW₂ hPw hk₄ gr₄
    have e₄ := step _ h₄ tk₃ hk₄ gr₄
    have size₄ : s₂.heap.objs.size ≤ h₄.objs.size := Nat.le_trans gr₃.size gr₄.size
    have hA₄ : Acc G₂ h₄ os₂ := hcol.mono _ _ _ _ _ (Le.refl _) (fun o ho ž1 => hk₄ acc o wrA (hk₃ acc o wrA ho)) hA₂
    refine k1_2 (hP i v h₄ hlt hPv) fun p hp hit => ?_
    have hd : xs.drop i = p :: xs.drop (i + 1) := by
      rw [List.drop_eq_getElem_cons hlt]
      rw [List.getElem?_eq_getElem hlt] at hp
      rw [Option.some.inj hp]
    rw [hd] at hF₂
    refine k4_5 (clF_le hF₂) fun σ₁ b o r hσ₁ hb ho hr' hout => ?_
    subst hout
    have hlen₂ : os₂.length + o.length ≤ 65536 := by
      have := congrArg List.length hsum
      simp only [List.length_append] at this
      lia
    refine wpAny_bind (wpAny_mono (hAt A _ env (σ.clear is) _ G₂ Mu v p σ₁ hr.handled he hi S₄ (hit.le hle) hσ₁) (fun ž1 s₅ ha => ?_) fun ž1 ž2 h => h)
    refine k0_2 ha fun e₅ S₅ => ?_
    refine wpAny_bind (wpAny_mono (hT A _ env σ₁ s₅ G₂ Mu b hr he S₅ hb) (fun ok s₆ ht => ?_) fun ž1 ž2 h => h)
    obtain ⟨G₆, x₆, rfl⟩ := ht
    have S₆ := S₅.ext x₆
    have e46 : ExtM (fun a => Own D env a ∨ a = acc) G₂ { s₂ with heap := h₄, toks := tk₃ } (fun a => Own D env a ∨ a = acc) G₆ s₆ := (ExtM.up (M₀ := Own D env) (fun a h => .inl h) e₅).trans (Ext.toM x₆)
    have up : ∀ {Ga Gc : Gh} {sa sc : Shared} {V' : Addr → Prop}, s₂.heap.objs.size ≤ sa.heap.objs.size → ExtM (fun a => Own D env a ∨ a = acc) Ga sa V' Gc sc → ExtM (fun a => (Own D env a ∨ a = acc) ∨ sb.heap.objs.size ≤ a) Ga sa (fun a => (Own D env a ∨ a = acc) ∨ sb.heap.objs.size ≤ a) Gc sc := by
      intro Ga Gc sa sc V' hsz x
      refine ⟨x.sub, fun a o h => ?_, fun a h => .inl h, fun a o hn ht h => x.keep a o (fun q => hn (.inl q)) ht h, x.size, x.os, x.gens, fun h₀ hz hm z => x.old h₀ hz (fun a ha => hm a (.inl ha)) z⟩
      refine Or.elim (x.new a o h) (fun h => ?_) fun ž => Or.elim ž (fun h => ?_) fun h => ?_
      · exact .inl h
      · exact .inr (.inl (.inl h))
      · exact .inr (.inr h)
    have all₆ := ((e₂.trans e₃).trans e₄).trans (up size₄ e46)
    have wr₆ : ∀ b ∈ wr, G₆.h.get? b = none ∧ b < s₆.heap.objs.size := fun b hb => (e46.apart (wrV b hb) (hwr₂ b hb).1 (hwr₂ b hb).2 size₄).2
    have hst₆ : Sk (i + 1) s₆.heap := W.frame _ _ _ hst₄ fun b hb o ho => e46.stands S₄.sub S₆.sub hle wrV (hfp b hb) (fun hb => htab _ _ b o hst₄ hb ho) ho
    have hGa₅ : G₆.h.get? acc = none := by
      cases q : G₆.h.get? acc with
      | none => rfl
      | some o =>
        refine Or.elim (x₆.new acc o q) (fun h => ?_) fun h => ?_
        · rw [hG₂] at h; exact nv1 h
        · exact absurd (Nat.lt_of_lt_of_le hac₂ (Nat.le_trans size₄ e₅.size)) (Nat.not_lt.mpr h)
    have hA₆ : Acc G₆ s₆.heap os₂ := hcol.mono _ _ _ _ _ x₆.sub (fun o ho hto => x₆.keep acc o hto (e₅.keep acc o accO hto ho)) hA₄
    have loop : ∀ (s₇ : Shared) (G₇ : Gh) (σ₇ : Sig), Le G₂ G₇ → ExtM (fun a => Own D env a ∨ a = acc) Gb sb (fun a => (Own D env a ∨ a = acc) ∨ sb.heap.objs.size ≤ a) G₇ s₇ → St C D G₇ Mu env σ₇ s₇ → (∀ i lv, (σ.clear is) i = some lv → σ₇ i = some lv) → Sk (i + 1) s₇.heap →
        (∀ b ∈ wr, G₇.h.get? b = none ∧ b < s₇.heap.objs.size) → (G₇.h.get? acc = none ∧ acc < s₇.heap.objs.size) → Acc G₇ s₇.heap (os₂ ++ o) → ∃ m, m < n ∧ J m s₇ :=
      fun s₇ G₇ σ₇ hl x S hσ hsk hw hg ha => ⟨xs.length - (i + 1), by lia, by rw [hJ]; exact ⟨i + 1, G₇, os₂ ++ o, r, rfl, hlt, hle.trans hl, x, S.forget hσ, hsk, hw, hg, ha, hr', by rw [List.append_assoc]; exact hsum⟩⟩
    have hσ₁' : ∀ i lv, (σ.clear is) i = some lv → σ₁ i = some lv := by
      intro j lv h
      rw [hk _ _ _ hσ₁ j (fun q => by unfold Sig.clear at h; rw [if_pos q] at h; exact nv1 h)]
      exact h
    cases ok with
    | false =>
      have ho' : (some [] : Option (List PV)) = some o := ho
      obtain rfl := sj ho'
      refine wpAny_pure ⟨rfl, loop s₆ G₆ σ₁ e46.sub all₆ S₆ hσ₁' hst₆ wr₆ ⟨hGa₅, Nat.lt_of_lt_of_le hac₂ (Nat.le_trans size₄ e46.size)⟩ (by rw [List.append_nil]; exact hA₆)⟩
    | true =>
      have ho' : inner σ₁ = some o := ho
      rw [if_pos rfl]
      refine wpAny_bind (wpAny_mono (hE A _ σ₁ s₆ G₆ Mu os₂ o hr he S₆ hacc hGa₅ (Nat.lt_of_lt_of_le hac₂ (Nat.le_trans size₄ e46.size)) hA₆ hlen₂ ho') (fun ž1 s₇ hem => ?_) fun ž1 ž2 h => h)
      obtain ⟨G₇, σ₇, e₇, S₇, hσ₇, hG₇, hA₇⟩ := hem
      have size₆ : s₂.heap.objs.size ≤ s₆.heap.objs.size := Nat.le_trans size₄ e46.size
      refine wpAny_pure ⟨rfl, loop s₇ G₇ σ₇ (e46.sub.trans e₇.sub) (all₆.trans (up size₆ e₇)) S₇ (fun j lv h => hσ₇ j lv (fun q => ?_) (hσ₁' j lv h)) ?_ (fun b hb => ?_) ⟨hG₇, Nat.lt_of_lt_of_le hac₂ (Nat.le_trans size₆ e₇.size)⟩ hA₇⟩
      · unfold Sig.clear at h
        rw [if_pos (hjs j q)] at h
        exact nv1 h
      · exact W.frame _ _ _ hst₆ fun b hb o ho => e₇.stands S₆.sub S₇.sub (hle.trans e46.sub) wrV (hfp b hb) (fun hb => htab _ _ b o hst₆ hb ho) ho
      · exact (e₇.apart (wrV b hb) (wr₆ b hb).1 (wr₆ b hb).2 (Nat.le_refl _)).2
  · have hi' : i = xs.length := by lia
    subst hi'
    rw [List.drop_length] at hF₂
    obtain rfl := sj hF₂
    rw [List.append_nil] at hsum
    subst hsum
    refine wpAny_grown (W.done s₂ _ _ hst₂ fun h₃ tk₃ hk₃ gr₃ => ?_)
    have S₃ := S₂.wr hW₂ hPw hk₃ gr₃
    have e₃ := step s₂ h₃ tk₃ hk₃ gr₃
    exact wpAny_pure (hR _ G₂ (e₂.trans e₃) S₃ hG₂ (hcol.mono _ _ _ _ _ (Le.refl _) (fun o ho ž1 => hk₃ acc o wrA ho) hA₂))
end
end
section
noncomputable def insD (es : List (DK × PV)) (k : DK) (v : PV) : List (DK × PV) := if es.any (fun e => e.1 = k) then es.map (fun e => if e.1 = k then (e.1, v) else e) else es ++ [(k, v)]
section
variable {C : Wd} {d : Nat} {D : Fd} {A : Around} {E : Value → Shared → Prop} {env : Env} {σ σ' : Sig} {s s' : Shared} {G G' : Gh} {Mu : Addr → Prop} {sc : Scope}
theorem RepD.any {kvs : List (DK × Value)} {es : List (DK × PV)} (h : C.RepD G kvs es) (k : DK) : kvs.any (fun e => e.1 = k) = es.any (fun e => e.1 = k) := by
  induction kvs generalizing es with
  | nil => cases h; rfl
  | cons e r ih => cases h with | cons _ h => simp only [List.any_cons, ih h]
theorem RepD.append {kvs us : List (DK × Value)} {es fs : List (DK × PV)} (h : C.RepD G kvs es) (h' : C.RepD G us fs) : C.RepD G (kvs ++ us) (es ++ fs) := by
  induction kvs generalizing es with
  | nil => cases h; exact h'
  | cons e r ih => cases h with | cons hv h => exact .cons hv (ih h)
theorem RepD.ins {kvs : List (DK × Value)} {es : List (DK × PV)} (h : C.RepD G kvs es) {k : DK} {v : Value} {p : PV} (hv : C.Rep G v p) : C.RepD G (stored kvs k v) (insD es k p) := by
  unfold stored insD
  rw [RepD.any h k]
  split
  · have key : ∀ (kvs : List (DK × Value)) (es : List (DK × PV)), C.RepD G kvs es → C.RepD G (kvs.map fun e => if e.1 = k then (e.1, v) else e) (es.map fun e => if e.1 = k then (e.1, p) else e) := by
      intro kvs
      induction kvs with
      | nil => intro es h; cases h; exact .nil
      | cons e r ih =>
        intro es h
        cases h with
        | @cons k' v' _ x' _ hx h =>
          rw [List.map_cons, List.map_cons]
          dsimp only
          by_cases hk : k' = k
          · rw [if_pos hk, if_pos hk]; exact .cons hv (ih _ h)
          · rw [if_neg hk, if_neg hk]; exact .cons hx (ih _ h)
    exact key _ _ h
  · exact RepD.append h (.cons hv .nil)
theorem insD_length (es : List (DK × PV)) (k : DK) (v : PV) : (insD es k v).length ≤ es.length + 1 := by unfold insD; split <;> simp
theorem not_sys (hb : Bs C G) (hs : In G s) {a : Addr} (h : s.heap.objs.size ≤ a) : (a == sysModules) = false := by
  refine k3_2 hb.c fun o _ _ ho _ => ?_
  have := Heap.lt_size (hs.h _ _ ho)
  have h2 : 2 < s.heap.objs.size := this
  rw [beq_eq_false_iff_ne]
  intro e
  subst e
  exact absurd (Nat.lt_of_lt_of_le h2 h) (by decide)
theorem Ext.ofM {V V' : Addr → Prop} (x : ExtM V G s V' G' s') (hin : In G' s') (hV : ∀ a, V a → s.heap.objs.size ≤ a) : Ext G s G' s' := by
  refine ⟨x.sub, hin, fun a o h => ?_, fun a o ht h => x.keep a o (fun hv => absurd (Heap.lt_size h) (Nat.not_lt.mpr (hV a hv))) ht h, x.size, x.os, x.gens, fun h₀ hz z => x.old h₀ hz (fun a ha => Nat.le_trans hz (hV a ha)) z⟩
  refine Or.elim (x.new a o h) (fun h => ?_) fun ž => Or.elim ž (fun h => ?_) fun h => ?_
  · exact .inl h
  · exact .inr (hV a h)
  · exact .inr h
structure Cmp (C : Wd) (d : Nat) (e : Expr) (tgt iter : Expr) (ifs : List Expr) (em : Addr → Env → Sem Unit) (newAcc : Sem Value) (o0 : Obj) : Prop where
  turn : ∀ (I acc : Addr) (env : Env), compTurn e 0 (.ref I) (.ref acc) env = (do
      standAt iter.pos
      match ← pyNext (.ref I) with
      | none => pure (.done .next)
      | some v =>
        letOwnedTupleGo tgt (.ref I) v
        assign tgt env v
        let ok ← forIn ifs true fun c r => if r = true then do let ok ← isTrue c env (eval c env); pure (ForInStep.yield ok) else pure (ForInStep.yield r)
        if ok = true then em acc env
        again (.compLoop e 0 (.ref I) (.ref acc) env))
  quiet : ∀ (I acc : Addr) (env : Env), (Code.compLoop e 0 (.ref I) (.ref acc) env).quiet = true
  den : ∀ (I acc : Addr) (env : Env), C.M.den (.compLoop e 0 (.ref I) (.ref acc) env) = (compTurn e 0 (.ref I) (.ref acc) env).onRaise (fun x => do noteFrame x env; theTreesLotGoes x)
  und : ∀ (A : Around) (I acc : Addr) (env : Env), A.under (.compLoop e 0 (.ref I) (.ref acc) env) = A
  start : ∀ (A : Around) (R : Result → Shared → Prop) (s : Shared) (I acc : Addr) (env : Env), codeAny C.M A (.compLoop e 0 (.ref I) (.ref acc) env) R s →
    wpAny C.M A (pyIter (.ref I)) (fun it' s' => codeAny C.M A (.compLoop e 0 it' (.ref acc) env) R s') (notedBy C.M A env fun x s' => R (.error x) s') s → codeAny C.M A (.compStart e 0 (.ref I) (.ref acc) env) R s
  new : ∀ (A : Around) (E : Value → Shared → Prop) (s : Shared) (Q : Value → Shared → Prop), Q (.ref s.heap.objs.size) { s with heap := s.heap.push o0 } → wpAny C.M A newAcc Q E s
  live : o0.isFreed = false
structure CollX (C : Wd) (o0 : Obj) (Acc : Addr → Gh → Heap → List PV → Prop) (mk : List PV → PV) : Prop where
  coll : ∀ a, Coll C a (Acc a)
  zero : ∀ a G h, h.get? a = some o0 → Acc a G h []
  fin : ∀ a G h os, Acc a G h os → ∃ o, h.get? a = some o ∧ isTab o = false ∧ ∀ G', Le G G' → (a == sysModules) = false → G'.h.get? a = some o → C.Rep G' (.ref a) (mk os)
noncomputable def compO (mk : List PV → PV) (k : PV → Sig → Option Sig) (is : List Nat) (t : Sig → Option Bool) (inner : Sig → Option (List PV)) (n : Nat) (fi : Sig → Option (List PV)) : Sig → Option PV :=
  fun σ => (fi σ).bind fun xs => (clF k is t inner (σ.below n) xs).bind fun out => if out.length ≤ 65536 then some (mk out) else none
theorem comp_core {e tgt iter : Expr} {ifs : List Expr} {gs : List Comprehension} {pos : Pos} {em : Addr → Env → Sem Unit} {newAcc : Sem Value} {o0 : Obj} {Acc : Addr → Gh → Heap → List PV → Prop} {mk : List PV → PV} {js is : List Nat}
    {k : PV → Sig → Option Sig} {t : Sig → Option Bool} {inner : Sig → Option (List PV)} {tr : Bool} {fi : Sig → Option (List PV)} {p : PV} {use : Option (Value → Sem Unit)} {Q : Value → Shared → Prop}
    (hcl : clausesOf e = ⟨tgt, iter, ifs, 0⟩ :: gs) (X : Cmp C d e tgt iter ifs em newAcc o0) (Y : CollX C o0 Acc mk) (ok : SubOk D sc) (hI : EI C d D tgt tr iter fi) (hAt : AT C (D.sub sc) tr tgt k)
    (hk : ∀ p σ σ₁, k p σ = some σ₁ → ∀ j, ¬ is.contains j = true → σ₁ j = σ j) (hjs : ∀ j, js.contains j = true → is.contains j = true) (hT : TsOK C d (D.sub sc) ifs t)
    (hE : ∀ (env : Env) (acc : Addr), EmOK C d (D.sub sc) env acc (Acc acc) js (em acc env) inner) (hfold : ∀ env x, foldedSetIterable iter env x = pure x) (hr : Rm d A) (he : EnvOk D env) (hS : St C D G Mu env σ s) (hf : compO mk k is t inner D.next fi σ = some p)
    (hfin : ∀ (acc L : Addr) (s₄ : Shared) (G₅ : Gh), Ext G s G₅ s₄ → C.Rep G₅ (.ref acc) p → s.heap.objs.size ≤ L → L < s₄.heap.objs.size → (∃ m, s₄.heap.Ns L m) → G₅.h.get? L = none → compPost C.M A E use Q (.ref acc) L (.ok .next) s₄) :
    wpAny C.M A (comprehension e sc env pos newAcc false (eval iter env) use) Q E s := by
  unfold compO at hf
  refine k1_2 (bind_some hf) fun xs hxs hf => ?_
  refine k1_2 (bind_some hf) fun out hout hf => ?_
  refine ite_k hf (fun _ hf => ?_) fun _ hf => ?_
  rotate_left; exact nv1 hf
  rename_i hlen
  obtain rfl := sj hf
  have hfr : ∀ e ∈ sc.names, e.2 = .free → ∃ c, env.cells.lookup e.1 = some c := fun e he' hf => by
    refine Or.elim (ok.fr e he' hf) (fun h => ?_) fun h => ?_
    · exact he.cells e.1 h
    · exact he.cellsF e.1 h
  refine k1_3 (closure_ok hfr) fun cl hclos hcl1 hcl2 => ?_
  refine wpAny_comprehension_free (use := use) hcl (hfold env) hclos ok.kind (fun e he' hl => by have := ok.fn e he'; rw [hl] at this; exact this) (hI A E env σ s G Mu xs _ hr he hS hxs fun I s₁ G₁ x₁ hw => ?_)
  refine X.new _ _ _ _ ?_
  have S₁ := hS.ext x₁
  have x₂ : Ext G₁ s₁ G₁ { s₁ with heap := s₁.heap.push o0 } := Ext.push (tk := s₁.toks) S₁.sub (Nat.le_refl _) o0
  have S₂ := S₁.ext x₂
  refine sub_env he S₂ ok hcl1 hcl2 fun cenv env' s₃ henv hloc he' x₃ S₃ hown => ?_
  subst henv
  have x13 := x₂.trans x₃
  obtain ⟨fp, wr, P, Md, Sk, hwr, hfp, hst, htab, hK, hP, hself⟩ := hw
  have hz2 : (s₁.heap.push o0).objs.size = s₁.heap.objs.size + 1 := Heap.size_push ..
  have hz2' : ({ s₁ with heap := s₁.heap.push o0 } : Shared).heap.objs.size = s₁.heap.objs.size + 1 := hz2
  have hst₃ : Sk 0 s₃.heap := by
    refine (hK A hr).frame _ _ _ hst fun b hb o ho => ?_
    rcases hfp b hb with hb | ⟨o', ho'⟩
    · exact x13.keep b o (htab _ _ b o hst hb ho) ho
    · have h1 := S₁.sub.h b o' ho'
      rw [ho] at h1; obtain rfl := sj h1
      exact S₃.sub.h b o ho'
  have hacc3 : s₃.heap.get? s₁.heap.objs.size = some o0 ∨ isTab o0 = true := by
    cases ht : isTab o0 with
    | true => exact .inr rfl
    | false => exact .inl (x₃.keep _ _ ht (Heap.get?_push_size _ X.live))
  have accNotMu : ¬ (Mu s₁.heap.objs.size ∨ (({ s₁ with heap := s₁.heap.push o0 } : Shared).heap.objs.size ≤ s₁.heap.objs.size ∧ s₁.heap.objs.size < s₃.heap.objs.size)) := by
    rintro (h | ⟨h, _⟩)
    · exact absurd (S₁.mu _ h).2 (Nat.lt_irrefl _)
    · rw [hz2'] at h; lia
  have accG : G₁.h.get? s₁.heap.objs.size = none := gNone S₁.sub (Nat.le_refl _)
  have s31 : s₁.heap.objs.size + 1 ≤ s₃.heap.objs.size := by have := x₃.size; rw [hz2'] at this; exact this
  have hOwn' : ∀ a, Own (D.sub sc) { cenv with scope := relabel sc env } a ∨ a = s₁.heap.objs.size → s.heap.objs.size ≤ a := by
    rintro a (h | rfl)
    · exact Nat.le_trans x₁.size (Nat.le_trans (Nat.le_succ _) (by have := hown a h; rw [hz2'] at this; exact this))
    · exact x₁.size
  have hA0 : Acc s₁.heap.objs.size G₁ s₃.heap [] := (Y.coll _).mono _ _ _ _ _ (Le.refl _) (fun o ho ht => x₃.keep _ _ ht ho) (Y.zero _ G₁ _ (Heap.get?_push_size _ X.live))
  have x03 : ExtM (fun a => Own (D.sub sc) { cenv with scope := relabel sc env } a ∨ a = s₁.heap.objs.size) G s (fun a => (Own (D.sub sc) { cenv with scope := relabel sc env } a ∨ a = s₁.heap.objs.size) ∨ s.heap.objs.size ≤ a) G₁ s₃ := by
    have := x₁.trans x13
    refine ⟨this.sub, fun a o h => (this.new a o h).elim .inl fun h => .inr (.inr h), fun a h => h.elim .inl .inr, fun a o ž1 ht h => this.keep a o ht h, this.size, this.os, this.gens, fun h₀ hz ž1 z => this.old h₀ hz z⟩
  have loop : codeAny C.M A (.compLoop e 0 (.ref I) (.ref s₁.heap.objs.size) { cenv with scope := relabel sc env }) (compPost C.M A E use Q (.ref s₁.heap.objs.size) cenv.locals) s₃ := by
    refine cl_loop (Gb := G) (sb := s) (out := out) (os := []) (xs := xs) (σ := σ.below D.next) (X.turn ..) (X.quiet ..) (X.den ..) (X.und ..) (Y.coll _) hAt hk hjs hT (hE _ _) hr he' ok.inj x03 S₃ (fp := fp) (wr := wr) (P := P) (Md := Md) (Sk := Sk) (fun b hb => ⟨(hwr b hb).1, ?_, ?_, (hwr b hb).2.2, ?_⟩) hfp hst₃ htab (hK A hr) hP accNotMu accG (Nat.lt_of_lt_of_le (Nat.lt_succ_self _) s31) hA0 (by simpa using hlen) hout ?_
    · rintro (h | ⟨h, _⟩)
      · exact absurd (hS.mu b h).2 (Nat.not_lt.mpr (hwr b hb).1)
      · rw [hz2'] at h
        exact absurd (hwr b hb).2.1 (Nat.not_lt.mpr (Nat.le_of_succ_le h))
    · exact Nat.ne_of_lt (hwr b hb).2.1
    · exact Nat.lt_of_lt_of_le (hwr b hb).2.1 (Nat.le_of_succ_le s31)
    · intro s₄ G₄ e₄ S₄ hG₄ hA₄
      refine k2_3 S₄.var fun m α hn hv ho => ?_
      refine k1_3 (Y.fin _ _ _ _ hA₄) fun o ho' hot hfin' => ?_
      have hne : cenv.locals ≠ s₁.heap.objs.size := by rw [hloc, hz2']; exact Nat.ne_of_gt (Nat.lt_succ_self _)
      have x04 : Ext G s G₄ s₄ := Ext.ofM e₄ S₄.sub hOwn'
      refine k1_4 (x04.freeze' (a := s₁.heap.objs.size) ho' x₁.size hot) fun G₅ x₅ k₅ g₅ only => ?_
      refine hfin _ _ _ G₅ x₅ (hfin' G₅ k₅ (not_sys hS.base hS.sub x₁.size) g₅) (hOwn' _ (.inl (.inl rfl))) hn.lt ⟨m, hn⟩ ?_
      cases q : G₅.h.get? cenv.locals with
      | none => rfl
      | some ob =>
        refine Or.elim (only _ _ q) (fun h => ?_) fun h => ?_
        · rw [(S₄.mu _ S₄.loc).1] at h; exact nv1 h
        · exact absurd h hne
  exact X.start _ _ _ _ _ _ loop (hself A hr 0 _ _ _ hst₃ loop)
theorem ns_tab (hin : In G s) {L : Addr} (h : ∃ m, s.heap.Ns L m) : ∀ c P, G.cd = some (c, P) → P ≠ L :=
  let ⟨_, _, _, _, h1, h2, _⟩ := h; hin.ne_tab h1 (isTab_dict h2)
theorem ext_done {L : Addr} {h' : Heap} (x : Ext G s G' s') (hL : s.heap.objs.size ≤ L) (hG : G'.h.get? L = none) (hPL : ∀ c P, G'.cd = some (c, P) → P ≠ L) (hs' : Heap.SameBut L s'.heap h') : Ext G s G' { s' with heap := h' } := by
  refine ⟨x.sub, ⟨fun b o e => (hs'.2 b fun q => by rw [q, hG] at e; exact nv1 e).trans (x.inn.h b o e), x.inn.pos, x.inn.T, x.inn.cdW (wr := [L]) (fun b hb => by rw [List.mem_singleton] at hb; exact hb ▸ hG) (fun c P e hm => hPL c P e (List.mem_singleton.mp hm)) fun b o hb e => (hs'.2 b fun q => hb (by simp [q])).trans e⟩, x.new, fun a o ht h => ?_, by show s.heap.objs.size ≤ h'.objs.size; rw [hs'.1]; exact x.size, x.os, x.gens, fun h₀ hz z => ?_⟩
  · exact (hs'.2 a fun q => absurd (Heap.lt_size h) (Nat.not_lt.mpr (q ▸ hL))).trans (x.keep a o ht h)
  · exact (x.old h₀ hz z).step_same (Nat.le_trans hz hL) hs'
noncomputable def EVU (C : Wd) (d : Nat) (D : Fd) (e : Expr) (f : Sig → Option PV) : Prop :=
  ∀ (A : Around) (E : Value → Shared → Prop) (env : Env) (σ : Sig) (s : Shared) (G : Gh) (Mu : Addr → Prop) (p : PV) (u : Value → Sem Unit) (Q : Unit → Shared → Prop), Rm d A → EnvOk D env → St C D G Mu env σ s → f σ = some p →
    (∀ v s₁ G₁, Ext G s G₁ s₁ → C.Rep G₁ v p → St C D G₁ Mu env σ s₁ → wpAny C.M A (u v) (fun ž1 s₂ => ∃ σ₂, ExtM Mu G₁ s₁ Mu G₁ s₂ ∧ St C D G₁ Mu env σ₂ s₂ ∧ ∀ s₃, ExtM Mu G s Mu G₁ s₃ → St C D G₁ Mu env σ₂ s₃ → Q () s₃) E s₁) →
    wpAny C.M A (evalThenUse e env u) Q E s
theorem fin_none {p : PV} : ∀ (acc L : Addr) (s₄ : Shared) (G₅ : Gh), Ext G s G₅ s₄ → C.Rep G₅ (.ref acc) p → s.heap.objs.size ≤ L → L < s₄.heap.objs.size → (∃ m, s₄.heap.Ns L m) → G₅.h.get? L = none → compPost C.M A E none (Done C G s p) (.ref acc) L (.ok .next) s₄ :=
  fun acc L s₄ G₅ x r hL ž1 ⟨m, hn⟩ hG => ⟨m, hn, fun h' hs' => ⟨G₅, ext_done x hL hG (ns_tab x.inn ⟨m, hn⟩) hs', r⟩⟩
theorem fin_use {p : PV} {u : Value → Sem Unit} {Q : Unit → Shared → Prop} (hS : St C D G Mu env σ s) (hu : ∀ v s₁ G₁, Ext G s G₁ s₁ → C.Rep G₁ v p → St C D G₁ Mu env σ s₁ → wpAny C.M A (u v) (fun ž1 s₂ => ∃ σ₂, ExtM Mu G₁ s₁ Mu G₁ s₂ ∧ St C D G₁ Mu env σ₂ s₂ ∧ ∀ s₃, ExtM Mu G s Mu G₁ s₃ → St C D G₁ Mu env σ₂ s₃ → Q () s₃) E s₁) :
    ∀ (acc L : Addr) (s₄ : Shared) (G₅ : Gh), Ext G s G₅ s₄ → C.Rep G₅ (.ref acc) p → s.heap.objs.size ≤ L → L < s₄.heap.objs.size → (∃ m, s₄.heap.Ns L m) → G₅.h.get? L = none → compPost C.M A E (some u) (fun ž1 s' => Q () s') (.ref acc) L (.ok .next) s₄ := by
  rintro acc L s₄ G₅ x r hL hlt ⟨m, hn⟩ hG
  show wpAny C.M A (u (.ref acc)) _ E s₄
  refine wpAny_mono (hu _ s₄ G₅ x r (hS.ext x)) (fun ž1 s₂ h => ?_) fun ž1 ž2 h => h
  refine k1_3 h fun σ₂ e S hq => ?_
  have hM : ¬ Mu L := fun h => absurd (hS.mu L h).2 (Nat.not_lt.mpr hL)
  refine k3_3 hn fun o es ep ho hd r' => ?_
  refine ⟨m, ⟨o, es, ep, e.keep _ o hM (isTab_dict hd) ho, hd, r'⟩, fun h' hs' => ?_⟩
  have x2 : ExtM Mu G s Mu G₅ s₂ := (Ext.toM x).trans e
  refine hq _ ⟨x2.sub, x2.new, x2.mu, fun a o hn ht h => ?_, by show s.heap.objs.size ≤ h'.objs.size; rw [hs'.1]; exact x2.size, x2.os, x2.gens, fun h₀ hz hm z => ?_⟩ ?_
  · exact (hs'.2 a fun q => absurd (Heap.lt_size h) (Nat.not_lt.mpr (q ▸ hL))).trans (x2.keep a o hn ht h)
  · exact (x2.old h₀ hz hm z).step_same (Nat.le_trans hz hL) hs'
  · have gr : Grown s₂ { s₂ with heap := h' } := ⟨Nat.le_refl _, Nat.le_of_eq hs'.1.symm⟩
    exact S.wr (wr := [L]) (tk := s₂.toks) (fun a ha => by rw [List.mem_singleton] at ha; subst ha; exact ⟨hM, hG⟩) (fun c P ec hm => S.sub.ne_tab (e.keep _ o hM (isTab_dict hd) ho) (isTab_dict hd) c P ec (List.mem_singleton.mp hm)) (fun b o hb e => (hs'.2 b fun q => hb (by simp [q])).trans e) gr
theorem comp_ok {e tgt iter : Expr} {ifs : List Expr} {gs : List Comprehension} {pos : Pos} {em : Addr → Env → Sem Unit} {newAcc : Sem Value} {o0 : Obj} {Acc : Addr → Gh → Heap → List PV → Prop} {mk : List PV → PV} {js is : List Nat}
    {k : PV → Sig → Option Sig} {t : Sig → Option Bool} {inner : Sig → Option (List PV)} {tr : Bool} {fi : Sig → Option (List PV)} {p : PV}
    (hcl : clausesOf e = ⟨tgt, iter, ifs, 0⟩ :: gs) (X : Cmp C d e tgt iter ifs em newAcc o0) (Y : CollX C o0 Acc mk) (ok : SubOk D sc) (hI : EI C d D tgt tr iter fi) (hAt : AT C (D.sub sc) tr tgt k)
    (hk : ∀ p σ σ₁, k p σ = some σ₁ → ∀ j, ¬ is.contains j = true → σ₁ j = σ j) (hjs : ∀ j, js.contains j = true → is.contains j = true) (hT : TsOK C d (D.sub sc) ifs t)
    (hE : ∀ (env : Env) (acc : Addr), EmOK C d (D.sub sc) env acc (Acc acc) js (em acc env) inner) (hfold : ∀ env x, foldedSetIterable iter env x = pure x) (hr : Rm d A) (he : EnvOk D env) (hS : St C D G Mu env σ s) (hf : compO mk k is t inner D.next fi σ = some p) :
    wpAny C.M A (comprehension e sc env pos newAcc false (eval iter env)) (Done C G s p) E s :=
  comp_core hcl X Y ok hI hAt hk hjs hT hE hfold hr he hS hf fin_none
noncomputable def lstAcc (C : Wd) (a : Addr) (G : Gh) (h : Heap) (os : List PV) : Prop := ∃ vs, h.PlainList a vs.toArray ∧ C.RepL G vs os
theorem lstColl : CollX C { cls := .type "list", dict := none, data := .seq ([] : List Value).toArray } (lstAcc C) .lst := by
  refine ⟨fun a => ⟨fun G G' h h' os hl hk ⟨vs, ⟨n, hp⟩, hr⟩ => ⟨vs, ⟨n, hk _ hp rfl⟩, RepL.mono hl hr⟩⟩, fun a G h e => ⟨[], ⟨_, e⟩, .nil⟩, fun a G h os ⟨vs, ⟨n, hp⟩, hr⟩ => ⟨_, hp, rfl, fun G' hl ž1 hg => .lst ⟨n, hg⟩ (RepL.mono hl hr)⟩⟩
noncomputable def oneO (f : Sig → Option PV) : Sig → Option (List PV) := fun σ => (f σ).map fun p => [p]
theorem em_list {elt : Expr} {f : Sig → Option PV} (h : EV C d D elt f) (env : Env) (acc : Addr) : EmOK C d D env acc (lstAcc C acc) [] (do let _ ← call (.builtin "list.append") [.ref acc, ← eval elt env]) (oneO f) := by
  intro A E σ s G Mu os o hr he hS hacc hG hlt hA hlen hf
  unfold oneO at hf
  rw [Option.map_eq_some_iff] at hf
  (refine k1_2 hf fun p hp ž3 => ?_; subst ž3)
  refine wpAny_bind (bind2 h hr he hS hp fun v s₁ G₁ x₁ r₁ S₁ => ?_)
  (refine k1_2 hA fun vs ž2 => ?_; obtain ⟨n, hpl⟩ := ž2; intro hrl)
  have hpl₁ : s₁.heap.PlainList acc vs.toArray := ⟨n, x₁.keep _ _ rfl hpl⟩
  have hG₁ : G₁.h.get? acc = none := by
    cases q : G₁.h.get? acc with
    | none => rfl
    | some ob => refine Or.elim (x₁.new acc ob q) (fun h => ?_) fun h => ?_
                 · rw [hG] at h; exact nv1 h
                 · exact absurd hlt (Nat.not_lt.mpr h)
  have hl := hrl.length
  simp only [List.length_singleton] at hlen
  refine wpAny_bind (wpAny_grown (wpAny_list_append_plain hpl₁ (fun h' hp' hs' gr => wpAny_pure ?_) (by rw [sizeLine_eq]; simp; lia)))
  have S₂ : St C D G₁ Mu env σ { s₁ with heap := h' } := S₁.wr (wr := [acc]) (tk := s₁.toks) (fun a ha => by rw [List.mem_singleton] at ha; subst ha; exact ⟨hacc, hG₁⟩) (fun c P ec hm => (let ⟨_, hpa⟩ := hpl₁; S₁.sub.ne_tab hpa rfl c P ec (List.mem_singleton.mp hm))) (fun b o hb e => (hs'.2 b fun q => hb (by simp [q])).trans e) gr
  have e₂ : ExtM (fun a => Own D env a ∨ a = acc) G₁ s₁ (fun a => Own D env a ∨ a = acc) G₁ { s₁ with heap := h', toks := s₁.toks } := ExtM.one (a := acc) (.inr rfl) hs'
  have e := (Ext.toM (Mu := fun a => Own D env a ∨ a = acc) x₁).trans e₂
  refine ⟨G₁, σ, ⟨e.sub, e.new, fun a h => ?_, e.keep, e.size, e.os, e.gens, e.old⟩, S₂, fun ž1 ž2 ž3 h => h, hG₁, ⟨vs ++ [v], ?_, RepL.append (RepL.mono x₁.sub hrl) (.cons r₁ .nil)⟩⟩
  · exact h
  · have : (vs ++ [v]).toArray = vs.toArray.push v := by simp
    rw [this]; exact hp'
theorem cmp_list1 {elt tgt iter : Expr} {ifs : List Expr} {pos : Pos} : Cmp C d (.ListComp elt [⟨tgt, iter, ifs, 0⟩] sc pos) tgt iter ifs (fun acc env => do let _ ← call (.builtin "list.append") [.ref acc, ← eval elt env]) (newList []) { cls := .type "list", dict := none, data := .seq ([] : List Value).toArray } where
  turn := fun I acc env => by rfl
  quiet := fun ž1 ž2 ž3 => rfl
  den := fun ž1 ž2 ž3 => rfl
  und := fun ž1 ž2 ž3 ž4 => rfl
  start := fun A R s I acc env h0 h => codeAny_compStart_list h0 h
  new := fun A E s Q h => wpAny_newObj_type h
  live := rfl
theorem EV.comp {elt tgt iter : Expr} {ifs : List Expr} {pos : Pos} {is : List Nat} {k : PV → Sig → Option Sig} {t : Sig → Option Bool} {f : Sig → Option PV} {tr : Bool} {fi : Sig → Option (List PV)} (ok : D.subOk sc = true) (hI : EI C d D tgt tr iter fi)
    (hAt : AT C (D.sub sc) tr tgt k) (hk : ∀ p σ σ₁, k p σ = some σ₁ → ∀ j, ¬ is.contains j = true → σ₁ j = σ j) (hT : TsOK C d (D.sub sc) ifs t) (hE : EV C d (D.sub sc) elt f) (hfold : ∀ env x, foldedSetIterable iter env x = pure x := by intros; rfl) :
    EV C d D (.ListComp elt [⟨tgt, iter, ifs, 0⟩] sc pos) (compO .lst k is t (oneO f) D.next fi) := by
  intro A E env σ s G Mu p hr he hS hf
  rw [eval_ListComp]
  exact comp_ok (e := .ListComp elt [⟨tgt, iter, ifs, 0⟩] sc pos) rfl cmp_list1 lstColl (SubOk.of ok) hI hAt hk (fun j h => by simp at h) hT (em_list hE) hfold hr he hS hf
theorem EVU.comp {elt tgt iter : Expr} {ifs : List Expr} {pos : Pos} {is : List Nat} {k : PV → Sig → Option Sig} {t : Sig → Option Bool} {f : Sig → Option PV} {tr : Bool} {fi : Sig → Option (List PV)} (ok : D.subOk sc = true) (hI : EI C d D tgt tr iter fi)
    (hAt : AT C (D.sub sc) tr tgt k) (hk : ∀ p σ σ₁, k p σ = some σ₁ → ∀ j, ¬ is.contains j = true → σ₁ j = σ j) (hT : TsOK C d (D.sub sc) ifs t) (hE : EV C d (D.sub sc) elt f) (hfold : ∀ env x, foldedSetIterable iter env x = pure x := by intros; rfl) :
    EVU C d D (.ListComp elt [⟨tgt, iter, ifs, 0⟩] sc pos) (compO .lst k is t (oneO f) D.next fi) := by
  intro A E env σ s G Mu p u Q hr he hS hf hu
  show wpAny C.M A (do let _ ← comprehension (.ListComp elt [⟨tgt, iter, ifs, 0⟩] sc pos) sc env _ (newList []) false (eval iter env) (some u)) Q E s
  exact wpAny_bind (wpAny_mono (comp_core (e := .ListComp elt [⟨tgt, iter, ifs, 0⟩] sc pos) (use := some u) (Q := fun ž1 s' => Q () s') rfl cmp_list1 lstColl (SubOk.of ok) hI hAt hk (fun j h => by simp at h) hT (em_list hE) hfold hr he hS hf (fin_use hS hu)) (fun ž1 ž2 h => wpAny_pure h) fun ž1 ž2 h => h)
noncomputable def dctOf (os : List PV) : List (DK × PV) := os.foldl (fun acc p => match p with
  | .tup [k, v] => match DKof k with
    | some q => insD acc q v
    | none => acc
  | _ => acc) []
noncomputable def dctAcc (C : Wd) (a : Addr) (G : Gh) (h : Heap) (os : List PV) : Prop := ∃ kvs, h.DictOf C.dk a kvs ∧ C.RepD G kvs (dctOf os) ∧ (dctOf os).length ≤ os.length
theorem dictOf_new {h : Heap} {a : Addr} (e : h.get? a = some { cls := .type "dict", dict := none, data := .dict #[] }) : h.DictOf C.dk a [] := by
  refine k3_6 (Heap.DictOf.new (knd := C.dk) (⟨#[], h.life⟩ : Heap)) fun o es ep ho hc hd hk hp hn => ?_
  have hz : (⟨#[], h.life⟩ : Heap).objs.size = 0 := rfl
  rw [hz] at ho
  have h0 : o = { cls := .type "dict", dict := none, data := .dict #[] } := by
    have : ((⟨#[], h.life⟩ : Heap).push { cls := .type "dict", dict := none, data := .dict #[] }).get? 0 = some { cls := .type "dict", dict := none, data := .dict #[] } := Heap.get?_push_size (⟨#[], h.life⟩ : Heap) rfl
    rw [this] at ho
    exact (Option.some.inj ho).symm
  subst h0
  exact ⟨_, es, ep, e, hc, hd, hk, hp, hn⟩
theorem dctColl : CollX C { cls := .type "dict", dict := none, data := .dict #[] } (dctAcc C) (fun os => .dct (dctOf os)) := by
  refine ⟨fun a => ⟨fun G G' h h' os hl hk ⟨kvs, ⟨o, es, ep, ho, hc, hd, r⟩, hr, hz⟩ => ⟨kvs, ⟨o, es, ep, hk _ ho (isTab_dict hd), hc, hd, r⟩, RepD.mono hl hr, hz⟩⟩, fun a G h e => ⟨[], dictOf_new e, .nil, Nat.le_refl _⟩, fun a G h os ⟨kvs, ⟨o, es, ep, ho, hc, hd, r⟩, hr, ž1⟩ => ⟨o, ho, isTab_dict hd, fun G' hl hsy hg => .dct ⟨o, es, ep, hg, hc, hd, r⟩ hsy (RepD.mono hl hr)⟩⟩
noncomputable def kvO (fk fv : Sig → Option PV) : Sig → Option (List PV) := fun σ => (fk σ).bind fun a => (fv σ).bind fun b => if (DKof a).isSome then some [.tup [a, b]] else none
theorem em_dict {kx vx : Expr} {fk fv : Sig → Option PV} (h1 : EV C d D kx fk) (h2 : EV C d D vx fv) (env : Env) (acc : Addr) : EmOK C d D env acc (dctAcc C acc) [] (do
        let kv ← eval kx env
        let vv ← holding [kv] (eval vx env)
        standAt { kx.pos with endLine := vx.pos.endLine, endCol := vx.pos.endCol }
        holding [kv, vv] (dictSet acc kv vv)) (kvO fk fv) := by
  intro A E σ s G Mu os o hr he hS hacc hG hlt hA hlen hf
  unfold kvO at hf
  refine k1_2 (bind_some hf) fun a ha hf => ?_
  refine k1_2 (bind_some hf) fun b hb hf => ?_
  refine ite_k hf (fun _ hf => ?_) fun _ hf => ?_
  rotate_left; exact nv1 hf
  rename_i hk
  obtain rfl := sj hf
  refine k1_1 (Option.isSome_iff_exists.mp hk) fun kk hkk => ?_
  refine wpAny_bind (bind2 h1 hr he hS ha fun kv s₁ G₁ x₁ r₁ S₁ => wpAny_bind (wpAny_holding (bind2 h2 hr he S₁ hb fun vv s₂ G₂ x₂ r₂ S₂ => wpAny_bind (wpAny_standAt (wpAny_holding ?_)))))
  have x := x₁.trans x₂
  refine k1_3 hA fun kvs hd hrd hz => ?_
  have hd₂ := Ext.dictOf (C := C) x hd
  have hG₂ : G₂.h.get? acc = none := by
    cases q : G₂.h.get? acc with
    | none => rfl
    | some ob => refine Or.elim (x.new acc ob q) (fun h => ?_) fun h => ?_
                 · rw [hG] at h; exact nv1 h
                 · exact absurd hlt (Nat.not_lt.mpr h)
  have hl := hrd.length
  simp only [List.length_singleton] at hlen
  have hkey := DKof_is (Rep.mono x₂.sub r₁) hkk
  refine wpAny_grown (wpAny_dictSet_pairs (knd := C.dk) hkey hd₂ (fun h' hd' hs' gr => ?_) (by rw [sizeLine_eq]; lia))
  have S₃ : St C D G₂ Mu env σ { s₂ with heap := h', toks := s₂.toks + 1 } := S₂.wr (wr := [acc]) (fun a ha => by rw [List.mem_singleton] at ha; subst ha; exact ⟨hacc, hG₂⟩) (fun c P ec hm => (let ⟨_, _, _, hda, _, hdb, _⟩ := hd₂; S₂.sub.ne_tab hda (isTab_dict hdb) c P ec (List.mem_singleton.mp hm))) (fun b o hb e => (hs'.2 b fun q => hb (by simp [q])).trans e) gr
  have e₂ : ExtM (fun a => Own D env a ∨ a = acc) G₂ s₂ (fun a => Own D env a ∨ a = acc) G₂ { s₂ with heap := h', toks := s₂.toks + 1 } := ExtM.one (a := acc) (.inr rfl) hs'
  have e := (Ext.toM (Mu := fun a => Own D env a ∨ a = acc) x).trans e₂
  have hdc : dctOf (os ++ [.tup [a, b]]) = insD (dctOf os) kk b := by
    unfold dctOf
    rw [List.foldl_append]
    show (match DKof a with | some q => insD _ q b | none => _) = _
    rw [hkk]
  refine ⟨G₂, σ, ⟨e.sub, e.new, fun a h => h, e.keep, e.size, e.os, e.gens, e.old⟩, S₃, fun ž1 ž2 ž3 h => h, hG₂, ⟨stored kvs kk vv, hd', ?_, ?_⟩⟩
  · rw [hdc]; exact RepD.ins (RepD.mono x.sub hrd) r₂
  · rw [hdc, List.length_append, List.length_singleton]
    exact Nat.le_trans (insD_length ..) (Nat.succ_le_succ hz)
theorem cmp_dict1 {kx vx tgt iter : Expr} {ifs : List Expr} {pos : Pos} : Cmp C d (.DictComp kx vx [⟨tgt, iter, ifs, 0⟩] sc pos) tgt iter ifs (fun acc env => do
        let kv ← eval kx env
        let vv ← holding [kv] (eval vx env)
        standAt { kx.pos with endLine := vx.pos.endLine, endCol := vx.pos.endCol }
        holding [kv, vv] (dictSet acc kv vv)) newDict { cls := .type "dict", dict := none, data := .dict #[] } where
  turn := fun I acc env => by rfl
  quiet := fun ž1 ž2 ž3 => rfl
  den := fun ž1 ž2 ž3 => rfl
  und := fun ž1 ž2 ž3 ž4 => rfl
  start := fun A R s I acc env h0 h => codeAny_compStart_dict h0 h
  new := fun A E s Q h => wpAny_newObj_type h
  live := rfl
theorem EV.dcomp {kx vx tgt iter : Expr} {ifs : List Expr} {pos : Pos} {is : List Nat} {k : PV → Sig → Option Sig} {t : Sig → Option Bool} {fk fv : Sig → Option PV} {tr : Bool} {fi : Sig → Option (List PV)} (ok : D.subOk sc = true) (hI : EI C d D tgt tr iter fi)
    (hAt : AT C (D.sub sc) tr tgt k) (hk : ∀ p σ σ₁, k p σ = some σ₁ → ∀ j, ¬ is.contains j = true → σ₁ j = σ j) (hT : TsOK C d (D.sub sc) ifs t) (h1 : EV C d (D.sub sc) kx fk) (h2 : EV C d (D.sub sc) vx fv) (hfold : ∀ env x, foldedSetIterable iter env x = pure x := by intros; rfl) :
    EV C d D (.DictComp kx vx [⟨tgt, iter, ifs, 0⟩] sc pos) (compO (fun os => .dct (dctOf os)) k is t (kvO fk fv) D.next fi) := by
  intro A E env σ s G Mu p hr he hS hf
  rw [arm_eval_DictComp]
  exact comp_ok (e := .DictComp kx vx [⟨tgt, iter, ifs, 0⟩] sc pos) rfl cmp_dict1 dctColl (SubOk.of ok) hI hAt hk (fun j h => by simp at h) hT (em_dict h1 h2) hfold hr he hS hf
end
end
section
section
variable {C : Wd} {d : Nat} {D : Fd} {A : Around} {E : Value → Shared → Prop} {env : Env} {σ σ' : Sig} {s s' : Shared} {G G' : Gh} {Mu : Addr → Prop} {sc : Scope}
theorem setK_out (i : Nat) : ∀ p σ σ₁, setK i p σ = some σ₁ → ∀ j, ¬ [i].contains j = true → σ₁ j = σ j := by
  intro p σ σ₁ h j hj
  obtain rfl := sj h
  exact Sig.set_ne _ _ fun e => hj (by simp [e])
theorem setsK_out : ∀ (is : List Nat) (ps : List PV) (σ σ₁ : Sig), setsK is ps σ = some σ₁ → ∀ j, ¬ is.contains j = true → σ₁ j = σ j
  | [], [], σ, σ₁, h, j, _ => by obtain rfl := sj h; rfl
  | i :: is, p :: ps, σ, σ₁, h, j, hj => by
    rw [setsK_out is ps _ σ₁ h j (fun q => hj (by simp at q ⊢; exact .inr q))]
    exact Sig.set_ne _ _ fun e => hj (by simp [e])
  | [], _ :: _, _, _, h, _, _ => by exact nv1 h
  | _ :: _, [], _, _, h, _, _ => by exact nv1 h
theorem tupK_out (is : List Nat) : ∀ p σ σ₁, tupK is p σ = some σ₁ → ∀ j, ¬ is.contains j = true → σ₁ j = σ j := by
  intro p σ σ₁ h
  cases p <;> first | (exact nv1 h; done) | exact setsK_out is _ σ σ₁ h
end
end
section
section
variable {C : Wd} {d : Nat} {D : Fd} {A : Around} {E : Value → Shared → Prop} {env : Env} {σ σ' : Sig} {s s' : Shared} {G G' : Gh} {Mu : Addr → Prop}
theorem ES.assignU {x : Str} {pos pos' : Pos} {value : Expr} {f : Sig → Option PV} (i : Nat) (hx : D.nm.lookup x = some i) (hk : D.wr x = true) (hf : EVU C d D value f)
    (hs : ∀ env, EnvOk D env → swapsWith value (some (.Name x pos')) pos.line env = pure true) : ES C d D (.Assign [.Name x pos'] value pos) (setF i f) := by
  intro A E env σ s G Mu r σ' hr he hi hS hF
  refine k1_2 (bind_some hF) fun p hp hF => ?_
  cases hF
  rw [exec_Assign_Name_used _ _ _ _ (hs env he)]
  refine wpAny_bind (wpAny_standAt (wpAny_bind (hf A E env σ s G Mu p _ _ hr he hS hp fun v s₁ G₁ x₁ r₁ S₁ => ?_)))
  rw [arm_assign_Name]
  refine wpAny_bind (wpAny_standAt (wpAny_bindName (store_pv he hi hx hk S₁ r₁ fun s₂ e₂ S₂ => ⟨_, e₂.up S₁.own, S₂, fun s₃ e₃ S₃ => wpAny_pure ⟨G₁, Mu, e₃, S₃, trivial⟩⟩)))
noncomputable def unF (is : List Nat) (f : Sig → Option PV) : Sig → Option (Fl × Sig) := fun σ => (f σ).bind fun p => (tupK is p σ).bind fun σ₁ => some (.next, σ₁)
theorem ES.unpack {es : List Expr} {k : Nat} {tpos pos : Pos} {value : Expr} {is : List Nat} {f : Sig → Option PV} (h : Names D es is) (hf : EV C d D value f)
    (hs : ∀ env, EnvOk D env → swapsWithSole [.Tuple es k tpos] value pos.line env = pure false) (hw : ∀ env, EnvOk D env → swappedStores [.Tuple es k tpos] value env = pure none) :
    ES C d D (.Assign [.Tuple es k tpos] value pos) (unF is f) := by
  intro A E env σ s G Mu r σ' hr he hi hS hF
  refine k1_2 (bind_some hF) fun p hp hF => ?_
  refine k1_2 (bind_some hF) fun σ₁ hσ₁ hF => ?_
  cases hF
  refine Assign_Tuple (bind2 hf hr he hS hp fun v s₁ G₁ x₁ r₁ S₁ => ?_) (hs env he) (hw env he)
  refine wpAny_mono ((AT.tuple h false) A E env σ s₁ G₁ Mu v p _ hr.handled he hi S₁ (.inl r₁) hσ₁) (fun ž1 s₂ h => ?_) fun ž1 ž2 h => h
  exact ⟨G₁, Mu, (Ext.toM x₁).trans (h.1.up S₁.own), h.2, trivial⟩
noncomputable def LNew (C : Wd) (G : Gh) (lo : Nat) (Mu : Addr → Prop) (s : Shared) (v : Value) : LV → Prop
  | .pv p => C.Rep G v p
  | .ol xs => ∃ a vs, v = .ref a ∧ ¬ Mu a ∧ G.h.get? a = none ∧ lo ≤ a ∧ a < s.heap.objs.size ∧ s.heap.PlainList a vs.toArray ∧ C.RepL G vs xs
  | .od es => ∃ a kvs, v = .ref a ∧ ¬ Mu a ∧ G.h.get? a = none ∧ lo ≤ a ∧ a < s.heap.objs.size ∧ (a == sysModules) = false ∧ s.heap.DictOf C.dk a kvs ∧ C.RepD G kvs es
theorem gKeep (x : Ext G s G' s') {a : Addr} (h : G.h.get? a = none) (hlt : a < s.heap.objs.size) : G'.h.get? a = none := by
  cases q : G'.h.get? a with
  | none => rfl
  | some o =>
    refine Or.elim (x.new a o q) (fun h' => ?_) fun h' => ?_
    · rw [h] at h'; exact nv1 h'
    · exact absurd hlt (Nat.not_lt.mpr h')
theorem LNew.ext {lo : Nat} {v : Value} {lv : LV} (x : Ext G s G' s') (h : LNew C G lo Mu s v lv) : LNew C G' lo Mu s' v lv := by
  cases lv with
  | pv p => exact Rep.mono x.sub h
  | ol xs => refine k2_7 h fun a vs h1 h2 h3 h4 h5 h6 h7 => ?_; exact ⟨a, vs, h1, h2, gKeep x h3 h5, h4, Nat.lt_of_lt_of_le h5 x.size, x.plainList h6, RepL.mono x.sub h7⟩
  | od es => refine k2_8 h fun a kvs h1 h2 h3 h4 h5 h6 h7 h8 => ?_; exact ⟨a, kvs, h1, h2, gKeep x h3 h5, h4, Nat.lt_of_lt_of_le h5 x.size, h6, x.dictOf h7, RepD.mono x.sub h8⟩
inductive DoneL (C : Wd) (G : Gh) (Mu : Addr → Prop) (s : Shared) (lv : LV) (v : Value) (s' : Shared) : Prop
  | intro (G' : Gh) (e : Ext G s G' s') (h : LNew C G' s.heap.objs.size Mu s' v lv)
noncomputable def EL (C : Wd) (d : Nat) (D : Fd) (e : Expr) (g : Sig → Option LV) : Prop :=
  ∀ (A : Around) (E : Value → Shared → Prop) (env : Env) (σ : Sig) (s : Shared) (G : Gh) (Mu : Addr → Prop) (lv : LV), Rm d A → EnvOk D env → St C D G Mu env σ s → g σ = some lv →
    wpAny C.M A (eval e env) (DoneL C G Mu s lv) E s
noncomputable def pvL (f : Sig → Option PV) : Sig → Option LV := fun σ => (f σ).map LV.pv
noncomputable def olL (fs : List (Sig → Option PV)) : Sig → Option LV := fun σ => (seqO fs σ).bind fun ps => if ps.length ≤ 65536 then some (.ol ps) else none
noncomputable def odL : Sig → Option LV := fun ž1 => some (.od [])
theorem EL.pure {e : Expr} {f : Sig → Option PV} (h : EV C d D e f) : EL C d D e (pvL f) := by
  intro A E env σ s G Mu lv hr he hS hf
  unfold pvL at hf
  rw [Option.map_eq_some_iff] at hf
  (refine k1_2 hf fun p hp ž3 => ?_; subst ž3)
  exact wpAny_mono (h A E env σ s G Mu p hr he hS hp) (fun ž1 ž2 ⟨G', e, r⟩ => ⟨G', e, r⟩) fun ž1 ž2 h => h
theorem EL.list {es : List Expr} {pos : Pos} {fs : List (Sig → Option PV)} (h : EVs C d D es fs) : EL C d D (.List es pos) (olL fs) := by
  intro A E env σ s G Mu lv hr he hS hf
  refine k1_2 (bind_some hf) fun ps hps hf => ?_
  refine ite_k hf (fun _ hf => ?_) fun _ hf => ?_
  · obtain rfl := sj hf
    refine wpAny_List (wpAny_mono (spliced_ok h hr he hS hps) (fun vs s₁ ⟨G₁, x₁, r₁⟩ => ?_) fun ž1 ž2 h => h)
    have l := RepL.length r₁
    refine ⟨by rw [sizeLine_eq]; lia, G₁, x₁.trans (Ext.push (tk := s₁.toks) x₁.inn (Nat.le_refl _) _), s₁.heap.objs.size, vs, rfl, fun h => absurd (hS.mu _ h).2 (Nat.not_lt.mpr x₁.size), gNone x₁.inn (Nat.le_refl _), x₁.size, ?_, ⟨_, Heap.get?_push_size _ rfl⟩, r₁⟩
    show _ < Array.size _
    rw [Heap.size_push]; exact Nat.lt_succ_self _
  · exact nv1 hf
theorem EL.dict0 {pos : Pos} : EL C d D (.Dict [] [] pos) odL := by
  intro A E env σ s G Mu lv hr he hS hf
  obtain rfl := sj hf
  rw [eval_Dict_empty]; simp only [newDict, newObj]
  refine wpAny_bind (wpAny_standAt (wpAny_bind (wpAny_alloc (wpAny_pure ⟨G, Ext.push (tk := s.toks) hS.sub (Nat.le_refl _) _, s.heap.objs.size, [], rfl, fun h => absurd (hS.mu _ h).2 (Nat.lt_irrefl _), gNone hS.sub (Nat.le_refl _), Nat.le_refl _, ?_, not_sys hS.base hS.sub (Nat.le_refl _), dictOf_new (Heap.get?_push_size _ rfl), .nil⟩))))
  show _ < Array.size _
  rw [Heap.size_push]; exact Nat.lt_succ_self _
theorem EV.dict0 {pos : Pos} : EV C d D (.Dict [] [] pos) (cc (.dct [])) := by
  intro A E env σ s G Mu p hr he hS hf
  obtain rfl := sj hf
  rw [eval_Dict_empty]; simp only [newDict, newObj]
  refine wpAny_bind (wpAny_standAt (wpAny_bind (wpAny_alloc (wpAny_pure ?_))))
  refine k1_3 ((Ext.push (tk := s.toks) hS.sub (Nat.le_refl _) { cls := .type "dict", data := .dict #[] }).freeze (a := s.heap.objs.size) (Heap.get?_push_size _ rfl) (Nat.le_refl _)) fun G₂ x k g => ?_
  exact ⟨G₂, x, .dct (dictOf_new g) (not_sys hS.base hS.sub (Nat.le_refl _)) .nil⟩
theorem LNew.lrep {lo : Nat} {v : Value} {lv : LV} (h : LNew C G lo Mu s v lv) : ∃ a : Addr, LRep C G s.heap (fun b => Mu b ∨ (lv.own = true ∧ b = a)) a v lv ∧ (lv.own = true → v = .ref a ∧ ¬ Mu a ∧ G.h.get? a = none ∧ lo ≤ a ∧ a < s.heap.objs.size) := by
  cases lv with
  | pv p => exact ⟨0, h, fun h => nomatch h⟩
  | ol xs => refine k2_7 h fun a vs h1 h2 h3 h4 h5 h6 h7 => ?_; exact ⟨a, ⟨h1, .inr ⟨rfl, rfl⟩, vs, h6, h7⟩, fun ž1 => ⟨h1, h2, h3, h4, h5⟩⟩
  | od es => refine k2_8 h fun a kvs h1 h2 h3 h4 h5 h6 h7 h8 => ?_; exact ⟨a, ⟨h1, .inr ⟨rfl, rfl⟩, h6, kvs, h7, h8⟩, fun ž1 => ⟨h1, h2, h3, h4, h5⟩⟩
theorem store_new {x : Str} {i : Nat} {v : Value} {lv : LV} {lo : Nat} {Q : Unit → Shared → Prop} (he : EnvOk D env) (hi : D.Inj) (hx : D.nm.lookup x = some i) (hk : D.wr x = true) (hS : St C D G Mu env σ s) (hl : LNew C G lo Mu s v lv)
    (k : ∀ (Mu' : Addr → Prop) s', ExtM (Own D env) G s (Own D env) G s' → (∀ b, Mu b → Mu' b) → (∀ b, Mu' b → Mu b ∨ (lv.own = true ∧ lo ≤ b ∧ v = .ref b)) → St C D G Mu' env (σ.set i lv) s' → Q () s') : wpAny C.M A (storeName env x v) Q E s := by
  refine k1_2 hl.lrep fun a h1 h2 => ?_
  refine store_ok (fun b => Mu b ∨ (lv.own = true ∧ b = a)) (fun b h => .inl h) (fun b h => ?_) he ⟨hx, hk, hi⟩ hS h1 (fun h => (h2 h).2.1) fun s' e S => k _ s' e (fun b h => .inl h) (fun b h => ?_) S
  · rcases h with h | ⟨ho, rfl⟩
    · exact hS.mu b h
    · exact ⟨(h2 ho).2.2.1, (h2 ho).2.2.2.2⟩
  · rcases h with h | ⟨ho, rfl⟩
    · exact .inl h
    · exact .inr ⟨ho, (h2 ho).2.2.2.1, (h2 ho).1⟩
noncomputable def setL (i : Nat) (g : Sig → Option LV) : Sig → Option (Fl × Sig) := fun σ => (g σ).bind fun lv => some (.next, σ.set i lv)
theorem ES.assignL {x : Str} {pos pos' : Pos} {value : Expr} {g : Sig → Option LV} (i : Nat) (hx : D.nm.lookup x = some i) (hk : D.wr x = true) (hf : EL C d D value g)
    (hs : ∀ env, EnvOk D env → swapsWith value (some (.Name x pos')) pos.line env = pure false) : ES C d D (.Assign [.Name x pos'] value pos) (setL i g) := by
  intro A E env σ s G Mu r σ' hr he hi hS hF
  refine k1_2 (bind_some hF) fun lv hlv hF => ?_
  cases hF
  refine wpAny_Assign_Name (wpAny_mono (hf A E env σ s G Mu lv hr he hS hlv) (fun v s₁ h => ?_) fun ž1 ž2 h => h) (hs env he)
  obtain ⟨G₁, x₁, hl⟩ := h
  have S₁ := hS.ext x₁
  refine store_new he hi hx hk S₁ hl fun Mu' s₂ e₂ hM hM' S₂ => ⟨G₁, Mu', ?_, S₂, trivial⟩
  have e := (Ext.toM (Mu := Mu) x₁).trans (e₂.up S₁.own)
  exact ⟨e.sub, e.new, fun b h => (hM' b h).imp id fun h => h.2.1, e.keep, e.size, e.os, e.gens, e.old⟩
inductive ELs (C : Wd) (d : Nat) (D : Fd) : List Expr → List (Sig → Option LV) → Prop
  | nil : ELs C d D [] []
  | cons {e : Expr} {es : List Expr} {g : Sig → Option LV} {gs : List (Sig → Option LV)} : EL C d D e g → (∀ env rest, starEach (e :: rest) env = (false, eval e env) :: starEach rest env) → ELs C d D es gs → ELs C d D (e :: es) (g :: gs)
noncomputable def seqL : List (Sig → Option LV) → Sig → Option (List LV)
  | [], _ => some []
  | g :: gs, σ => (g σ).bind fun a => (seqL gs σ).bind fun r => some (a :: r)
inductive LNews (C : Wd) (G : Gh) (lo : Nat) (Mu : Addr → Prop) (s : Shared) : List (Value × LV) → Prop
  | nil : LNews C G lo Mu s []
  | cons {v : Value} {lv : LV} {r : List (Value × LV)} : LNew C G lo Mu s v lv → (∀ e ∈ r, e.2.own = true → lv.own = true → e.1 ≠ v) → LNews C G lo Mu s r → LNews C G lo Mu s ((v, lv) :: r)
theorem LNews.ext {lo : Nat} {r : List (Value × LV)} (x : Ext G s G' s') (h : LNews C G lo Mu s r) : LNews C G' lo Mu s' r := by
  induction h with
  | nil => exact .nil
  | cons h1 h2 _ ih => exact .cons (h1.ext x) h2 ih
theorem LNew.lower {lo lo' : Nat} {v : Value} {lv : LV} (hlo : lo' ≤ lo) (h : LNew C G lo Mu s v lv) : LNew C G lo' Mu s v lv := by
  cases lv with
  | pv p => exact h
  | ol xs => refine k2_5 h fun a vs h1 h2 h3 h4 h => ?_; exact ⟨a, vs, h1, h2, h3, Nat.le_trans hlo h4, h⟩
  | od es => refine k2_5 h fun a kvs h1 h2 h3 h4 h => ?_; exact ⟨a, kvs, h1, h2, h3, Nat.le_trans hlo h4, h⟩
theorem LNews.lower {lo lo' : Nat} {r : List (Value × LV)} (hlo : lo' ≤ lo) (h : LNews C G lo Mu s r) : LNews C G lo' Mu s r := by
  induction h with
  | nil => exact .nil
  | cons q1 q2 _ ih' => exact .cons (q1.lower hlo) q2 ih'
theorem LNew.refOf {lo : Nat} {v : Value} {lv : LV} (ho : lv.own = true) (h : LNew C G lo Mu s v lv) : ∃ a, v = .ref a ∧ lo ≤ a ∧ a < s.heap.objs.size := by
  refine k1_2 h.lrep fun a _ h2 => ?_
  refine k0_5 (h2 ho) fun q1 _ _ q4 q5 => ?_
  exact ⟨a, q1, q4, q5⟩
theorem splicedL_ok {es : List Expr} {gs : List (Sig → Option LV)} (h : ELs C d D es gs) : ∀ {A : Around} {E : Value → Shared → Prop} {env : Env} {σ : Sig} {s : Shared} {G : Gh} {Mu : Addr → Prop} {pos : Pos} {ls : List LV}, Rm d A → EnvOk D env → St C D G Mu env σ s → seqL gs σ = some ls →
    wpAny C.M A (spliced (backTo pos (starEach es env))) (fun vs s' => ∃ G', Ext G s G' s' ∧ vs.length = ls.length ∧ LNews C G' s.heap.objs.size Mu s' (vs.zip ls)) E s := by
  induction h with
  | nil =>
    intro A E env σ s G Mu pos ls hr he hs hf
    obtain rfl := sj hf
    exact spliced_none ⟨G, Ext.refl hs.sub, rfl, .nil⟩
  | cons h1 hst _ ih =>
    intro A E env σ s G Mu pos ls hr he hs hf
    refine k1_2 (bind_some hf) fun a ha hf => ?_
    refine k1_2 (bind_some hf) fun r hr' hf => ?_
    obtain rfl := sj hf
    refine spliced_more (wpAny_mono (h1 _ _ _ _ _ _ _ _ hr he hs ha) (fun v s₁ ⟨G₁, x₁, hl⟩ => ?_) fun ž1 ž2 h => h) (hst _ _)
    have S₁ := hs.ext x₁
    refine wpAny_mono (ih hr he S₁ hr') (fun vs s₂ ⟨G₂, x₂, hn, r₂⟩ => ⟨G₂, x₁.trans x₂, by simp [hn], ?_⟩) fun ž1 ž2 h => h
    rw [List.zip_cons_cons]
    have mem : ∀ (l : List (Value × LV)) (lo : Nat), LNews C G₂ lo Mu s₂ l → ∀ e ∈ l, LNew C G₂ lo Mu s₂ e.1 e.2 := by
      intro l lo h
      induction h with
      | nil => intro e he; cases he
      | cons q1 _ _ ih => intro e he; rcases List.mem_cons.mp he with rfl | he; exact q1; exact ih e he
    refine .cons (hl.ext x₂) (fun e he' ho ho' heq => ?_) ?_
    · refine k1_3 ((mem _ _ r₂ e he').refOf ho) fun b hb hb1 _ => ?_
      refine k1_3 (hl.refOf ho') fun c hc _ hc2 => ?_
      rw [hb, hc] at heq
      cases heq
      exact absurd hc2 (Nat.not_lt.mpr hb1)
    · exact r₂.lower x₁.size
theorem LNew.step {lo : Nat} {v : Value} {lv : LV} {Mu' : Addr → Prop} {V : Addr → Prop} {G₀ : Gh} {s₀ s₁ : Shared} (hMu : ∀ b, V b → Mu b) (e : ExtM V G₀ s₀ V G₀ s₁) (hM' : lv.own = true → ∀ b, v = .ref b → Mu' b → Mu b) (h : LNew C G₀ lo Mu s₀ v lv) : LNew C G₀ lo Mu' s₁ v lv := by
  cases lv with
  | pv p => exact h
  | ol xs => (refine k2_7 h fun a vs h1 h2 h3 h4 h5 ž8 => ?_; obtain ⟨n, h6⟩ := ž8; intro h7); exact ⟨a, vs, h1, fun q => h2 (hM' rfl a h1 q), h3, h4, Nat.lt_of_lt_of_le h5 e.size, ⟨n, e.keep a _ (fun q => h2 (hMu a q)) rfl h6⟩, h7⟩
  | od es => (refine k2_8 h fun a kvs h1 h2 h3 h4 h5 h6 ž9 => ?_; obtain ⟨o, es', ep, ho, hc, hd, r⟩ := ž9; intro h8); exact ⟨a, kvs, h1, fun q => h2 (hM' rfl a h1 q), h3, h4, Nat.lt_of_lt_of_le h5 e.size, h6, ⟨o, es', ep, e.keep a _ (fun q => h2 (hMu a q)) (isTab_dict hd) ho, hc, hd, r⟩, h8⟩
noncomputable def setsL : List (Nat × LV) → Sig → Sig
  | [], σ => σ
  | (i, lv) :: r, σ => setsL r (σ.set i lv)
theorem storesL_ok {lo : Nat} : ∀ (ts : List (Str × Nat × Value × LV)) (acts : List (Value → Sem Unit)) {Mu : Addr → Prop} {σ : Sig} {s : Shared}, EnvOk D env → D.Inj → (∀ t ∈ ts, D.nm.lookup t.1 = some t.2.1 ∧ D.wr t.1 = true) → St C D G Mu env σ s →
    LNews C G lo Mu s (ts.map fun t => t.2.2) → acts.length = ts.length → (∀ (j : Nat) (t : Str × Nat × Value × LV) (act : Value → Sem Unit), ts[j]? = some t → acts[j]? = some act → ∀ (Q : Unit → Shared → Prop) (E : Value → Shared → Prop) (s : Shared), wpAny C.M A (storeName env t.1 t.2.2.1) Q E s → wpAny C.M A (act t.2.2.1) Q E s) →
    wpAny C.M A (assignInOrder acts (ts.map fun t => t.2.2.1)) (fun ž1 s' => ∃ Mu', ExtM (Own D env) G s (Own D env) G s' ∧ (∀ b, Mu b → Mu' b) ∧ (∀ b, Mu' b → Mu b ∨ lo ≤ b) ∧ St C D G Mu' env (setsL (ts.map fun t => (t.2.1, t.2.2.2)) σ) s') E s
  | [], acts, Mu, σ, s, he, hi, _, hS, _, hl, _ => by
    cases acts with
    | nil => exact wpAny_pure ⟨Mu, ExtM.refl .., fun ž1 h => h, fun ž1 h => .inl h, hS⟩
    | cons _ _ => cases hl
  | t :: ts, acts, Mu, σ, s, he, hi, hx, hS, hn, hl, ha => by
    cases acts with
    | nil => cases hl
    | cons act acts =>
      obtain ⟨x, i, v, lv⟩ := t
      cases hn with
      | cons h1 h2 h3 =>
        show wpAny _ _ (do holding _ (act v); assignInOrder acts _) _ _ _
        refine wpAny_bind (wpAny_holding (ha 0 _ act rfl rfl _ _ _ (store_new he hi (hx _ (.head _)).1 (hx _ (.head _)).2 hS h1 fun Mu' s₁ e₁ hM hM' S₁ => ?_)))
        have hn' : LNews C G lo Mu' s₁ (ts.map fun t => t.2.2) := by
          have gen : ∀ l : List (Value × LV), (∀ e ∈ l, e.2.own = true → lv.own = true → e.1 ≠ v) → LNews C G lo Mu s l → LNews C G lo Mu' s₁ l := by
            intro l hl h
            induction h with
            | nil => exact .nil
            | cons q1 q2 _ ih =>
              refine .cons (LNew.step (fun b h => hS.own b h) e₁ (fun ho b hb hm => ?_) q1) q2 (ih fun e he => hl e (.tail _ he))
              refine Or.elim (hM' b hm) (fun q => ?_) fun q => ?_
              · exact q
              · exact absurd (hb.trans q.2.2.symm) (hl _ (.head _) ho q.1)
          exact gen _ h2 h3
        refine wpAny_mono (storesL_ok ts acts he hi (fun t ht => hx t (.tail _ ht)) S₁ hn' (by simpa using hl) (fun j t act h h' => ha (j + 1) t act h h')) (fun ž1 s₂ h => ?_) fun ž1 ž2 h => h
        refine k1_4 h fun Mu₂ e₂ q1 q2 S₂ => ?_
        refine ⟨Mu₂, e₁.trans e₂, fun b h => q1 b (hM b h), fun b h => ?_, S₂⟩
        refine Or.elim (q2 b h) (fun h => ?_) fun h => ?_
        · exact (hM' b h).imp id fun h => h.2.1
        · exact .inr h
end
end
section
noncomputable def env0 (D : Fd) : Env := { (default : Env) with scope := { (default : Scope) with names := D.names, kind := .function } }
theorem swapsWith_env {D : Fd} {env : Env} (he : EnvOk D env) (value : Expr) (t : Option Expr) (line : Nat) : swapsWith value t line env = swapsWith value t line (env0 D) := by
  have h1 : env.scope.kind = (env0 D).scope.kind := he.kind
  have h2 : env.blockKind = (env0 D).blockKind := by unfold Env.blockKind; rw [h1]
  have h3 : env.kindOf = (env0 D).kindOf := by funext x; unfold Env.kindOf; rw [he.names]; rfl
  unfold swapsWith
  rw [h1, h2, h3]
theorem swappedStores_env {D : Fd} {env : Env} (he : EnvOk D env) (ts : List Expr) (value : Expr) : swappedStores ts value env = swappedStores ts value (env0 D) := by
  have h1 : env.scope.kind = (env0 D).scope.kind := he.kind
  have h2 : env.blockKind = (env0 D).blockKind := by unfold Env.blockKind; rw [h1]
  have h3 : env.kindOf = (env0 D).kindOf := by funext x; unfold Env.kindOf; rw [he.names]; rfl
  unfold swappedStores
  rw [h2, h3]
section
variable {C : Wd} {d : Nat} {D : Fd} {A : Around} {E : Value → Shared → Prop} {env : Env} {σ σ' : Sig} {s s' : Shared} {G G' : Gh} {Mu : Addr → Prop}
theorem LNews.mem {lo : Nat} {r : List (Value × LV)} (h : LNews C G lo Mu s r) : ∀ e ∈ r, LNew C G lo Mu s e.1 e.2 := by
  induction h with
  | nil => intro e he; cases he
  | cons q1 _ _ ih =>
    intro e he
    rcases List.mem_cons.mp he with rfl | he
    · exact q1
    · exact ih e he
theorem LNews.pair {lo : Nat} {r : List (Value × LV)} (h : LNews C G lo Mu s r) : r.Pairwise fun a b => b.2.own = true → a.2.own = true → b.1 ≠ a.1 := by
  induction h with
  | nil => exact .nil
  | cons _ q2 _ ih => exact List.pairwise_cons.mpr ⟨fun b hb => q2 b hb, ih⟩
theorem LNews.ofPair {lo : Nat} : ∀ {r : List (Value × LV)}, (∀ e ∈ r, LNew C G lo Mu s e.1 e.2) → (r.Pairwise fun a b => b.2.own = true → a.2.own = true → b.1 ≠ a.1) → LNews C G lo Mu s r
  | [], _, _ => .nil
  | (v, lv) :: r, h1, h2 => by
    refine k0_2 (List.pairwise_cons.mp h2) fun p1 p2 => ?_
    exact .cons (h1 _ (.head _)) (fun e he => p1 e he) (LNews.ofPair (fun e he => h1 e (.tail _ he)) p2)
theorem LNews.rev {lo : Nat} {r : List (Value × LV)} (h : LNews C G lo Mu s r) : LNews C G lo Mu s r.reverse := by
  refine LNews.ofPair (fun e he => h.mem e (List.mem_reverse.mp he)) ?_
  rw [List.pairwise_reverse]
  exact h.pair.imp fun h ha hb => fun e => h hb ha e.symm
noncomputable def mkTs : List Expr → List Nat → List Value → List LV → List (Str × Nat × Value × LV)
  | .Name x _ :: es, i :: is, v :: vs, l :: ls => (x, i, v, l) :: mkTs es is vs ls
  | _, _, _, _ => []
theorem mkTs_cons (x : Str) (pos : Pos) (es : List Expr) (i : Nat) (is : List Nat) (v : Value) (vs : List Value) (l : LV) (ls : List LV) : mkTs (.Name x pos :: es) (i :: is) (v :: vs) (l :: ls) = (x, i, v, l) :: mkTs es is vs ls := rfl
structure TsOk (D : Fd) (es : List Expr) (is : List Nat) (vs : List Value) (ls : List LV) (ts : List (Str × Nat × Value × LV)) : Prop where
  q1 : ts.length = es.length
  q2 : ts.map (fun t => t.2.2) = vs.zip ls
  q3 : ts.map (fun t => t.2.2.1) = vs
  q4 : ts.map (fun t => (t.2.1, t.2.2.2)) = is.zip ls
  q5 : ∀ t ∈ ts, D.nm.lookup t.1 = some t.2.1 ∧ D.wr t.1 = true
  q6 : ∀ (j : Nat) (t : Str × Nat × Value × LV), ts[j]? = some t → ∃ pos, es[j]? = some (.Name t.1 pos)
theorem TsOk.cons {es : List Expr} {is : List Nat} {vs : List Value} {ls : List LV} {ts : List (Str × Nat × Value × LV)} (h : TsOk D es is vs ls ts) {x : Str} {pos : Pos} {i : Nat} {v : Value} {l : LV} (hx : D.nm.lookup x = some i) (hw : D.wr x = true) : TsOk D (.Name x pos :: es) (i :: is) (v :: vs) (l :: ls) ((x, i, v, l) :: ts) where
  q1 := congrArg (· + 1) h.q1
  q2 := congrArg _ h.q2
  q3 := congrArg _ h.q3
  q4 := congrArg _ h.q4
  q5 := fun t ht => by
    cases ht with
    | head => exact ⟨hx, hw⟩
    | tail _ ht => exact h.q5 t ht
  q6 := fun j t ht => by
    cases j with
    | zero => obtain rfl := sj ht; exact ⟨pos, rfl⟩
    | succ j => exact h.q6 j t ht
theorem mkTs_all {es : List Expr} {is : List Nat} (h : Names D es is) : ∀ {vs : List Value} {ls : List LV}, vs.length = es.length → ls.length = es.length → TsOk D es is vs ls (mkTs es is vs ls) := by
  induction h with
  | nil =>
    intro vs ls h1 h2
    obtain rfl := List.length_eq_zero_iff.mp h1
    obtain rfl := List.length_eq_zero_iff.mp h2
    exact ⟨rfl, rfl, rfl, rfl, (fun t h => nomatch h), (fun j t h => nomatch h)⟩
  | @cons x pos es i is hx hw _ ih =>
    intro vs ls h1 h2
    (refine k2_1 (List.exists_cons_of_length_eq_add_one h1) fun v vs ž3 => ?_; subst ž3)
    (refine k2_1 (List.exists_cons_of_length_eq_add_one h2) fun l ls ž3 => ?_; subst ž3)
    exact (ih (Nat.succ.inj h1) (Nat.succ.inj h2)).cons hx hw
theorem Names.acts {es : List Expr} {is : List Nat} (h : Names D es is) (env : Env) : ∀ (j : Nat) (e : Expr), es[j]? = some e → (assignEach es env)[j]? = some (false, assign e env) := by
  induction h with
  | nil => intro j e h; simp at h
  | @cons x pos es i is _ _ _ ih =>
    intro j e he
    have e0 : assignEach (.Name x pos :: es) env = (false, assign (.Name x pos) env) :: assignEach es env := rfl
    rw [e0]
    cases j with
    | zero => have : Expr.Name x pos = e := by simpa using he
              subst this; rfl
    | succ j => simpa using ih j e (by simpa using he)
noncomputable def tupF (is : List Nat) (gs : List (Sig → Option LV)) : Sig → Option (Fl × Sig) := fun σ => (seqL gs σ).bind fun ls => if ls.length = is.length then some (.next, setsL (is.zip ls) σ) else none
noncomputable def tupR (is : List Nat) (gs : List (Sig → Option LV)) : Sig → Option (Fl × Sig) := fun σ => (seqL gs σ).bind fun ls => if ls.length = is.length then some (.next, setsL (is.zip ls).reverse σ) else none
theorem tupEval {es vs : List Expr} {k2 : Nat} {vpos : Pos} {is : List Nat} {gs : List (Sig → Option LV)} {ls : List LV} {Q : Value → Shared → Prop} (hv : ELs C d D vs gs) (hr : Rm d A) (he : EnvOk D env) (hS : St C D G Mu env σ s) (hls : seqL gs σ = some ls) (hz : ls.length ≤ 65536)
    (k : ∀ (T : Addr) (vals : List Value) (s₁ : Shared) (G₁ : Gh), Ext G s G₁ s₁ → vals.length = ls.length → LNews C G₁ s.heap.objs.size Mu s₁ (vals.zip ls) → s₁.heap.IsTuple T vals.toArray → Q (.ref T) s₁) : wpAny C.M A (eval (.Tuple vs k2 vpos) env) Q E s := by
  refine wpAny_Tuple (wpAny_mono (splicedL_ok hv hr he hS hls) (fun vals s₁ h => ?_) fun ž1 ž2 h => h)
  refine k1_3 h fun G₁ x₁ hlen hn => ?_
  have x₂ : Ext G₁ s₁ G₁ _ := Ext.push (tk := s₁.toks) x₁.inn (Nat.le_refl _) { cls := .type "tuple", data := .seq vals.toArray 0 }
  refine ⟨by rw [sizeLine_eq]; lia, k _ vals _ G₁ (x₁.trans (Ext.push (tk := s₁.toks) x₁.inn (Nat.le_refl _) _)) hlen (hn.ext (Ext.push (tk := s₁.toks) x₁.inn (Nat.le_refl _) _)) ?_⟩
  exact ⟨_, Heap.get?_push_size _ rfl, rfl, _, rfl⟩
theorem ES.tupL {es vs : List Expr} {k k2 : Nat} {tpos vpos pos : Pos} {is : List Nat} {gs : List (Sig → Option LV)} (h : Names D es is) (hv : ELs C d D vs gs) (hz : es.length ≤ 30)
    (hs : swapsWithSole [.Tuple es k tpos] (.Tuple vs k2 vpos) pos.line (env0 D) = pure false := by rfl) (hw : swappedStores [.Tuple es k tpos] (.Tuple vs k2 vpos) (env0 D) = pure none := by rfl) :
    ES C d D (.Assign [.Tuple es k tpos] (.Tuple vs k2 vpos) pos) (tupF is gs) := by
  intro A E env σ s G Mu r σ' hr he hi hS hF
  refine k1_2 (bind_some hF) fun ls hls hF => ?_
  have l3 := h.length
  refine ite_k hF (fun _ hF => ?_) fun _ hF => ?_
  · rename_i hlen
    cases hF
    refine Assign_Tuple (tupEval (es := es) (is := is) hv hr he hS hls (by lia) fun T vals s₁ G₁ x₁ hvl hn hT => ?_) ((swapsWith_env he (.Tuple vs k2 vpos) (some (.Tuple es k tpos)) pos.line).trans hs) ((swappedStores_env he ..).trans hw)
    have S₁ := hS.ext x₁
    rw [arm_assign_Tuple]
    refine wpAny_bind (wpAny_standAt ?_)
    refine k0_2 (h.star (env := env)) fun n1 n2 => ?_
    unfold PySem.unpack
    refine wpAny_bind (wpAny_holding ?_)
    rw [n1]
    have hnn : (assignEach es env).length = vals.toArray.size := by rw [n2]; simp; lia
    rw [hnn]
    refine wpAny_grown (wpAny_unpackItems_tuple hr.handled hT fun h' hx gr => ?_)
    have x₂ : Ext G₁ s₁ G₁ { s₁ with heap := h' } := Ext.ofKeeps (tk := s₁.toks) S₁.sub gr fun b o e => hx b o (Nat.ne_of_lt (Heap.lt_size e)) e
    have S₂ := S₁.ext x₂
    have e : vals.toArray.toList = vals := by simp
    rw [e]
    obtain ⟨q1, q2, q3, q4, q5, q6⟩ := mkTs_all h (vs := vals) (ls := ls) (by lia) (by lia)
    have key := storesL_ok (A := A) (E := E) (mkTs es is vals ls) ((assignEach es env).map (·.2)) he hi q5 S₂ (q2 ▸ hn.ext x₂) (by rw [List.length_map, n2, q1]) (fun j t act hj ha Q E s hst => by
      refine k1_1 (q6 j t hj) fun pos hp => ?_
      rw [List.getElem?_map, h.acts env j _ hp] at ha
      have : PySem.assign (Expr.Name t.1 pos) env = act := by simpa using ha
      subst this
      rw [arm_assign_Name]
      exact wpAny_bind (wpAny_standAt (wpAny_bindName hst)))
    rw [q3, q4] at key
    refine wpAny_mono key (fun ž1 s₃ h => ?_) fun ž1 ž2 h => h
    refine k1_4 h fun Mu' e₃ m1 m2 S₃ => ?_
    have x := x₁.trans x₂
    have e := (Ext.toM (Mu := Mu) x).trans (e₃.up S₂.own)
    exact ⟨G₁, Mu', ⟨e.sub, e.new, m2, e.keep, e.size, e.os, e.gens, e.old⟩, S₃, trivial⟩
  · exact nv1 hF
theorem ES.tupS {es vs : List Expr} {k k2 : Nat} {tpos vpos pos : Pos} {is : List Nat} {gs : List (Sig → Option LV)} {names : List Str} (h : Names D es is) (hv : ELs C d D vs gs) (hz : es.length ≤ 30) (hn : names = es.filterMap fun e => match e with | .Name x _ => some x | _ => none)
    (hw : swappedStores [.Tuple es k tpos] (.Tuple vs k2 vpos) (env0 D) = pure (some names) := by rfl) (hs : swapsWithSole [.Tuple es k tpos] (.Tuple vs k2 vpos) pos.line (env0 D) = pure false := by rfl) :
    ES C d D (.Assign [.Tuple es k tpos] (.Tuple vs k2 vpos) pos) (tupR is gs) := by
  intro A E env σ s G Mu r σ' hr he hi hS hF
  refine k1_2 (bind_some hF) fun ls hls hF => ?_
  have l3 := h.length
  refine ite_k hF (fun _ hF => ?_) fun _ hF => ?_
  · rename_i hlen
    cases hF
    refine Assign_Tuple_swapped (names := names) (tupEval (es := es) (is := is) hv hr he hS hls (by lia) fun T vals s₁ G₁ x₁ hvl hn' hT => ?_) ((swapsWith_env he (.Tuple vs k2 vpos) (some (.Tuple es k tpos)) pos.line).trans hs) ((swappedStores_env he ..).trans hw)
    have S₁ := hS.ext x₁
    obtain ⟨q1, q2, q3, q4, q5, q6⟩ := mkTs_all h (vs := vals) (ls := ls) (by lia) (by lia)
    have hnm : ∀ (es : List Expr) (is : List Nat), Names D es is → ∀ (vs : List Value) (ls : List LV), vs.length = es.length → ls.length = es.length → (es.filterMap fun e => match e with | .Name x _ => some x | _ => none) = (mkTs es is vs ls).map (·.1) := by
      intro es is h
      induction h with
      | nil => intro vs ls h1 h2; cases vs <;> first | rfl | cases h1
      | @cons x pos es i is _ _ _ ih =>
        intro vs ls h1 h2
        (refine k2_1 (List.exists_cons_of_length_eq_add_one h1) fun v vs ž3 => ?_; subst ž3)
        (refine k2_1 (List.exists_cons_of_length_eq_add_one h2) fun l ls ž3 => ?_; subst ž3)
        rw [mkTs_cons]
        exact congrArg (x :: ·) (ih vs ls (Nat.succ.inj h1) (Nat.succ.inj h2))
    have hnames : names = (mkTs es is vals ls).map (·.1) := hn.trans (hnm es is h vals ls (by lia) (by lia))
    have hnl : names.length = vals.toArray.size := by rw [hnames, List.length_map, q1]; simp; lia
    rw [hnl]
    refine wpAny_grown (wpAny_unpackItems_tuple hr.handled hT fun h' hx gr => ?_)
    have x₂ : Ext G₁ s₁ G₁ { s₁ with heap := h' } := Ext.ofKeeps (tk := s₁.toks) S₁.sub gr fun b o e => hx b o (Nat.ne_of_lt (Heap.lt_size e)) e
    have S₂ := S₁.ext x₂
    have e : vals.toArray.toList = vals := by simp
    rw [e]
    have hn2 := (hn'.ext x₂).rev
    rw [← q2, ← List.map_reverse] at hn2
    have key := storesL_ok (A := A) (E := E) (mkTs es is vals ls).reverse (names.reverse.map fun n => bindName env n) he hi (fun t ht => q5 t (List.mem_reverse.mp ht)) S₂ hn2 (by rw [List.length_map, List.length_reverse, List.length_reverse, hnames, List.length_map]) (fun j t act hj ha Q E s hst => by
      rw [hnames, ← List.map_reverse, List.map_map, List.getElem?_map, hj] at ha
      have : bindName env t.1 = act := by simpa using ha
      subst this
      exact wpAny_bindName hst)
    have r3 : (mkTs es is vals ls).reverse.map (fun t => t.2.2.1) = vals.reverse := by rw [List.map_reverse, q3]
    have r4 : (mkTs es is vals ls).reverse.map (fun t => (t.2.1, t.2.2.2)) = (is.zip ls).reverse := by rw [List.map_reverse, q4]
    rw [r3, r4] at key
    refine wpAny_mono key (fun ž1 s₃ h => ?_) fun ž1 ž2 h => h
    refine k1_4 h fun Mu' e₃ m1 m2 S₃ => ?_
    have x := x₁.trans x₂
    have e := (Ext.toM (Mu := Mu) x).trans (e₃.up S₂.own)
    exact ⟨G₁, Mu', ⟨e.sub, e.new, m2, e.keep, e.size, e.os, e.gens, e.old⟩, S₃, trivial⟩
  · exact nv1 hF
theorem At.ext {m : Str → Option Value} {x : Str} {v : Value} (e : Ext G s G' s') (h : At env m s.heap x v) : At env m s'.heap x v := by
  have hcell : ∀ c v, s.heap.IsCell c v → s'.heap.IsCell c v := fun c v ⟨o, ho, hd⟩ => ⟨o, e.keep c o (isTab_cell hd) ho, hd⟩
  unfold At at h ⊢
  split at h
  · exact h
  · refine k1_2 h fun c hc hx => ?_; exact ⟨c, hc, hcell c _ hx⟩
  · refine k1_2 h fun c hc hx => ?_; exact ⟨c, hc, hcell c _ hx⟩
  · exact h
theorem LRep.ext {a : Addr} {v : Value} {lv : LV} (e : Ext G s G' s') (h : LRep C G s.heap Mu a v lv) : LRep C G' s'.heap Mu a v lv := by
  cases lv with
  | pv p => exact Rep.mono e.sub h
  | ol xs => obtain ⟨h1, h2, vs, h3, h4⟩ := h; exact ⟨h1, h2, vs, e.plainList h3, RepL.mono e.sub h4⟩
  | od es => obtain ⟨h1, h2, h3, kvs, h4, h5⟩ := h; exact ⟨h1, h2, h3, kvs, e.dictOf h4, RepD.mono e.sub h5⟩
theorem LRep.isRef {h : Heap} {a : Addr} {v : Value} {lv : LV} (ho : lv.own = true) (x : LRep C G h Mu a v lv) : v = .ref a := by
  cases lv with
  | pv p => exact nv4 ho
  | ol xs => exact x.1
  | od es => exact x.1
theorem own_at {x : Str} {i : Nat} {lv : LV} (hS : St C D G Mu env σ s) (he : EnvOk D env) (hi : D.Inj) (hx : D.nm.lookup x = some i) (hσ : σ i = some lv) (ho : lv.own = true) (hc : (x == ("__classdict__" : Str)) = false := by rfl) :
    ∃ a, Mu a ∧ LRep C G s.heap Mu a (.ref a) lv ∧ (∀ (A : Around) (E : Value → Shared → Prop) (Q : Value → Shared → Prop), Q (.ref a) s → wpAny C.M A (loadName env x) Q E s) ∧
      ∀ s₁ G₁, Ext G s G₁ s₁ → LRep C G₁ s₁.heap Mu a (.ref a) lv ∧
        ∀ h' tk lv', Heap.SameBut a s₁.heap h' → s₁.toks ≤ tk → LRep C G₁ h' Mu a (.ref a) lv' → lv'.own = true → St C D G₁ Mu env (σ.set i lv') { s₁ with heap := h', toks := tk } ∧ ExtM Mu G₁ s₁ Mu G₁ { s₁ with heap := h', toks := tk } := by
  refine k2_3 hS.var fun m α hn hv hown => ?_
  refine k1_2 (hv x i lv hx hσ) fun v h1 h2 => ?_
  have hva := h2.isRef ho
  subst hva
  refine k0_4 (hown i lv hσ ho) fun q0 q1 q2 q3 => ?_
  refine ⟨α i, q0, h2, fun A E Q hq => ?_, fun s₁ G₁ x₁ => ⟨h2.ext x₁, fun h' tk lv' hs htk hl ho' => ⟨?_, ExtM.one q0 hs⟩⟩⟩
  · unfold At at h1
    split at h1
    · rename_i hk'; exact wpAny_loadName_local he.kind hk' hn h1 hq
    · rename_i hk'; refine k1_2 h1 fun c hc' hcell => ?_; exact wpAny_loadName_cell he.kind hk' hc' hcell hq
    · rename_i hk'; refine k1_2 h1 fun c hc' hcell => ?_; exact wpAny_loadName_free he.kind hk' hc' hcell hq hc
    · exact h1.elim
  · have S₁ := hS.ext x₁
    have hn₁ : s₁.heap.Ns env.locals m := by
      refine k3_3 hn fun o es ep h1 h2 r => ?_
      exact ⟨o, es, ep, x₁.keep _ o (isTab_dict h2) h1, h2, r⟩
    have hat : ∀ y u, At env m s₁.heap y u → At env m h' y u := by
      intro y u h
      unfold At at h ⊢
      split at h
      · exact h
      · refine k1_2 h fun c hc hx => ?_; exact ⟨c, hc, hx.sameBut hs (Ne.symm (q2 _ c hc))⟩
      · refine k1_2 h fun c hc hx => ?_; exact ⟨c, hc, hx.sameBut hs (Ne.symm (q2 _ c hc))⟩
      · exact h
    have hG := (S₁.mu _ q0).1
    have hPi : ∀ c P, G₁.cd = some (c, P) → P ≠ α i := by
      have hl := h2.ext x₁
      cases lv with
      | pv p => exact nv4 ho
      | ol xs => obtain ⟨_, _, vs, ⟨n, h⟩, _⟩ := hl; exact S₁.sub.ne_tab h rfl
      | od es => obtain ⟨_, _, _, kvs, ⟨o, _, _, h, _, hd, _⟩, _⟩ := hl; exact S₁.sub.ne_tab h (isTab_dict hd)
    refine ⟨S₁.sub.one hG hPi hs htk, S₁.base, fun c hc => ⟨(S₁.mu c hc).1, by show c < h'.objs.size; rw [hs.1]; exact (S₁.mu c hc).2⟩, S₁.loc, fun n c hm => ?_, S₁.apart, m, α, hn₁.sameBut hs (Ne.symm q1), fun y j lv'' hy hj => ?_, fun j lv'' hj hoj => ?_⟩
    · obtain ⟨c1, c2, u, c3⟩ := S₁.cel n c hm
      exact ⟨c1, c2, u, c3.sameBut hs (Ne.symm (q2 n c hm))⟩
    · by_cases hji : j = i
      · subst hji
        rw [Sig.set_self] at hj; obtain rfl := sj hj
        have : y = x := hi y x j hy hx
        subst this
        exact ⟨_, hat _ _ (h1.ext x₁), hl⟩
      · rw [Sig.set_ne _ _ hji] at hj
        refine k1_2 (hv y j lv'' hy hj) fun u e1 e2 => ?_
        exact ⟨u, hat _ _ (e1.ext x₁), (e2.ext x₁).moved hs fun hoj e => hji (q3 j lv'' hj hoj e.symm).symm⟩
    · by_cases hji : j = i
      · subst hji
        refine ⟨q0, q1, q2, fun k lv3 hk hok e => ?_⟩
        by_cases hkj : k = j
        · exact hkj.symm
        · rw [Sig.set_ne _ _ hkj] at hk; exact q3 k lv3 hk hok e
      · rw [Sig.set_ne _ _ hji] at hj
        refine k0_4 (hown j lv'' hj hoj) fun p0 p1 p2 p3 => ?_
        refine ⟨p0, p1, p2, fun k lv3 hk hok e => ?_⟩
        by_cases hki : k = i
        · subst hki
          exact p3 k lv hσ ho e
        · rw [Sig.set_ne _ _ hki] at hk; exact p3 k lv3 hk hok e
noncomputable def frzV : LV → PV
  | .pv p => p
  | .ol xs => .lst xs
  | .od es => .dct es
noncomputable def frz (i : Nat) (F : Sig → Option (Fl × Sig)) : Sig → Option (Fl × Sig) := fun σ => (σ i).bind fun lv => F (σ.set i (.pv (frzV lv)))
theorem freeze_ok {x : Str} {i : Nat} {lv : LV} (hS : St C D G Mu env σ s) (hi : D.Inj) (hx : D.nm.lookup x = some i) (hσ : σ i = some lv) : ∃ G' Mu', ExtM Mu G s Mu' G' s ∧ St C D G' Mu' env (σ.set i (.pv (frzV lv))) s := by
  refine k2_3 hS.var fun m α hn hv hown => ?_
  refine k1_2 (hv x i lv hx hσ) fun v h1 h2 => ?_
  by_cases ho : lv.own = true
  · have hva := h2.isRef ho
    subst hva
    refine k0_4 (hown i lv hσ ho) fun q0 q1 q2 q3 => ?_
    have hobj : ∃ o, s.heap.get? (α i) = some o := by
      cases lv with
      | pv p => exact nv4 ho
      | ol xs => obtain ⟨_, _, vs, ⟨n, h⟩, _⟩ := h2; exact ⟨_, h⟩
      | od es => obtain ⟨_, _, _, kvs, ⟨o, _, _, h, _⟩, _⟩ := h2; exact ⟨_, h⟩
    refine k1_1 hobj fun o hob => ?_
    have hPi : ∀ c P, G.cd = some (c, P) → P ≠ α i := by
      cases lv with
      | pv p => exact nv4 ho
      | ol xs => obtain ⟨_, _, vs, ⟨n, h⟩, _⟩ := h2; exact hS.sub.ne_tab h rfl
      | od es => obtain ⟨_, _, _, kvs, ⟨o, _, _, h, _, hd, _⟩, _⟩ := h2; exact hS.sub.ne_tab h (isTab_dict hd)
    let G₂ : Gh := ⟨res s.heap fun b => (∃ ob, G.h.get? b = some ob) ∨ b = α i, G.T, G.cd⟩
    have hle : Le G G₂ := ⟨fun b ob e => (res_get ..).mpr ⟨.inl ⟨ob, e⟩, hS.sub.h b ob e⟩, fun ž1 ž2 e => e, rfl⟩
    have hin : In G₂ s := ⟨fun b ob e => ((res_get ..).mp e).2, hS.sub.pos, hS.sub.T, fun c P e => let ⟨⟨oc, hoc⟩, u, r⟩ := hS.sub.cd c P e; ⟨⟨oc, hle.h c oc hoc⟩, cdNone u (hPi c P e), r⟩⟩
    have hat : G₂.h.get? (α i) = some o := (res_get ..).mpr ⟨.inr rfl, hob⟩
    have hnew : ∀ b o', G₂.h.get? b = some o' → G.h.get? b = some o' ∨ b = α i := fun b o' e => by
      refine k0_2 ((res_get ..).mp e) fun p q => ?_
      rcases p with ⟨ob', e'⟩ | rfl
      · have := hS.sub.h b ob' e'
        rw [this] at q; obtain rfl := sj q
        exact .inl e'
      · exact .inr rfl
    refine ⟨G₂, fun b => Mu b ∧ b ≠ α i, ⟨hle, fun a o h => ?_, fun a h => .inl h.1, fun a o ž1 ž2 e => e, Nat.le_refl _, rfl, fun x => x, fun ž1 ž2 ž3 x => x⟩, ⟨hin, hS.base.sub hle, fun b hb => ⟨?_, (hS.mu b hb.1).2⟩, ⟨hS.loc, Ne.symm q1⟩, fun n c hm => ?_, hS.apart, m, α, hn, fun y j lv' hy hj => ?_, fun j lv' hj hoj => ?_⟩⟩
    · rcases hnew a o h with h | rfl
      · exact .inl h
      · exact .inr (.inl q0)
    · cases q : G₂.h.get? b with
      | none => rfl
      | some ob =>
        refine Or.elim (hnew b ob q) (fun h => ?_) fun h => ?_
        · rw [(hS.mu b hb.1).1] at h; exact nv1 h
        · exact absurd h hb.2
    · refine k0_3 (hS.cel n c hm) fun c1 c2 c3 => ?_
      exact ⟨⟨c1, Ne.symm (q2 n c hm)⟩, c2, c3⟩
    · by_cases hji : j = i
      · subst hji
        rw [Sig.set_self] at hj; obtain rfl := sj hj
        have : y = x := hi y x j hy hx
        subst this
        refine ⟨_, h1, ?_⟩
        cases lv with
        | pv p => exact nv4 ho
        | ol xs => obtain ⟨_, _, vs, ⟨n, h⟩, hr⟩ := h2; rw [hob] at h; obtain rfl := sj h; exact Rep.lst ⟨n, hat⟩ (RepL.mono hle hr)
        | od es => obtain ⟨_, _, hsy, kvs, ⟨o', es', ep, h, r⟩, hr⟩ := h2; rw [hob] at h; obtain rfl := sj h; exact Rep.dct ⟨o, es', ep, hat, r⟩ hsy (RepD.mono hle hr)
      · rw [Sig.set_ne _ _ hji] at hj
        refine k1_2 (hv y j lv' hy hj) fun u e1 e2 => ?_
        refine ⟨u, e1, ?_⟩
        have hne : lv'.own = true → α j ≠ α i := fun hoj e => hji (q3 j lv' hj hoj e.symm).symm
        cases lv' with
        | pv p => exact Rep.mono hle e2
        | ol xs => obtain ⟨p1, p2, vs, p3, p4⟩ := e2; exact ⟨p1, ⟨p2, hne rfl⟩, vs, p3, RepL.mono hle p4⟩
        | od es => obtain ⟨p1, p2, p3, kvs, p4, p5⟩ := e2; exact ⟨p1, ⟨p2, hne rfl⟩, p3, kvs, p4, RepD.mono hle p5⟩
    · by_cases hji : j = i
      · subst hji; rw [Sig.set_self] at hj; obtain rfl := sj hj; exact nv4 hoj
      · rw [Sig.set_ne _ _ hji] at hj
        refine k0_4 (hown j lv' hj hoj) fun p0 p1 p2 p3 => ?_
        refine ⟨⟨p0, fun e => hji (q3 j lv' hj hoj e.symm).symm⟩, p1, p2, fun k lv3 hk hok e => ?_⟩
        by_cases hki : k = i
        · subst hki; rw [Sig.set_self] at hk; obtain rfl := sj hk; exact nv4 hok
        · rw [Sig.set_ne _ _ hki] at hk; exact p3 k lv3 hk hok e
  · cases lv with
    | pv p =>
      have : σ.set i (.pv (frzV (.pv p))) = σ := by
        funext j
        by_cases hj : j = i
        · subst hj; rw [Sig.set_self, hσ]; rfl
        · rw [Sig.set_ne _ _ hj]
      rw [this]
      exact ⟨G, Mu, ExtM.refl .., hS⟩
    | ol _ => exact absurd rfl ho
    | od _ => exact absurd rfl ho
theorem EX.freeze {x : Str} {b : List Stmt} {F : Sig → Option (Fl × Sig)} (i : Nat) (hx : D.nm.lookup x = some i) (h : EX C d D b F) : EX C d D b (frz i F) := by
  intro A E env σ s G Mu r σ' hr he hi hS hF
  refine k1_2 (bind_some hF) fun lv hlv hF => ?_
  refine k2_2 (freeze_ok hS hi hx hlv) fun G' Mu' e S => ?_
  exact wpAny_mono (h A E env _ s G' Mu' r σ' hr he hi S hF) (fun fl s' h => End.after e h) fun ž1 ž2 h => h
end
end
section
section
variable {C : Wd} {d : Nat} {D : Fd} {A : Around} {E : Value → Shared → Prop} {env : Env} {σ σ' : Sig} {s s' : Shared} {G G' : Gh} {Mu : Addr → Prop}
theorem look_at {kvs : List (DK × Value)} {es : List (DK × PV)} {k : DK} {p : PV} (hr : C.RepD G kvs es) (h : lookD es k = some p) : ∃ v, valueAt kvs k = some v ∧ C.Rep G v p := by
  rcases hr.look k with ⟨q1, q2⟩ | ⟨p', v, q1, q2, q3⟩
  · rw [q1] at h; exact nv1 h
  · rw [q1] at h; obtain rfl := sj h; exact ⟨v, q2, q3⟩
theorem look_no {kvs : List (DK × Value)} {es : List (DK × PV)} {k : DK} (hr : C.RepD G kvs es) (h : lookD es k = none) : valueAt kvs k = none := by
  rcases hr.look k with ⟨q1, q2⟩ | ⟨p', v, q1, q2, q3⟩
  · exact q2
  · rw [q1] at h; exact nv2 h
noncomputable def oItem : LV → PV → Option PV
  | .ol xs, .int k => if smallI k then (seqIndex? k xs.length).bind (xs[·]?) else none
  | .od es, k => (DKof k).bind (lookD es)
  | _, _ => none
theorem oItem_ok {value slice : Expr} {a : Addr} {u : Value} {lv : LV} {q r : PV} (hin : In G s) (hl : LRep C G s.heap Mu a (.ref a) lv) (h2 : C.Rep G u q) (h : oItem lv q = some r)
    (hs : ∀ o i, subscripted slice false o i = operate [o, i] (getItem o i)) : wpAny C.M A (subscriptTail value slice (.ref a) u) (Done C G s r) E s := by
  unfold oItem at h
  split at h
  · refine ite_k h (fun _ h => ?_) fun _ h => ?_
    · rename_i hk
      (refine k1_1 h2.sh fun _ ž2 => ?_; subst ž2)
      obtain ⟨_, _, vs, hp, hr⟩ := hl
      exact item_list hin hp hr hk h (hs _ _)
    · exact nv1 h
  · refine k1_2 (bind_some h) fun kk hkk h => ?_
    obtain ⟨_, _, hm, kvs, hd, hr⟩ := hl
    refine k1_2 (look_at hr h) fun v hv rv => ?_
    refine tail_any hd.typeIs slot_dict_getitem.lookup ?_ (hs _ _)
    exact wpAny_getItem_of (knd := C.dk) (k := kk) (DKof_is h2 hkk) hd.mapOf hv (done_val hin rv (Nat.le_succ _))
  · exact nv1 h
noncomputable def oi2 (i : Nat) (g : Sig → Option PV) : Sig → Option PV := fun σ => (σ i).bind fun lv => (g σ).bind fun k => oItem lv k
theorem oItem_own {lv : LV} {k r : PV} (h : oItem lv k = some r) : lv.own = true := by
  cases lv <;> first | rfl | (exact nv1 h)
theorem EV.oitem {x : Str} {np pos : Pos} {slice : Expr} {g : Sig → Option PV} (i : Nat) (hi : D.Inj) (hx : D.nm.lookup x = some i) (h2 : EV C d D slice g) (hd : (x == ("__debug__" : Str)) = false := by rfl) (hc : (x == ("__classdict__" : Str)) = false := by rfl)
    (hs : ∀ o i, subscripted slice false o i = operate [o, i] (getItem o i) := by intros; rfl) : EV C d D (.Subscript (.Name x np) slice pos) (oi2 i g) := by
  intro A E env σ s G Mu p hr he hst hf
  refine k1_2 (bind_some hf) fun lv hlv hf => ?_
  refine k1_2 (bind_some hf) fun k hk hf => ?_
  refine k1_4 (own_at hst he hi hx hlv (oItem_own hf) hc) fun a ha hl hread hmore => ?_
  refine Subscript_ (wpAny_Name (hread _ _ _ (bind2 h2 hr he hst hk fun u s₂ G₂ x₂ r₂ S₂ => ?_)) hd)
  refine k0_2 (hmore s₂ G₂ x₂) fun hl₂ _ => ?_
  exact wpAny_mono (oItem_ok S₂.sub hl₂ r₂ hf hs) (fun v s₃ h => Done.after x₂ h) fun ž1 ž2 h => h
theorem setItem_plain {l : Addr} {items : Array Value} {k : Int} {t : Tok} {v : Value} {Q : Unit → Shared → Prop} (hl : s.heap.PlainList l items) (h0 : 0 ≤ k) (hfit : k < 2 ^ 63) (hn : k < items.size)
    (hQ : ∀ h', h'.PlainList l (items.setIfInBounds k.toNat v) → Heap.SameBut l s.heap h' → Q () { s with heap := h' }) : wpAny C.M A (setItem (.ref l) (.int k t) v) Q E s := by
  refine k1_1 hl fun ne ho => ?_
  have hL : s.heap.IsList l items := ⟨_, ho, rfl, ne, rfl⟩
  have hd : Obj.data { cls := .type "list", data := .seq items ne } = .seq items ne := rfl
  generalize hob : ({ cls := .type "list", data := .seq items ne } : Obj) = ob at ho hd
  unfold setItem
  try with_reducible refine wpAny_holding ?_
  first | refine wpAny_bind (wpAny_pure ?_) | skip
  refine wpAny_bind (wpAny_sequenceKey hL.typeIs (by decide) ?_)
  refine wpAny_bind (wpAny_callSpecial?_slot (name := Str.ofString "__setitem__") hL.typeIs slot_list_setitem
    (wpAny_call_entry slot_list_setitem hL.typeIs entry_list_setitem ?_ (args_list_setitem _ _ _)))
  show wpAny _ _ (Builtin.List.listSubscript? (.int k t) >>= _) _ _ s
  refine wpAny_bind (wpAny_listSubscript_int (fitsIndex_of h0 hfit) ?_)
  clear hfit
  (refine k1_1 (Int.eq_ofNat_of_zero_le h0) fun j ž2 => ?_; subst ž2)
  have hj : j < items.size := by lia
  have hx' : items[j]? = some items[j] := Array.getElem?_eq_getElem hj
  show wpAny _ _ ((seqItemAt l j >>= fun r => pure (r.map (j, ·))) >>= _) _ _ s
  refine wpAny_bind (wpAny_bind (wpAny_seqItemAt ho hd (wpAny_pure ?_)))
  rw [hx']
  show wpAny _ _ (setSeqItemAt l j v >>= _) _ _ s
  have hfin : (s.heap.update l (Obj.mapSeq (·.setIfInBounds j v))).PlainList l (items.setIfInBounds j v) := by
    have e : Obj.mapSeq (·.setIfInBounds j v) ob = { cls := .type "list", data := .seq (items.setIfInBounds j v) ne } := by rw [← hob]; simp [Obj.mapSeq]
    refine ⟨ne, ?_⟩
    rw [Heap.get?_update_self _ ho (by rw [e]; rfl), e]
  refine wpAny_bind (wpAny_setSeqItemAt ho hd ?_)
  first
    | exact wpAny_bind (wpAny_pure (wpAny_pure ⟨.none, rfl, wpAny_pure (hQ _ hfin (Heap.SameBut.update ..))⟩))
    | exact wpAny_pure ⟨.none, rfl, wpAny_pure (hQ _ hfin (Heap.SameBut.update ..))⟩
noncomputable def oSet : LV → PV → PV → Option LV
  | .ol xs, .int k, p => if 0 ≤ k ∧ k < xs.length ∧ xs.length ≤ 65536 then some (.ol (xs.set k.toNat p)) else none
  | .od es, k, p => (DKof k).bind fun kk => if es.length ≤ 65536 then some (.od (insD es kk p)) else none
  | _, _, _ => none
theorem oSet_ok {a : Addr} {u v : Value} {lv lv' : LV} {q p : PV} {Q : Unit → Shared → Prop} (hl : LRep C G s.heap Mu a (.ref a) lv) (h2 : C.Rep G u q) (h3 : C.Rep G v p) (h : oSet lv q p = some lv')
    (hQ : ∀ h' tk, Heap.SameBut a s.heap h' → s.toks ≤ tk → LRep C G h' Mu a (.ref a) lv' → lv'.own = true → Q () { s with heap := h', toks := tk }) : wpAny C.M A (setItem (.ref a) u v) Q E s := by
  unfold oSet at h
  split at h
  · refine ite_k h (fun _ h => ?_) fun _ h => ?_
    · rename_i hk
      obtain rfl := sj h
      (refine k1_1 h2.sh fun _ ž2 => ?_; subst ž2)
      refine k0_3 hk fun hk0 hk1 hk2 => ?_
      obtain ⟨_, hm, vs, hp, hr⟩ := hl
      (refine k1_1 (Int.eq_ofNat_of_zero_le hk0) fun j ž2 => ?_; subst ž2)
      have hlen := hr.length
      refine setItem_plain hp hk0 (by lia) (by simp; lia) fun h' hp' hs' => hQ h' s.toks hs' (Nat.le_refl _) ⟨rfl, hm, vs.set j v, ?_, by simpa using hr.set h3 j⟩ rfl
      have : (vs.set j v).toArray = vs.toArray.setIfInBounds (Int.ofNat j).toNat v := by simp
      rw [this]; exact hp'
    · exact nv1 h
  · refine k1_2 (bind_some h) fun kk hkk h => ?_
    refine ite_k h (fun _ h => ?_) fun _ h => ?_
    · obtain rfl := sj h
      obtain ⟨_, hm, hsy, kvs, hd, hr⟩ := hl
      have hlen := hr.length
      refine wpAny_setItem_pairs (knd := C.dk) (DKof_is h2 hkk) hd (fun h' hd' hs' => ?_) (by rw [sizeLine_eq]; lia)
      exact hQ h' _ hs' (Nat.le_succ _) ⟨rfl, hm, hsy, _, hd', RepD.ins hr h3⟩ rfl
    · exact nv1 h
  · exact nv1 h
theorem oSet_own {lv lv' : LV} {k r : PV} (h : oSet lv k r = some lv') : lv.own = true := by
  cases lv <;> first | rfl | (exact nv1 h)
noncomputable def setO (i : Nat) (f g : Sig → Option PV) : Sig → Option (Fl × Sig) := fun σ => (f σ).bind fun p => (g σ).bind fun k => (σ i).bind fun lv => (oSet lv k p).bind fun lv' => some (.next, σ.set i lv')
theorem ES.setitem {x : Str} {np tpos pos : Pos} {slice value : Expr} {f g : Sig → Option PV} (i : Nat) (hx : D.nm.lookup x = some i) (h1 : EV C d D value f) (h2 : EV C d D slice g) (hd : (x == ("__debug__" : Str)) = false := by rfl) (hc : (x == ("__classdict__" : Str)) = false := by rfl)
    (hs : swapsWith value (some (.Subscript (.Name x np) slice tpos)) pos.line (env0 D) = pure false := by rfl) : ES C d D (.Assign [.Subscript (.Name x np) slice tpos] value pos) (setO i f g) := by
  intro A E env σ s G Mu r σ' hr he hi hS hF
  refine k1_2 (bind_some hF) fun p hp hF => ?_
  refine k1_2 (bind_some hF) fun k hk hF => ?_
  refine k1_2 (bind_some hF) fun lv hlv hF => ?_
  refine k1_2 (bind_some hF) fun lv' hlv' hF => ?_
  cases hF
  refine wpAny_Assign_Subscript (bind2 h1 hr he hS hp fun v s₁ G₁ x₁ r₁ S₁ => ?_) ((swapsWith_env he ..).trans hs)
  refine k1_4 (own_at S₁ he hi hx hlv (oSet_own hlv') hc) fun a ha hl hread hmore => ?_
  refine wpAny_Name (hread _ _ _ (bind2 h2 hr he S₁ hk fun u s₂ G₂ x₂ r₂ S₂ => ?_)) hd
  refine k0_2 (hmore s₂ G₂ x₂) fun hl₂ hput => ?_
  refine oSet_ok hl₂ r₂ (Rep.mono x₂.sub r₁) hlv' fun h' tk hs' ht hl' ho' => ?_
  refine k0_2 (hput h' tk lv' hs' ht hl' ho') fun S₃ e₃ => ?_
  exact ⟨G₂, Mu, (Ext.toM (x₁.trans x₂)).trans e₃, S₃, trivial⟩
noncomputable def augO (op : Operator) (i : Nat) (g f : Sig → Option PV) : Sig → Option (Fl × Sig) := fun σ => (σ i).bind fun lv => (g σ).bind fun k => (oItem lv k).bind fun old => (f σ).bind fun b => (PV.inp op old b).bind fun new => (oSet lv k new).bind fun lv' => some (.next, σ.set i lv')
theorem getItem_list {l : Addr} {vs : List Value} {xs : List PV} {k : Int} {t : Tok} {p : PV} (hin : In G s) (hl : s.heap.PlainList l vs.toArray) (hr : C.RepL G vs xs) (hk : smallI k = true)
    (hp : (seqIndex? k xs.length).bind (xs[·]?) = some p) : wpAny C.M A (getItem (.ref l) (.int k t)) (Done C G s p) E s := by
  refine k0_2 (smallI_iff hk) fun k1 k2 => ?_
  refine k1_2 (bind_some hp) fun j hj hx => ?_
  refine k1_2 (hr.get hx) fun v hv rv => ?_
  have hlen := hr.length
  have fin : Done C G s p v s := done_self hin rv
  rcases seqIndex_some hj with ⟨h0, rfl, hlt⟩ | ⟨h0, h1, rfl, hlt⟩
  · exact wpAny_getItem_list hl.isList h0 (by lia) (by simpa using hv) fin
  · exact wpAny_getItem_list_neg hl.isList h0 (by simp; lia) (by lia) (by simp only [List.size_toArray, hlen]; simpa using hv) fin
theorem oGet_ok {a : Addr} {u : Value} {lv : LV} {q r : PV} (hin : In G s) (hl : LRep C G s.heap Mu a (.ref a) lv) (h2 : C.Rep G u q) (h : oItem lv q = some r) : wpAny C.M A (getItem (.ref a) u) (Done C G s r) E s := by
  unfold oItem at h
  split at h
  · refine ite_k h (fun _ h => ?_) fun _ h => ?_
    · rename_i hk
      (refine k1_1 h2.sh fun _ ž2 => ?_; subst ž2)
      obtain ⟨_, _, vs, hp, hr⟩ := hl
      exact getItem_list hin hp hr hk h
    · exact nv1 h
  · refine k1_2 (bind_some h) fun kk hkk h => ?_
    obtain ⟨_, _, hm, kvs, hd, hr⟩ := hl
    refine k1_2 (look_at hr h) fun v hv rv => ?_
    exact wpAny_getItem_of (knd := C.dk) (k := kk) (DKof_is h2 hkk) hd.mapOf hv (done_val hin rv (Nat.le_succ _))
  · exact nv1 h
theorem ES.augitem {x : Str} {np tpos pos : Pos} {op : Operator} {slice value : Expr} {f g : Sig → Option PV} (i : Nat) (hx : D.nm.lookup x = some i) (h1 : EV C d D value f) (h2 : EV C d D slice g) (hd : (x == ("__debug__" : Str)) = false := by rfl) (hc : (x == ("__classdict__" : Str)) = false := by rfl)
    (hs : ∀ ov iv new, augStore slice ov iv new = (do holding [new, ov, iv] (setItem ov iv new); release [new, ov, iv] []; pure .next) := by intros; rfl) : ES C d D (.AugAssign (.Subscript (.Name x np) slice tpos) op value pos) (augO op i g f) := by
  intro A E env σ s G Mu r σ' hr he hi hS hF
  refine k1_2 (bind_some hF) fun lv hlv hF => ?_
  refine k1_2 (bind_some hF) fun k hk hF => ?_
  refine k1_2 (bind_some hF) fun old hold hF => ?_
  refine k1_2 (bind_some hF) fun b hb hF => ?_
  refine k1_2 (bind_some hF) fun new hnew hF => ?_
  refine k1_2 (bind_some hF) fun lv' hlv' hF => ?_
  cases hF
  refine k1_4 (own_at hS he hi hx hlv (oSet_own hlv') hc) fun a ha hl hread hmore => ?_
  refine wpAny_AugAssign_SubscriptAny (wpAny_Name (hread _ _ _ (bind2 h2 hr he hS hk fun u s₁ G₁ x₁ r₁ S₁ => ?_)) hd) hs
  refine k0_2 (hmore s₁ G₁ x₁) fun hl₁ _ => ?_
  refine wpAny_mono (oGet_ok S₁.sub hl₁ r₁ hold) (fun ov s₂ h₂ => ?_) fun ž1 ž2 h => h
  obtain ⟨G₂, x₂, r₂⟩ := h₂
  have S₂ := S₁.ext x₂
  refine bind2 h1 hr he S₂ hb fun v s₃ G₃ x₃ r₃ S₃ => wpAny_mono (inp_ok op S₃.sub (Rep.mono x₃.sub r₂) r₃ hnew) (fun nv s₄ h₄ => ?_) fun ž1 ž2 h => h
  obtain ⟨G₄, x₄, r₄⟩ := h₄
  have xx := ((x₁.trans x₂).trans x₃).trans x₄
  refine k0_2 (hmore s₄ G₄ xx) fun hl₄ hput => ?_
  refine oSet_ok hl₄ (Rep.mono ((x₂.trans x₃).trans x₄).sub r₁) r₄ hlv' fun h' tk hs' ht hl' ho' => ?_
  refine k0_2 (hput h' tk lv' hs' ht hl' ho') fun S₅ e₅ => ?_
  exact ⟨G₄, Mu, (Ext.toM xx).trans e₅, S₅, trivial⟩
noncomputable def appO (i : Nat) (f : Sig → Option PV) : Sig → Option (Fl × Sig) := fun σ => (σ i).bind fun lv => (f σ).bind fun p => match lv with
  | .ol xs => if xs.length ≤ 65536 then some (.next, σ.set i (.ol (xs ++ [p]))) else none
  | _ => none
theorem ES.append {x : Str} {np apos cpos pos : Pos} {e : Expr} {f : Sig → Option PV} (i : Nat) (hx : D.nm.lookup x = some i) (h : EVs C d D [e] [f]) (hd : (x == ("__debug__" : Str)) = false := by rfl) (hc : (x == ("__classdict__" : Str)) = false := by rfl)
    (hline : (apos.endLine == cpos.line) = true := by rfl) (hbase : ∀ env, attributeBase (.Name x np) (Str.ofString "append") env (eval (.Name x np) env) = eval (.Name x np) env := by intros; rfl) :
    ES C d D (.Expr (.Call (.Attribute (.Name x np) (Str.ofString "append") apos) [e] [] cpos) pos) (appO i f) := by
  intro A E env σ s G Mu r σ' hr he hi hS hF
  refine k1_2 (bind_some hF) fun lv hlv hF => ?_
  refine k1_2 (bind_some hF) fun p hp hF => ?_
  cases lv with
  | pv _ => exact nv1 hF
  | od _ => exact nv1 hF
  | ol xs =>
    dsimp only at hF
    refine ite_k hF (fun _ hF => ?_) fun _ hF => ?_
    · rename_i hz
      cases hF
      refine k1_4 (own_at hS he hi hx hlv rfl hc) fun a ha hl hread hmore => ?_
      have hps : seqO [f] σ = some [p] := by simp [seqO, hp]
      have hfew : ((backTo cpos (starEach [e] env)).all (fun x => !x.1) && (backToKw cpos (keywordEach [] env)).all (fun x => x.1.isSome)
        && decide ([e].length + ([] : List Keyword).length + (if ([] : List Keyword).isEmpty then 0 else 1) < 30)) = true := by
        rw [all_plain cpos h, kw_nil]; rfl
      refine wpAny_Expr_any (wpAny_Call_method_lateS (hbase env) hfew hline (wpAny_Name (hread _ _ _ ?_) hd)) (by unfold interactive; rw [he.kind]; rfl) rfl
      obtain ⟨_, hMa, vs, ⟨n, hpl⟩, hrl⟩ := hl
      refine ⟨"list", "list.append", F.plainAttrs_list, F.slot_list_append, F.type_list_append, ⟨_, hpl, rfl⟩, fun b e => by cases e; exact ⟨_, hpl, rfl⟩, callWith_builtin (any_star cpos h) (args_ok h hr he hS hps fun vs' s₁ G₁ x₁ r₁ => ?_)⟩
      (refine k0_2 (hmore s₁ G₁ x₁) fun ž1 => ?_; obtain ⟨_, _, vs₁, hpl₁, hrl₁⟩ := ž1; intro hput)
      (refine k1_2 r₁.inv1 fun v ž2 => ?_; subst ž2; intro r1)
      · · have hlen := hrl₁.length
          refine wpAny_list_append_plain hpl₁ (fun h' hp' hs' => ?_) (by rw [sizeLine_eq]; simp; lia)
          have hl' : LRep C G₁ h' Mu a (.ref a) (.ol (xs ++ [p])) := by
            refine ⟨rfl, ha, vs₁ ++ [v], ?_, RepL.append hrl₁ (.cons r1 .nil)⟩
            have : (vs₁ ++ [v]).toArray = vs₁.toArray.push v := by simp
            rw [this]; exact hp'
          refine k0_2 (hput h' s₁.toks _ hs' (Nat.le_refl _) hl' rfl) fun S₂ e₂ => ?_
          exact ⟨G₁, Mu, (Ext.toM x₁).trans e₂, S₂, trivial⟩
    · exact nv1 hF
end
end
section
noncomputable def pickL {α : Type} (xs : List α) (lo hi : Option Int) : List α := (sliceRange (sliceBounds lo hi none xs.length).1 (sliceBounds lo hi none xs.length).2.1 (sliceBounds lo hi none xs.length).2.2).filterMap (xs[·]?)
open Builtin.Str in
noncomputable def pickS (x : Str) (lo hi : Option Int) : Str := if (strSliceIndices lo hi 1 x.length).length == x.length then x else ⟨((strSliceIndices lo hi 1 x.length).filterMap (x.cps[·]?)).toArray⟩
noncomputable def sliceO : PV → Option Int → Option Int → Option PV
  | .lst xs, lo, hi => if xs.length ≤ 65536 then some (.lst (pickL xs lo hi)) else none
  | .arg xs, lo, hi => if xs.length ≤ 65536 then some (.lst (pickL xs lo hi)) else none
  | .str x, lo, hi => if (pickS x lo hi).length ≤ 65536 then some (.str (pickS x lo hi)) else none
  | _, _, _ => none
section
variable {C : Wd} {d : Nat} {D : Fd} {A : Around} {E : Value → Shared → Prop} {env : Env} {σ σ' : Sig} {s s' : Shared} {G G' : Gh} {Mu : Addr → Prop}
theorem RepL.pick {vs : List Value} {xs : List PV} (h : C.RepL G vs xs) : ∀ (ids : List Nat), C.RepL G (ids.filterMap (vs[·]?)) (ids.filterMap (xs[·]?))
  | [] => .nil
  | i :: r => by
    rw [List.filterMap_cons, List.filterMap_cons]
    have l := RepL.length h
    cases hv : vs[i]? with
    | none =>
      have : xs[i]? = none := by rw [List.getElem?_eq_none_iff] at hv ⊢; lia
      rw [this]; exact RepL.pick h r
    | some v =>
      refine k1_2 (h.getV hv) fun p hp rp => ?_
      rw [hp]; exact .cons rp (RepL.pick h r)
theorem RepL.slice {vs : List Value} {xs : List PV} (h : C.RepL G vs xs) (lo hi : Option Int) : ∃ us, (slicePick vs.toArray lo hi none) = us.toArray ∧ C.RepL G us (pickL xs lo hi) := by
  have l := RepL.length h
  refine ⟨pickL vs lo hi, ?_, ?_⟩
  · unfold slicePick pickL
    simp
  · unfold pickL
    rw [l]
    exact h.pick _
theorem sliceStr_ok {value : Expr} {lower upper : Option Expr} {pp : Pos} {x : Str} {t : Tok} {a : Addr} {vl vu : Value} {lo hi : Option Int} (hin : In G s) (hs : s.heap.IsSliceOf a vl vu .none) (pl : IsPart vl lo) (pu : IsPart vu hi) (hz : (pickS x lo hi).length ≤ 65536) :
    wpAny C.M A (subscriptTail value (.Slice lower upper none pp) (.str x t) (.ref a)) (Done C G s (.str (pickS x lo hi))) E s := by
  have part : ∀ {v : Value} {q : Option Int}, IsPart v q → ∃ o : Option (Int × Tok), v = partValue o ∧ o.map (·.1) = q := fun h => by
    cases h with
    | none => exact ⟨none, rfl, rfl⟩
    | int i t => exact ⟨some (i, t), rfl, rfl⟩
  (refine k1_2 (part pl) fun l ž2 => ?_; subst ž2; intro ž3; subst ž3)
  (refine k1_2 (part pu) fun u ž2 => ?_; subst ž2; intro ž3; subst ž3)
  refine tail_any (T := "str") rfl PySem.F.slot_str_getitem.lookup (wpAny_getItem_str_slice (l := l) (u := u) (st := none) hs rfl ?_) rfl
  unfold sliceMade
  unfold pickS at hz ⊢
  split
  · rename_i hc
    have hc' : ((Builtin.Str.strSliceIndices (l.map (·.1)) (u.map (·.1)) 1 x.length).length == x.length) = true := by
      have := hc
      simp only [slicePicked, Option.map_none, Option.getD_none, Bool.and_eq_true] at this
      exact this.2
    rw [if_pos hc'] at hz ⊢
    exact done_self hin (.str _ _)
  · rename_i hc
    have hc' : ¬ ((Builtin.Str.strSliceIndices (l.map (·.1)) (u.map (·.1)) 1 x.length).length == x.length) = true := fun q => hc (by
      simp only [slicePicked, Option.map_none, Option.getD_none, Bool.and_eq_true]
      exact ⟨rfl, q⟩)
    rw [if_neg hc'] at hz ⊢
    exact ⟨by rw [sizeLine_eq]; exact Nat.le_trans hz (by decide), done_val hin (.str _ _) (Nat.le_succ _)⟩
inductive PT (C : Wd) (d : Nat) (D : Fd) : Option Expr → (Sig → Option (Option Int)) → Prop
  | no : PT C d D none (fun ž1 => some none)
  | «at» {e : Expr} {f : Sig → Option PV} : EV C d D e f → PT C d D (some e) (fun σ => (f σ).bind fun p => match p with
    | .int i => some (some i)
    | _ => none)
theorem PT.ok {o : Option Expr} {g : Sig → Option (Option Int)} (h : PT C d D o g) {q : Option Int} {Q : Value → Shared → Prop} (hr : Rm d A) (he : EnvOk D env) (hS : St C D G Mu env σ s) (hq : g σ = some q)
    (k : ∀ v s₁ G₁, Ext G s G₁ s₁ → St C D G₁ Mu env σ s₁ → IsPart v q → Q v s₁) : wpAny C.M A (evalPart o env) Q E s := by
  cases h with
  | no => obtain rfl := sj hq; rw [evalPart_none]; exact wpAny_pure (k _ _ _ (Ext.refl hS.sub) hS .none)
  | «at» hf =>
    refine k1_2 (bind_some hq) fun p hp hq => ?_
    rw [evalPart_some]
    refine bind2 hf hr he hS hp fun v s₁ G₁ x₁ r₁ S₁ => ?_
    split at hq
    · obtain rfl := sj hq; (refine k1_1 r₁.sh fun _ ž2 => ?_; subst ž2); exact k _ _ _ x₁ S₁ (.int _ _)
    · exact nv1 hq
noncomputable def sl2 (f : Sig → Option PV) (g h : Sig → Option (Option Int)) : Sig → Option PV := fun σ => (f σ).bind fun p => (g σ).bind fun lo => (h σ).bind fun hi => sliceO p lo hi
theorem EV.slice {value : Expr} {lower upper : Option Expr} {p pos : Pos} {f : Sig → Option PV} {g h : Sig → Option (Option Int)} (h1 : EV C d D value f) (h2 : PT C d D lower g) (h3 : PT C d D upper h) : EV C d D (.Subscript value (.Slice lower upper none p) pos) (sl2 f g h) := by
  intro A E env σ s G Mu r hr he hst hf
  refine k1_2 (bind_some hf) fun q hq hf => ?_
  refine k1_2 (bind_some hf) fun lo hlo hf => ?_
  refine k1_2 (bind_some hf) fun hi hhi hf => ?_
  refine Subscript_ (bind2 h1 hr he hst hq fun v s₁ G₁ x₁ r₁ S₁ => wpAny_Slice (h2.ok hr he S₁ hlo fun vl s₂ G₂ x₂ S₂ pl => h3.ok hr he S₂ hhi fun vu s₃ G₃ x₃ S₃ pu => ?_))
  rw [evalPart_none]
  refine wpAny_pure ?_
  have r₃ := Rep.mono (x₂.trans x₃).sub r₁
  have x₄ : Ext G₃ s₃ G₃ { s₃ with heap := s₃.heap.push { cls := .type "slice", data := .fields #[vl, vu, .none] } } := Ext.push (tk := s₃.toks) S₃.sub (Nat.le_refl _) _
  have xx := ((x₁.trans x₂).trans x₃).trans x₄
  unfold sliceO at hf
  split at hf
  · refine ite_k hf (fun _ hf => ?_) fun _ hf => ?_
    · rename_i hz
      obtain rfl := sj hf
      · (refine k2_3 r₃.sh fun _ _ ž3 => ?_; subst ž3; intro hp hrl)
        have hl := (PlainList.sub hp x₄.inn.h).isList
        have ll := hrl.length
        refine k1_2 (hrl.slice lo hi) fun us hus hru => ?_
        refine tail_any hl.typeIs slot_list_getitem.lookup (wpAny_getItem_list_slice hl (Heap.IsSliceOf.new ..) pl pu .none (by intro h; exact nv1 h) ?_ (by rw [sizeLine_eq]; simp; lia)) rfl
        rw [hus]
        exact Done.after xx (done_list x₄.inn (Nat.le_refl _) hru)
    · exact nv1 hf
  · refine ite_k hf (fun _ hf => ?_) fun _ hf => ?_
    · rename_i hz
      obtain rfl := sj hf
      · (refine k2_3 r₃.sh fun _ _ ž3 => ?_; subst ž3; intro hp hrl)
        have hl := IsList.sub hp x₄.inn.h
        have ll := hrl.length
        refine k1_2 (hrl.slice lo hi) fun us hus hru => ?_
        refine tail_any hl.typeIs slot_list_getitem.lookup (wpAny_getItem_list_slice hl (Heap.IsSliceOf.new ..) pl pu .none (by intro h; exact nv1 h) ?_ (by rw [sizeLine_eq]; simp; lia)) rfl
        rw [hus]
        exact Done.after xx (done_list x₄.inn (Nat.le_refl _) hru)
    · exact nv1 hf
  · refine ite_k hf (fun _ hf => ?_) fun _ hf => ?_
    rotate_left; exact nv1 hf
    rename_i hz
    obtain rfl := sj hf
    (refine k1_1 r₃.sh fun _ ž2 => ?_; subst ž2)
    exact wpAny_mono (sliceStr_ok x₄.inn ⟨_, Heap.get?_push_size _ rfl, rfl, rfl⟩ pl pu hz) (fun v s₅ h => Done.after xx h) fun ž1 ž2 h => h
  · exact nv1 hf
noncomputable def whileF (t : Sig → Option Bool) (F : Sig → Option (Fl × Sig)) : Nat → Sig → Option (Fl × Sig)
  | 0, _ => none
  | n + 1, σ => (t σ).bind fun b => if b then (F σ).bind fun r => match r with
    | (.next, σ₂) => whileF t F n σ₂
    | (.cont, σ₂) => whileF t F n σ₂
    | (.brk, σ₂) => some (.next, σ₂)
    | (.ret v, σ₂) => some (.ret v, σ₂)
    else some (.next, σ)
theorem ES.whileS {test : Expr} {body : List Stmt} {pos : Pos} {t : Sig → Option Bool} {F : Sig → Option (Fl × Sig)} (n : Nat) (ht : IT C d D test t) (hB : EX C d D body F) : ES C d D (.While test body [] pos) (whileF t F n) := by
  intro A E env σ s G Mu r σ' hr he hi hS hF
  refine wpAny_While (codeAny_whileLoop (fun m s₂ => ∃ G₂ Mu₂ σ₂, ExtM Mu G s Mu₂ G₂ s₂ ∧ St C D G₂ Mu₂ env σ₂ s₂ ∧ whileF t F m σ₂ = some (r, σ')) ?_ n ⟨G, Mu, σ, ExtM.refl .., hS, hF⟩)
  rintro m s₂ ⟨G₂, Mu₂, σ₂, e₂, S₂, hF₂⟩
  cases m with
  | zero => exact nv1 hF₂
  | succ m =>
    refine k1_2 (bind_some hF₂) fun b hb hF₂ => ?_
    refine itBind ht hr he S₂ hb fun s₃ G₃ x₃ S₃ => ?_
    have e₃ := e₂.trans (Ext.toM (Mu := Mu₂) x₃)
    cases b with
    | false =>
      cases hF₂
      exact wpAny_pure ⟨G₃, Mu₂, e₃, S₃, trivial⟩
    | true =>
      (refine k1_2 (bind_some hF₂) fun ž1 => ?_; obtain ⟨r₄, σ₄⟩ := ž1; intro hr₄ hF₄)
      rw [if_pos rfl]
      refine wpAny_mono (hB A _ env σ₂ s₃ G₃ Mu₂ r₄ σ₄ hr he hi S₃ hr₄) (fun fl s₅ hend => ?_) fun ž1 ž2 h => h
      obtain ⟨G₅, Mu₅, e₅, S₅, hfl⟩ := hend
      have ee := e₃.trans e₅
      cases r₄ with
      | next => cases fl <;> first | exact hfl.elim | exact ⟨m, Nat.lt_succ_self _, G₅, Mu₅, σ₄, ee, S₅, hF₄⟩
      | cont => cases fl <;> first | exact hfl.elim | exact ⟨m, Nat.lt_succ_self _, G₅, Mu₅, σ₄, ee, S₅, hF₄⟩
      | brk =>
        cases hF₄
        cases fl <;> first | exact hfl.elim | exact ⟨G₅, Mu₅, ee, S₅, trivial⟩
      | ret q =>
        cases hF₄
        cases fl <;> first | exact hfl.elim | exact ⟨G₅, Mu₅, ee, S₅, hfl⟩
end
end
section
open PySem.Flt (NumV ltV cmpOf_gt cmpOf_lt)
section
variable {C : Wd} {d : Nat} {D : Fd} {A : Around} {E : Value → Shared → Prop} {s s' : Shared} {G G' : Gh}
noncomputable def lenP : PV → Option Nat
  | .lst xs => some xs.length
  | .tup xs => some xs.length
  | .arg xs => some xs.length
  | .str x => some x.length
  | .dct es => some es.length
  | _ => none
noncomputable def lenΦ : List PV → Option PV
  | [p] => (lenP p).bind fun n => if n < 2 ^ 60 then some (.int n) else none
  | _ => none
theorem len_ok : CallOK C d (.builtin "len") lenΦ := by
  intro A E s G vs ps p hr hb hs hv h
  cases hv with
  | nil => exact nv1 h
  | @cons v vs q qs h1 h2 =>
    cases h2 with
    | cons _ _ => exact nv1 h
    | nil =>
      refine k1_2 (bind_some h) fun n hn h => ?_
      refine ite_k h (fun _ h => ?_) fun _ h => ?_
      · rename_i hlt
        obtain rfl := sj h
        have fin : Done C G s (.int n) (.int n (s.toks + 1)) { s with toks := s.toks + 1 + 1 } := done_val hs (.int _ _) (by lia)
        cases h1 with
        | str x tk =>
          simp [lenP] at hn
          subst hn; exact len_str (by lia) fin
        | @tup a us xs hp hrl =>
          simp [lenP] at hn
          have e : us.toArray.size = n := by have := hrl.length; simp; lia
          exact PyProof.Rows.len_tuple (PlainTup.sub hp hs.h).isTup (by rw [e]; lia) (by rw [e]; exact fin)
        | @lst a us xs hp hrl =>
          simp [lenP] at hn
          have e : us.toArray.size = n := by have := hrl.length; simp; lia
          exact call_len_list (PlainList.sub hp hs.h).isList (by rw [e]; lia) (by rw [e]; exact fin)
        | @arg a us xs hp hrl =>
          simp [lenP] at hn
          have e : us.toArray.size = n := by have := hrl.length; simp; lia
          exact call_len_list (IsList.sub hp hs.h) (by rw [e]; lia) (by rw [e]; exact fin)
        | @dct a kvs es hd hm hrd =>
          simp [lenP] at hn
          have e : kvs.length = n := hrd.length.trans hn
          exact call_len_dict hm (DictOf.sub hd hs.h) (by rw [e]; lia) (by rw [e]; exact fin)
        | _ => simp [lenP] at hn
      · exact nv1 h
noncomputable def rangeΦ : List PV → Option PV
  | [.int n] => some (.rng 0 n 1)
  | [.int a, .int b] => some (.rng a b 1)
  | [.int a, .int b, .int c] => if c ≠ 0 ∧ (b - a).natAbs < 2 ^ 60 ∧ c.natAbs < 2 ^ 28 then some (.rng a b c) else none
  | _ => none
theorem range_done {tk : Nat} {a b c : Int} {t u v : Tok} (hs : In G s) (ht : s.toks ≤ tk) : Done C G s (.rng a b c) (.ref s.heap.objs.size) { s with heap := s.heap.push { cls := .type "range", data := .fields #[.int a t, .int b u, .int c v] }, toks := tk } := by
  refine k1_3 ((Ext.push (tk := tk) hs ht { cls := .type "range", data := .fields #[.int a t, .int b u, .int c v] }).freeze (a := s.heap.objs.size) (Heap.get?_push_size _ rfl) (Nat.le_refl _)) fun G₂ x k g => ?_
  exact ⟨G₂, x, .rng g⟩
theorem range_ok : CallOK C d (.type "range") rangeΦ := by
  intro A E s G vs ps p hr hb hs hv h
  unfold rangeΦ at h
  split at h
  · obtain rfl := sj h
    · (refine k1_2 hv.inv1 fun _ ž2 => ?_; subst ž2; intro h1)
      (refine k1_1 h1.sh fun _ ž2 => ?_; subst ž2)
      exact call_range_1 (range_done hs (by lia))
  · obtain rfl := sj h
    · (refine k2_3 hv.inv2 fun _ _ ž3 => ?_; subst ž3; intro h1 h2)
      · (refine k1_1 h1.sh fun _ ž2 => ?_; subst ž2)
        (refine k1_1 h2.sh fun _ ž2 => ?_; subst ž2)
        exact call_range_2 (range_done hs (by lia))
  · refine ite_k h (fun _ h => ?_) fun _ h => ?_
    · rename_i hc
      obtain rfl := sj h
      · (refine k3_4 hv.inv3 fun _ _ _ ž4 => ?_; subst ž4; intro h1 h2 h3)
        · · (refine k1_1 h1.sh fun _ ž2 => ?_; subst ž2)
            (refine k1_1 h2.sh fun _ ž2 => ?_; subst ž2)
            (refine k1_1 h3.sh fun _ ž2 => ?_; subst ž2)
            exact call_range_3 hc.1 (range_done hs (Nat.le_refl _)) (Or.inl (PyProof.noPylong_small (by lia)))
    · exact nv1 h
  · exact nv1 h
noncomputable def numP : PV → Bool
  | .int _ => true
  | .flt _ => true
  | _ => false
noncomputable def ltP (a b : PV) : Bool := (ltO a b).getD false
theorem rep_num' {v : Value} {p : PV} (h : C.Rep G v p) (hn : numP p = true) : (∃ i t, p = .int i ∧ v = .int i t) ∨ ∃ x t, p = .flt x ∧ v = .float x t := by
  unfold numP at hn
  split at hn
  · (refine k1_1 h.sh fun t ž2 => ?_; subst ž2); exact .inl ⟨_, t, rfl, rfl⟩
  · (refine k1_2 h.sh fun t ž2 => ?_; subst ž2; intro _); exact .inr ⟨_, t, rfl, rfl⟩
  · exact nv4 hn
theorem rep_num {v : Value} {p : PV} (h : C.Rep G v p) (hn : numP p = true) : NumV v := by
  rcases rep_num' h hn with ⟨i, t, _, rfl⟩ | ⟨i, t, _, rfl⟩ <;> constructor
theorem rep_lt {v u : Value} {p q : PV} (h1 : C.Rep G v p) (h2 : C.Rep G u q) (hp : numP p = true) (hq : numP q = true) : ltV v u = ltP p q := by
  rcases rep_num' h1 hp with ⟨i, t, rfl, rfl⟩ | ⟨i, t, rfl, rfl⟩ <;> rcases rep_num' h2 hq with ⟨j, t', rfl, rfl⟩ | ⟨j, t', rfl, rfl⟩ <;> rfl
noncomputable def bestMax (ps : List PV) : Option PV := ps[argBest (fun i j => ltP (ps.getD j .nul) (ps.getD i .nul)) (ps.length - 1)]?
noncomputable def bestMin (ps : List PV) : Option PV := ps[argBest (fun i j => ltP (ps.getD i .nul) (ps.getD j .nul)) (ps.length - 1)]?
noncomputable def maxΦ : List PV → Option PV
  | [p] => (asLst p).bind fun xs => if xs.all numP ∧ xs ≠ [] then bestMax xs else none
  | [a, b] => if numP a ∧ numP b then bestMax [a, b] else none
  | [a, b, c] => if numP a ∧ numP b ∧ numP c then bestMax [a, b, c] else none
  | _ => none
noncomputable def minΦ : List PV → Option PV
  | [_] => none
  | [a, b] => if numP a ∧ numP b then bestMin [a, b] else none
  | [a, b, c] => if numP a ∧ numP b ∧ numP c then bestMin [a, b, c] else none
  | _ => none
theorem argBest_congr {f g : Nat → Nat → Bool} {m : Nat} (h : ∀ i j, i ≤ m → j ≤ m → f i j = g i j) : ∀ n, n ≤ m → argBest f n = argBest g n ∧ argBest f n ≤ n
  | 0, _ => ⟨rfl, Nat.le_refl _⟩
  | n + 1, hn => by
    refine k0_2 (argBest_congr h n (by lia)) fun ih hle => ?_
    unfold argBest
    rw [← ih, h (n + 1) (argBest f n) hn (by lia)]
    split
    · exact ⟨rfl, Nat.le_refl _⟩
    · exact ⟨rfl, by lia⟩
theorem rep_getD {vs : List Value} {ps : List PV} (h : C.RepL G vs ps) (hn : ps.all numP = true) {i j : Nat} (hi : i < ps.length) (hj : j < ps.length) : ltV (vs.toArray.getD i .none) (vs.toArray.getD j .none) = ltP (ps.getD i .nul) (ps.getD j .nul) := by
  refine k1_2 (h.get (List.getElem?_eq_getElem hi)) fun v hv rv => ?_
  refine k1_2 (h.get (List.getElem?_eq_getElem hj)) fun u hu ru => ?_
  have e1 : vs.toArray.getD i .none = v := by simp [Array.getD_eq_getD_getElem?, hv]
  have e2 : vs.toArray.getD j .none = u := by simp [Array.getD_eq_getD_getElem?, hu]
  have e3 : ps.getD i .nul = ps[i] := by simp [List.getD_eq_getElem?_getD, hi]
  have e4 : ps.getD j .nul = ps[j] := by simp [List.getD_eq_getElem?_getD, hj]
  rw [e1, e2, e3, e4]
  exact rep_lt rv ru (List.all_eq_true.mp hn _ (List.getElem_mem hi)) (List.all_eq_true.mp hn _ (List.getElem_mem hj))
theorem all_num {vs : List Value} {ps : List PV} (h : C.RepL G vs ps) (hn : ps.all numP = true) : ∀ v ∈ vs.toArray, NumV v := by
  intro v hv
  obtain ⟨i, hi, rfl⟩ := Array.mem_iff_getElem.mp hv
  have hi' : i < vs.length := by simpa using hi
  refine k1_2 (h.getV (i := i) (v := vs[i]) (List.getElem?_eq_getElem hi')) fun p hp rp => ?_
  exact rep_num rp (List.all_eq_true.mp hn _ (List.mem_of_getElem? hp))
theorem best_fin {vs : List Value} {ps : List PV} {p : PV} {f : Nat → Nat → Bool} {g : Nat → Nat → Bool} {v : Value} (h : C.RepL G vs ps) (hne : ps ≠ []) (hfg : ∀ i j, i < ps.length → j < ps.length → f i j = g i j) (hp : ps[argBest g (ps.length - 1)]? = some p)
    (hP : vs.toArray[argBest f (vs.toArray.size - 1)]? = some v) : C.Rep G v p := by
  have l := h.length
  have lpos : 0 < ps.length := List.length_pos_iff.mpr hne
  have e : argBest f (vs.toArray.size - 1) = argBest g (ps.length - 1) := by
    have : vs.toArray.size = ps.length := by simp; lia
    rw [this]
    exact (argBest_congr (m := ps.length - 1) (fun i j hi hj => hfg i j (by lia) (by lia)) _ (Nat.le_refl _)).1
  rw [e] at hP
  refine k1_2 (h.get hp) fun v' hv' rv => ?_
  have : vs[argBest g (ps.length - 1)]? = some v := by simpa using hP
  rw [hv'] at this; obtain rfl := sj this
  exact rv
theorem tup_room (o1 o2 : Obj) : ∀ b ∈ [((s.heap.push o1).objs.size), s.heap.objs.size], b < ((s.heap.push o1).push o2).objs.size := by
  intro b hb
  have hsz : (s.heap.push o1).objs.size = s.heap.objs.size + 1 := Heap.size_push ..
  rw [Heap.size_push, hsz]
  simp only [List.mem_cons, List.not_mem_nil, or_false] at hb
  rcases hb with rfl | rfl
  · rw [hsz]; exact Nat.lt_succ_self _
  · exact Nat.lt_succ_of_lt (Nat.lt_succ_self _)
theorem tup_old {o1 o2 : Obj} {h' : Heap} (hk : ∀ b o, b ∉ [(s.heap.push o1).objs.size] → ((s.heap.push o1).push o2).get? b = some o → h'.get? b = some o) : ∀ c o, s.heap.get? c = some o → h'.get? c = some o := by
  intro c o e
  have hsz : (s.heap.push o1).objs.size = s.heap.objs.size + 1 := Heap.size_push ..
  refine hk c o (fun hm => ?_) (Heap.get?_push_of_some _ (Heap.get?_push_of_some _ e))
  rw [List.mem_singleton, hsz] at hm
  have := Heap.lt_size e
  rw [hm] at this
  exact Nat.lt_irrefl _ (Nat.lt_of_succ_lt this)
set_option tactic.hygienic true in
theorem max_ok : CallOK C d (.builtin "max") maxΦ := by
  intro A E s G vs ps p hr hb hs hv h
  unfold maxΦ at h
  split at h
  · obtain ⟨xs, hq, h2⟩ := bind_some h
    clear h
    obtain rfl := asLst_eq hq
    split at h2
    · rename_i hx
      have h := h2
      obtain ⟨_, rfl, h1⟩ := hv.inv1
      · · obtain ⟨a, us, rfl, hp, hrl⟩ := h1.sh
          have hl := (PlainList.sub hp hs.h).isList
          have hlt : a < s.heap.objs.size := by obtain ⟨o, ho, _⟩ := hl; exact Heap.lt_size ho
          have hne : a ≠ s.heap.objs.size := Nat.ne_of_lt hlt
          have l := hrl.length
          have hpos : 0 < xs.length := List.length_pos_iff.mpr hx.2
          refine wpAny_grown (call_max_walk (wpAny_pyIter_list hl ⟨_, _, _, _, _, _, _, rfl, Walks.list (A := A.in1) hr.handled _ a hne us.toArray, ⟨⟨_, Heap.get?_push_size _ rfl, rfl, rfl⟩, ?_⟩, ?_, ?_, cmpOf_gt us.toArray (all_num hrl hx.1), fun v h' tk hP hk gr => ?_⟩))
          · obtain ⟨o, ho, r⟩ := hl; exact ⟨o, Heap.get?_push_of_some _ ho, r⟩
          · intro b hb
            rw [Heap.size_push]
            exact all_cons (p := fun b => b < s.heap.objs.size + 1) (Nat.lt_succ_self _) (all_cons (Nat.lt_succ_of_lt hlt) all_nil) b hb
          · simp; lia
          · have hk' : ∀ c o, s.heap.get? c = some o → h'.get? c = some o := fun c o e => hk c o (fun hm => by rw [List.mem_singleton] at hm; exact Nat.lt_irrefl _ (hm ▸ Heap.lt_size e)) (Heap.get?_push_of_some _ e)
            exact ⟨G, Ext.ofKeeps hs gr hk', best_fin hrl hx.2 (fun i j hi hj => rep_getD hrl hx.1 hj hi) h hP⟩
    · cases h2
  · split at h
    · rename_i a b hn
      have hall : ([a, b] : List PV).all numP = true := by simp [hn.1, hn.2]
      obtain ⟨v1, v2, rfl, _, _⟩ := hv.inv2
      have hT : (s.heap.push { cls := .type "tuple", data := .seq #[v1, v2] }).IsTuple s.heap.objs.size #[v1, v2] := ⟨_, Heap.get?_push_size _ rfl, rfl, 0, rfl⟩
      have hsz : (s.heap.push { cls := .type "tuple", data := .seq #[v1, v2] }).objs.size = s.heap.objs.size + 1 := Heap.size_push ..
      refine wpAny_grown (call_max_two (wpAny_pyIter_tuple hT ⟨_, [_, s.heap.objs.size], [_], _, _, _, _, rfl, Walks.tuple (A := A.in1) hr.handled _ s.heap.objs.size (by rw [hsz]; exact Nat.ne_of_lt (Nat.lt_succ_self _)) #[v1, v2],
        ⟨⟨_, Heap.get?_push_size _ rfl, rfl, rfl⟩, hT.push _⟩, tup_room _ _, by simp, cmpOf_gt #[v1, v2] (all_num hv hall), fun v h' tk hP hk gr => ?_⟩))
      exact ⟨G, Ext.ofKeeps hs gr (tup_old hk), best_fin hv (by simp) (fun i j hi hj => rep_getD hv hall hj hi) h hP⟩
    · cases h
  · split at h
    · rename_i a b c hn
      have hall : ([a, b, c] : List PV).all numP = true := by simp [hn.1, hn.2.1, hn.2.2]
      obtain ⟨v1, v2, v3, rfl, _, _, _⟩ := hv.inv3
      have hT : (s.heap.push { cls := .type "tuple", data := .seq #[v1, v2, v3] }).IsTuple s.heap.objs.size #[v1, v2, v3] := ⟨_, Heap.get?_push_size _ rfl, rfl, 0, rfl⟩
      have hsz : (s.heap.push { cls := .type "tuple", data := .seq #[v1, v2, v3] }).objs.size = s.heap.objs.size + 1 := Heap.size_push ..
      refine wpAny_grown (call_max_three (wpAny_pyIter_tuple hT ⟨_, [_, s.heap.objs.size], [_], _, _, _, _, rfl, Walks.tuple (A := A.in1) hr.handled _ s.heap.objs.size (by rw [hsz]; exact Nat.ne_of_lt (Nat.lt_succ_self _)) #[v1, v2, v3],
        ⟨⟨_, Heap.get?_push_size _ rfl, rfl, rfl⟩, hT.push _⟩, tup_room _ _, by simp, cmpOf_gt #[v1, v2, v3] (all_num hv hall), fun v h' tk hP hk gr => ?_⟩))
      exact ⟨G, Ext.ofKeeps hs gr (tup_old hk), best_fin hv (by simp) (fun i j hi hj => rep_getD hv hall hj hi) h hP⟩
    · cases h
  · cases h
set_option tactic.hygienic true in
theorem min_ok : CallOK C d (.builtin "min") minΦ := by
  intro A E s G vs ps p hr hb hs hv h
  unfold minΦ at h
  split at h
  · cases h
  · split at h
    · rename_i a b hn
      have hall : ([a, b] : List PV).all numP = true := by simp [hn.1, hn.2]
      obtain ⟨v1, v2, rfl, _, _⟩ := hv.inv2
      have hT : (s.heap.push { cls := .type "tuple", data := .seq #[v1, v2] }).IsTuple s.heap.objs.size #[v1, v2] := ⟨_, Heap.get?_push_size _ rfl, rfl, 0, rfl⟩
      have hsz : (s.heap.push { cls := .type "tuple", data := .seq #[v1, v2] }).objs.size = s.heap.objs.size + 1 := Heap.size_push ..
      refine wpAny_grown (call_min_two (wpAny_pyIter_tuple hT ⟨_, [_, s.heap.objs.size], [_], _, _, _, _, rfl, Walks.tuple (A := A.in1) hr.handled _ s.heap.objs.size (by rw [hsz]; exact Nat.ne_of_lt (Nat.lt_succ_self _)) #[v1, v2],
        ⟨⟨_, Heap.get?_push_size _ rfl, rfl, rfl⟩, hT.push _⟩, tup_room _ _, by simp, cmpOf_lt #[v1, v2] (all_num hv hall), fun v h' tk hP hk gr => ?_⟩))
      exact ⟨G, Ext.ofKeeps hs gr (tup_old hk), best_fin hv (by simp) (fun i j hi hj => rep_getD hv hall hi hj) h hP⟩
    · cases h
  · split at h
    · rename_i a b c hn
      have hall : ([a, b, c] : List PV).all numP = true := by simp [hn.1, hn.2.1, hn.2.2]
      obtain ⟨v1, v2, v3, rfl, _, _, _⟩ := hv.inv3
      have hT : (s.heap.push { cls := .type "tuple", data := .seq #[v1, v2, v3] }).IsTuple s.heap.objs.size #[v1, v2, v3] := ⟨_, Heap.get?_push_size _ rfl, rfl, 0, rfl⟩
      have hsz : (s.heap.push { cls := .type "tuple", data := .seq #[v1, v2, v3] }).objs.size = s.heap.objs.size + 1 := Heap.size_push ..
      refine wpAny_grown (call_min_three (wpAny_pyIter_tuple hT ⟨_, [_, s.heap.objs.size], [_], _, _, _, _, rfl, Walks.tuple (A := A.in1) hr.handled _ s.heap.objs.size (by rw [hsz]; exact Nat.ne_of_lt (Nat.lt_succ_self _)) #[v1, v2, v3],
        ⟨⟨_, Heap.get?_push_size _ rfl, rfl, rfl⟩, hT.push _⟩, tup_room _ _, by simp, cmpOf_lt #[v1, v2, v3] (all_num hv hall), fun v h' tk hP hk gr => ?_⟩))
      exact ⟨G, Ext.ofKeeps hs gr (tup_old hk), best_fin hv (by simp) (fun i j hi hj => rep_getD hv hall hi hj) h hP⟩
    · cases h
  · cases h
end
end
section
section
variable {C : Wd} {d : Nat} {D : Fd} {A : Around} {E : Value → Shared → Prop} {env : Env} {σ : Sig} {s s' : Shared} {G G' : Gh} {Mu : Addr → Prop}
noncomputable def sumI : List PV → Option Int
  | [] => some 0
  | .int a :: r => (sumI r).map (a + ·)
  | _ => none
noncomputable def sumΦ : List PV → Option PV
  | [.lst xs] => (sumI xs).map .int
  | _ => none
theorem sumI_rep {vs : List Value} {xs : List PV} {n : Int} (h : C.RepL G vs xs) (hn : sumI xs = some n) : ∃ ps : List (Int × Tok), vs = ps.map (fun p => .int p.1 p.2) ∧ (ps.map (·.1)).sum = n := by
  induction vs generalizing xs n with
  | nil => cases h; obtain rfl := sj hn; exact ⟨[], rfl, rfl⟩
  | cons v vs ih =>
    cases h with
    | @cons _ _ q _ h1 h2 =>
      cases q <;> first | (exact nv1 hn; done) | skip
      unfold sumI at hn
      rw [Option.map_eq_some_iff] at hn
      (refine k1_2 hn fun m hm ž3 => ?_; subst ž3)
      (refine k1_2 (ih h2 hm) fun ps ž2 => ?_; subst ž2; intro ž3; subst ž3)
      (refine k1_1 h1.sh fun _ ž2 => ?_; subst ž2)
      exact ⟨(_, _) :: ps, rfl, by simp⟩
theorem sum_ok : CallOK C d (.builtin "sum") sumΦ := by
  intro A E s G vs ps p hr hb hs hv h
  unfold sumΦ at h
  split at h
  · rw [Option.map_eq_some_iff] at h
    (refine k1_2 h fun n hn ž3 => ?_; subst ž3)
    · (refine k1_2 hv.inv1 fun _ ž2 => ?_; subst ž2; intro h1)
      · (refine k2_3 h1.sh fun a us ž3 => ?_; subst ž3; intro hp hrl)
        have hl := (PlainList.sub hp hs.h).isList
        (refine k1_2 (sumI_rep hrl hn) fun qs ž2 => ?_; subst ž2; intro hsum)
        have e : (qs.map fun p => Value.int p.1 p.2).toArray = intItems qs.toArray := by simp [intItems]
        rw [e] at hl
        refine wpAny_grown (sum_intListG hr.handled hl fun h' tk t' hk gr => ?_)
        have e2 : preSum (numAt qs.toArray) qs.toArray.size = n := by
          rw [preSum_eq]
          rw [List.take_of_length_le (by simp)]
          rw [← hsum]
        rw [e2]
        exact ⟨G, Ext.ofKeeps hs gr hk, .int _ _⟩
  · exact nv1 h
noncomputable def intΦ : List PV → Option PV
  | [.flt x] => match Float64.decode x with
    | .fin s m e => some (.int (Float64.truncOf s m e))
    | _ => none
  | _ => none
theorem int_ok : CallOK C d (.type "int") intΦ := by
  intro A E s G vs ps p hr hb hs hv h
  unfold intΦ at h
  split at h
  · split at h
    · rename_i hd
      obtain rfl := sj h
      · (refine k1_2 hv.inv1 fun _ ž2 => ?_; subst ž2; intro h1)
        (refine k1_2 h1.sh fun _ ž2 => ?_; subst ž2; intro _)
        exact call_int_float hd (done_val hs (.int _ _) (Nat.le_succ _))
    · exact nv1 h
  · exact nv1 h
noncomputable def strΦ : List PV → Option PV
  | [.int a] => if a.natAbs.log2 < 1920 then some (.str (Str.ofString (toString a))) else none
  | _ => none
theorem str_ok : CallOK C d (.type "str") strΦ := by
  intro A E s G vs ps p hr hb hs hv h
  unfold strΦ at h
  split at h
  · refine ite_k h (fun _ h => ?_) fun _ h => ?_
    · rename_i hd
      obtain rfl := sj h
      · (refine k1_2 hv.inv1 fun _ ž2 => ?_; subst ž2; intro h1)
        (refine k1_1 h1.sh fun _ ž2 => ?_; subst ž2)
        exact P.str_of_int hd (done_val hs (.str _ _) (Nat.le_succ _))
    · exact nv1 h
  · exact nv1 h
noncomputable def ordΦ : List PV → Option PV
  | [.str x] => match x.cps.toList with
    | [c] => some (.int c)
    | _ => none
  | _ => none
set_option tactic.hygienic true in
theorem ord_ok : CallOK C d (.builtin "ord") ordΦ := by
  intro A E s G vs ps p hr hb hs hv h
  unfold ordΦ at h
  split at h
  · rename_i x
    split at h
    · rename_i c hc
      obtain rfl := sj h
      · (refine k1_2 hv.inv1 fun _ ž2 => ?_; subst ž2; intro h1)
        (refine k1_1 h1.sh fun _ ž2 => ?_; subst ž2)
        have e : x = ⟨#[c]⟩ := by
          obtain ⟨cps⟩ := x
          congr 1
          apply Array.toList_inj.mp
          rw [hc]
        subst e
        exact P.ord_of_char (done_val hs (.int _ _) (Nat.le_succ _))
    · exact nv1 h
  · exact nv1 h
noncomputable def chrΦ : List PV → Option PV
  | [.int i] => if (decide (i < 0) || decide (i > 0x10FFFF)) = false then some (.str ⟨#[i.toNat]⟩) else none
  | _ => none
theorem chr_ok : CallOK C d (.builtin "chr") chrΦ := by
  intro A E s G vs ps p hr hb hs hv h
  unfold chrΦ at h
  split at h
  · refine ite_k h (fun _ h => ?_) fun _ h => ?_
    · rename_i hd
      obtain rfl := sj h
      · (refine k1_2 hv.inv1 fun _ ž2 => ?_; subst ž2; intro h1)
        (refine k1_1 h1.sh fun _ ž2 => ?_; subst ž2)
        exact P.chr_of_int hd (done_val hs (.str _ _) (Nat.le_succ _))
    · exact nv1 h
  · exact nv1 h
noncomputable def getΦ : List PV → Option PV
  | [.dct es, k] => (DKof k).map fun kk => (lookD es kk).getD .nul
  | [.dct es, k, z] => (DKof k).map fun kk => (lookD es kk).getD z
  | _ => none
set_option tactic.hygienic true in
theorem get_ok : CallOK C d (.builtin "dict.get") getΦ := by
  intro A E s G vs ps p hr hb hs hv h
  unfold getΦ at h
  split at h
  · rename_i es k0
    rw [Option.map_eq_some_iff] at h
    (refine k1_2 h fun kk hkk ž3 => ?_; subst ž3)
    · (refine k2_3 hv.inv2 fun _ _ ž3 => ?_; subst ž3; intro h1 h2)
      · · (refine k2_4 h1.sh fun a kvs ž3 => ?_; subst ž3; intro hd hm hrd)
          have hd₁ := DictOf.sub hd hs.h
          have hkey := DKof_is h2 hkk
          refine call_meetsIn F.slot_dict_get hd₁.typeIs F.entry_dict_get (F.args_dict_get_2 _ _) (meets_dict_get C.dk a hkey hm) ⟨_, hd₁.mapOf, ?_⟩
          cases hlk : lookD es kk with
          | none => rw [look_no hrd hlk]; exact done_val hs .nul (Nat.le_succ _)
          | some q =>
            refine k1_2 (look_at hrd hlk) fun v hv rv => ?_
            rw [hv]; exact done_val hs rv (Nat.le_succ _)
  · rename_i es k0 z0
    rw [Option.map_eq_some_iff] at h
    (refine k1_2 h fun kk hkk ž3 => ?_; subst ž3)
    · (refine k3_4 hv.inv3 fun _ _ _ ž4 => ?_; subst ž4; intro h1 h2 h3)
      · · · (refine k2_4 h1.sh fun a kvs ž3 => ?_; subst ž3; intro hd hm hrd)
            have hd₁ := DictOf.sub hd hs.h
            have hkey := DKof_is h2 hkk
            refine call_meetsIn F.slot_dict_get hd₁.typeIs F.entry_dict_get (F.args_dict_get_3 _ _ _) (meets_dict_get_default C.dk a hkey hm _) ⟨_, hd₁.mapOf, ?_⟩
            cases hlk : lookD es kk with
            | none => rw [look_no hrd hlk]; exact done_val hs h3 (Nat.le_succ _)
            | some q =>
              refine k1_2 (look_at hrd hlk) fun v hv rv => ?_
              rw [hv]; exact done_val hs rv (Nat.le_succ _)
  · exact nv1 h
end
end
section
noncomputable def csl : Str := Str.ofString "comp_select_list"
structure TC (K : Frag) (cA fI fC : Addr) : Prop where
  makes : makesIn K cA = true
  init : findIn K (.ref cA) "__init__" = some (some (.ref fI))
  initF : typeIn K (.ref fI) = some (.type "function")
  cmp : findIn K (.ref cA) "compare" = some (some (.ref fC))
  cmpF : typeIn K (.ref fC) = some (.type "function")
  ga : findIn K (.ref cA) "__getattribute__" = some (some (.builtin "object.__getattribute__"))
  gt : findIn K (.ref cA) "__getattr__" = some none
  sa : findIn K (.ref cA) "__setattr__" = some (some (.builtin "object.__setattr__"))
  over : plainOver K cA = true
  taker : takerIn K cA csl = some none
  hasD : (clsIn K cA).any (·.hasDict) = true
  find : findIn K (.ref cA) csl = some none
section
variable {C : Wd} {d : Nat} {D : Fd} {A : Around} {E : Value → Shared → Prop} {env : Env} {σ : Sig} {s s' : Shared} {G G' : Gh} {Mu : Addr → Prop} {cA fI fC : Addr}
theorem inst_at {a dx : Addr} {n : Nat} {hh : Int} {t : Tok} {v : Value} {h : Heap} (h1 : h.get? a = some { cls := .ref cA, dict := some dx, data := .plain }) (h2 : h.get? dx = some { cls := .type "dict", data := .dict #[⟨hh, .str csl t, v⟩] n }) :
    InstAt h a { cls := .ref cA, dict := some dx, data := .plain } cA (some { cls := .type "dict", data := .dict #[⟨hh, .str csl t, v⟩] n }) := ⟨h1, rfl, rfl, h2⟩
theorem look_csl {hh : Int} {t : Tok} {v : Value} {n : Nat} : lookIn csl { cls := .type "dict", data := .dict #[⟨hh, .str csl t, v⟩] n } = some (some v) := by
  unfold lookIn
  simp [Value.isStr]
theorem getcsl_ok {v : Value} {p : PV} {expr : Bool} (T : TC C.K cA fI fC) (hb : Bs C G) (hs : In G s) (h : C.Rep G v (.inst cA p)) (hh : ∀ u, C.Rep G u p → handedIn u = true) : wpAny C.M A (getAttr v csl expr) (Done C G s p) E s := by
  cases h with
  | @inst a _ dx n hsh t u _ h1 h2 h3 =>
    have X := hb.X.keeps hs.h
    refine get_value X (inst_at (hs.h _ _ h1) (hs.h _ _ h2)) T.ga ?_ (hh u h3) (done_val hs h3 (Nat.le_succ _))
    exact findObj_own (by exact T.hasD) T.find rfl look_csl
noncomputable def newΦ (cA : Addr) : List PV → Option PV
  | [p] => some (.inst cA p)
  | _ => none
set_option tactic.hygienic true in
theorem new_ok (T : TC C.K cA fI fC) {oI : Obj} {fd : FuncData} {np vp ap pos : Pos} {self sel : Str} (ho : C.K.lookup fI = some oI) (hdata : oI.data = .func fd) (hcd : codeIn C.K fd.code fd.qualname = true)
    (hbody : fd.body = .stmts [.Assign [.Attribute (.Name self np) csl ap] (.Name sel vp) pos]) (hclo : fd.closure = []) (hbind : ∀ u v : Value, bindArgs fd ⟨[u, v], []⟩ = pure [(self, u), (sel, v)]) (hne : self ≠ sel)
    (h1 : fd.scope.names.lookup self = some .local) (h2 : fd.scope.names.lookup sel = some .local) (hd1 : (self == ("__debug__" : Str)) = false) (hd2 : (sel == ("__debug__" : Str)) = false)
    (hco : fd.scope.isCoroutine = false := by rfl) (hgen : fd.scope.isGenerator = false := by rfl) (hk : fd.scope.kind = .function := by rfl) :
    CallOK C (d + 1) (.ref cA) (newΦ cA) := by
  intro A E s G vs ps q hr hB hs hv hf
  unfold newΦ at hf
  split at hf
  case h_2 => exact nv1 hf
  case h_1 p =>
  obtain rfl := sj hf
  cases hv with
  | @cons v _ _ _ rv hv =>
  cases hv
  have X := hB.X.keeps hs.h
  obtain ⟨hp, g, dr, tk, os⟩ := s
  refine wpAny_grown (wpAny_call (make_core (makes_of X T.makes) (looks_findIn X T.init) (fun u => bind_fn X u T.initF) (.inl rfl) ?_))
  have k0 : ∀ b o, hp.get? b = some o → ((hp.push emptyDict).push (instObj cA hp.objs.size)).get? b = some o := fun b o e => Heap.get?_push_of_some _ (Heap.get?_push_of_some _ e)
  have z1 : (hp.push emptyDict).objs.size = hp.objs.size + 1 := Heap.size_push ..
  have hx : ((hp.push emptyDict).push (instObj cA hp.objs.size)).get? (hp.objs.size + 1) = some (instObj cA hp.objs.size) := by rw [← z1]; exact Heap.get?_push_size _ rfl
  have hdx : ((hp.push emptyDict).push (instObj cA hp.objs.size)).get? hp.objs.size = some emptyDict := Heap.get?_push_of_some _ (Heap.get?_push_size _ rfl)
  have z2 : ((hp.push emptyDict).push (instObj cA hp.objs.size)).objs.size = hp.objs.size + 2 := by rw [Heap.size_push, z1]
  generalize hH : (hp.push emptyDict).push (instObj cA hp.objs.size) = H at k0 hx hdx z2 ⊢
  have X1 := X.keeps k0
  have lim : H.NoLimit := (hB.lim.keeps hs.h).keeps k0
  refine codeAny_call_function (by have := hr.depth; show A.depth + 1 < _; lia) (X1 _ _ ho) hdata hco hgen hbody (codeRec_of X1 hcd) ?_
  rw [hbind, hclo]
  have hkd : ∀ x ∈ [(self, Value.ref (hp.objs.size + 1)), (sel, v)], fd.scope.names.lookup x.1 = some .local ∨ (fd.scope.names.lookup x.1 = some .cell ∧ ((cellsFrom (H.objs.size + 1) fd.scope.names []).lookup x.1).isSome = true) := by
    intro x hx
    simp only [List.mem_cons, List.not_mem_nil, or_false] at hx
    rcases hx with rfl | rfl
    · exact .inl h1
    · exact .inl h2
  refine wpAny_pure (wpAny_newFunctionEnv_cells hk hkd fun env he s₁ x => ?_)
  refine ⟨lim.keeps x.toInCall.keep, ?_⟩
  have hkk : ∀ y, env.kindOf y = fd.scope.names.lookup y := fun y => by subst he; rfl
  have hke : env.scope.kind = .function := by subst he; exact hk
  refine k2_1 x.toInCall.same fun h₁ tk₁ hs₁ => ?_
  have hns := x.toInCall.ns
  have hkeep := x.toInCall.keep
  have hab : H.objs.size ≤ env.locals := x.toInCall.fresh
  subst hs₁
  have m1 : bindL env.kindOf [(self, Value.ref (hp.objs.size + 1)), (sel, v)] (fun ž1 => none) self = some (.ref (hp.objs.size + 1)) := by
    unfold bindL
    rw [if_pos ((hkk self).trans h1)]
    unfold bindL
    rw [if_pos ((hkk sel).trans h2)]
    unfold bindL
    simp [hne]
  have m2 : bindL env.kindOf [(self, Value.ref (hp.objs.size + 1)), (sel, v)] (fun ž1 => none) sel = some v := by
    unfold bindL
    rw [if_pos ((hkk self).trans h1)]
    unfold bindL
    rw [if_pos ((hkk sel).trans h2)]
    unfold bindL
    simp
  refine codeAny_func (wpAny_execs_cons (plainObj_wpAny_Assign_Attribute (wpAny_Name (wpAny_loadName_local hke ((hkk sel).trans h2) hns m2 (wpAny_Name (wpAny_loadName_local hke ((hkk self).trans h1) hns m1 ?_) hd1)) hd2) rfl))
  have hx₁ := hkeep _ _ hx
  have hdx₁ := hkeep _ _ hdx
  have F : Fr hp env.locals h₁ _ := ⟨hns, fun b o e => hkeep b o (k0 b o e), Nat.le_trans (by lia) hab⟩
  have hG0 : ∀ b, hp.objs.size ≤ b → hp.get? b = none := fun b hb => by
    cases e : hp.get? b with
    | none => rfl
    | some o => exact absurd (Heap.lt_size e) (Nat.not_lt.mpr hb)
  have nx : hp.objs.size + 1 ≠ env.locals := Nat.ne_of_lt (Nat.lt_of_lt_of_le (by lia) hab)
  have nd : hp.objs.size ≠ env.locals := Nat.ne_of_lt (Nat.lt_of_lt_of_le (by lia) hab)
  have N : News hp env.locals h₁ ([(hp.objs.size + 1, instObj cA hp.objs.size)] ++ (hp.objs.size, emptyDict) :: []) := by
    intro p hp'
    simp only [List.cons_append, List.nil_append, List.mem_cons, List.not_mem_nil, or_false] at hp'
    rcases hp' with rfl | rfl
    · exact ⟨hx₁, nx, hG0 _ (Nat.le_succ _)⟩
    · exact ⟨hdx₁, nd, hG0 _ (Nat.le_refl _)⟩
  have X₂ : C.K.In h₁ := X1.keeps hkeep
  have I : InstAt h₁ (hp.objs.size + 1) (instObj cA hp.objs.size) cA (some emptyDict) := ⟨hx₁, rfl, rfl, hdx₁⟩
  refine set_plain (s := ⟨h₁, g, dr, tk₁, os⟩) X₂ I T.sa ?_
  refine osa_dict (s := ⟨h₁, g, dr, tk₁ + 1, os⟩) (od' := { cls := .type "dict", data := .dict #[⟨PyData.keyHash C.w.params csl, .str csl (tk₁ + 1), v⟩] 1 }) F N X₂ I rfl T.over T.taker T.hasD rfl (fun p hp' => ?_) (fun p hp' => nomatch hp') ?_ rfl (by simp) fun h' F' N' => ?_
  · rw [List.mem_singleton] at hp'; subst hp'; exact Nat.succ_ne_self _
  · exact putName_dict csl _ _ _ [] 0
  · refine wpAny_execs_nil ?_
    refine And.intro rfl fun gr => ?_
    have hxx := (N' (hp.objs.size + 1, instObj cA hp.objs.size) (by simp)).1
    have hdd := (N' (hp.objs.size, { cls := .type "dict", data := .dict #[⟨PyData.keyHash C.w.params csl, .str csl (tk₁ + 1), v⟩] 1 }) (by simp)).1
    have x0 : Ext G ⟨hp, g, dr, tk, os⟩ G ⟨h', g, dr, tk₁ + 1 + 1, os⟩ := Ext.ofKeeps (s := ⟨hp, g, dr, tk, os⟩) (tk := tk₁ + 1 + 1) hs gr F'.keep
    refine k1_3 (x0.freeze (a := hp.objs.size + 1) hxx (Nat.le_succ _)) fun G₁ y1 k1 g1 => ?_
    refine k1_3 (y1.freeze (a := hp.objs.size) hdd (Nat.le_refl _)) fun G₂ y2 k2 g2 => ?_
    exact ⟨G₂, y2, Rep.inst (k2.h _ _ g1) g2 (Rep.mono (k1.trans k2) rv)⟩
end
end
section
section
variable {C : Wd} {d : Nat} {D : Fd} {A : Around} {E : Value → Shared → Prop} {env : Env} {σ : Sig} {s s' : Shared} {G G' : Gh} {Mu : Addr → Prop} {cA fI fC : Addr}
theorem shadow_csl {hh : Int} {t : Tok} {v : Value} {n : Nat} {name : Str} (hn : (Value.str csl 0).isStr name = false) : shadowIn (some { cls := .type "dict", data := .dict #[⟨hh, .str csl t, v⟩] n }) name = some false := by
  have h1 : (Value.str csl t).isStr name = false := by
    have : (Value.str csl t).isStr name = (Value.str csl 0).isStr name := rfl
    rw [this]; exact hn
  unfold shadowIn lookIn
  simp [h1, DictEntry.refKey]
noncomputable def instO (cA : Addr) (Φ : List PV → Option PV) (f : Sig → Option PV) (fs : List (Sig → Option PV)) : Sig → Option PV := fun σ => (f σ).bind fun p => match p with
  | .inst c x => if c = cA then (seqO fs σ).bind fun ps => Φ (.inst c x :: ps) else none
  | _ => none
set_option tactic.hygienic true in
theorem EV.compare {e e1 : Expr} {rest : List Expr} {apos pos : Pos} {f : Sig → Option PV} {fs : List (Sig → Option PV)} {Φ : List PV → Option PV} (T : TC C.K cA fI fC) (hk : keepIn C.K (.ref fC) = true) (h : EV C d D e f) (ha : EVs C d D (e1 :: rest) fs) (hc : CallOK C d (.ref fC) Φ)
    (hn : (e1 :: rest).length < 30 := by decide) (hline : (apos.endLine == pos.line) = true := by rfl) (hsh : (Value.str csl 0).isStr (Str.ofString "compare") = false := by decide)
    (hbase : ∀ env, attributeBase e (Str.ofString "compare") env (eval e env) = eval e env := by intros; rfl) : EV C d D (.Call (.Attribute e (Str.ofString "compare") apos) (e1 :: rest) [] pos) (instO cA Φ f fs) := by
  intro A E env σ s G Mu p hr he hs hf
  obtain ⟨q, hq, hf1⟩ := bind_some hf
  clear hf
  split at hf1
  case h_2 => cases hf1
  case h_1 c x =>
  split at hf1
  rotate_left; cases hf1
  rename_i hcc
  subst hcc
  obtain ⟨ps, hps, hf⟩ := bind_some hf1
  have hfew : ((backTo pos (starEach (e1 :: rest) env)).all (fun x => !x.1) && (backToKw pos (keywordEach [] env)).all (fun x => x.1.isSome)
      && decide ((e1 :: rest).length + ([] : List Keyword).length + (if ([] : List Keyword).isEmpty then 0 else 1) < 30)) = true := by
    rw [all_plain pos ha, kw_nil]
    simpa using hn
  rw [arm_eval_Call, hbase]
  refine wpAny_bind (bind2 h hr he hs hq fun v s₁ G₁ x₁ r₁ S₁ => ?_)
  refine wpAny_bind (wpAny_standAt ?_)
  have hform : methodCallForm ((e1 :: rest).length + ([] : List Keyword).length) (backTo pos (starEach (e1 :: rest) env)) (backToKw pos (keywordEach [] env)) = true := hfew
  have hpos : methodCallPos true e env apos pos = pure pos := by unfold methodCallPos; simp [hline]
  unfold methodCall
  rw [hform]
  have X := S₁.base.X.keeps S₁.sub.h
  have key : ∀ Q : Value × List Value → Shared → Prop, Q (.ref fC, [v]) s₁ → ∀ pl, wpAny C.M A (getMethod v (Str.ofString "compare") pl) Q E s₁ := by
    intro Q hQ pl
    · obtain ⟨a, dx, n, hsh', t, u, rfl, h1, h2, h3⟩ := r₁.sh
      exact method_fn X (inst_at (S₁.sub.h _ _ h1) (S₁.sub.h _ _ h2)) T.ga T.gt T.cmp T.cmpF (shadow_csl hsh) hQ
  refine wpAny_bind (wpAny_holding (key _ ?_ _))
  refine wpAny_bind (wpAny_of_eq hpos ?_)
  cases ha with
  | @cons _ _ _ fs' h1 hst h2 =>
    refine callWith_K X hk ?_ (hst _ _) (any_star pos h2)
    refine wpAny_mono (spliced_ok (.cons h1 hst h2) hr he S₁ hps) (fun vs s₂ ⟨G₂, x₂, r₂⟩ => ?_) fun ž1 ž2 h => h
    have S₂ := S₁.ext x₂
    exact ⟨S₂.base.X.keeps S₂.sub.h, wpAny_mono (hc A E s₂ G₂ (v :: vs) (_ :: ps) p hr S₂.base S₂.sub (.cons (Rep.mono x₂.sub r₁) r₂) hf) (fun v s₃ h => Done.after (x₁.trans x₂) h) fun ž1 ž2 h => h⟩
noncomputable def cslO (cA : Addr) : PV → Option PV
  | .inst c (.lst xs) => if c = cA then some (.lst xs) else none
  | .inst c (.tup xs) => if c = cA then some (.tup xs) else none
  | _ => none
theorem EV.attrCsl {x : Str} {np pos : Pos} {f : Sig → Option PV} (T : TC C.K cA fI fC) (h : EV C d D (.Name x np) f) : EV C d D (.Attribute (.Name x np) csl pos) (fun σ => (f σ).bind (cslO cA)) := by
  intro A E env σ s G Mu p hr he hs hf
  obtain ⟨q, hq, hf1⟩ := bind_some hf
  clear hf
  rw [arm_eval_Attribute]
  have e1 : attributeBase (.Name x np) csl env (eval (.Name x np) env) = eval (.Name x np) env := rfl
  rw [e1]
  refine wpAny_bind (bind2 h hr he hs hq fun v s₁ G₁ x₁ r₁ S₁ => wpAny_bind (wpAny_standAt (wpAny_bind (wpAny_holding ?_))))
  have fin : ∀ r, q = .inst cA p → (∀ u, C.Rep G₁ u p → handedIn u = true) → r = true → wpAny C.M A (getAttr v csl true) (fun r s₂ => wpAny C.M A (letTemporaryGo (.Name x np) v r >>= fun ž1 => pure r) (Done C G s p) E s₂) E s₁ := by
    intro r hq' hh _
    subst hq'
    refine wpAny_mono (getcsl_ok T S₁.base S₁.sub r₁ hh) (fun r s₂ hd => ?_) fun ž1 ž2 h => h
    have e2 : letTemporaryGo (.Name x np) v r = pure () := rfl
    rw [e2]
    exact wpAny_bind (wpAny_pure (wpAny_pure (Done.after x₁ hd)))
  unfold cslO at hf1
  split at hf1
  · split at hf1
    · rename_i hc; subst hc; cases hf1
      exact fin true rfl (fun u hu => by cases hu; rfl) rfl
    · cases hf1
  · split at hf1
    · rename_i hc; subst hc; cases hf1
      exact fin true rfl (fun u hu => by cases hu; rfl) rfl
    · cases hf1
  · cases hf1
end
end
section
theorem zip_none : ∀ (xs : List Str) (vals : List Value), vals.length = xs.length → xs.filter (fun n => ((xs.zip vals).lookup n).isNone) = []
  | xs, vals, h => by
    rw [List.filter_eq_nil_iff]
    intro a ha
    suffices ((xs.zip vals).lookup a).isSome = true by rw [Option.isNone_iff_eq_none]; intro q; rw [q] at this; exact nv4 this
    induction xs generalizing vals with
    | nil => cases ha
    | cons x xs ih =>
      cases vals with
      | nil => cases h
      | cons v vals =>
        rw [List.zip_cons_cons, List.lookup_cons]
        cases q : a == x with
        | true => rfl
        | false =>
          refine ih vals (Nat.succ.inj h) ?_
          refine Or.elim (List.mem_cons.mp ha) (fun e => ?_) fun e => ?_
          · rw [e, beq_self_eq_true] at q; exact nv3 q
          · exact e
theorem fm_congr {α β : Type} {f g : α → Option β} : ∀ {l : List α}, (∀ a ∈ l, f a = g a) → l.filterMap f = l.filterMap g
  | [], _ => rfl
  | a :: l, h => by rw [List.filterMap_cons, List.filterMap_cons, h a (.head _), fm_congr fun b hb => h b (.tail _ hb)]
theorem zip_map : ∀ (xs : List Str) (vals : List Value), xs.Nodup → vals.length = xs.length → xs.filterMap (fun n => ((xs.zip vals).lookup n).map (n, ·)) = xs.zip vals := by
  intro xs
  induction xs with
  | nil => intro vals _ _; rfl
  | cons x xs ih =>
    intro vals hn h
    cases vals with
    | nil => cases h
    | cons v vals =>
      rw [List.nodup_cons] at hn
      rw [List.filterMap_cons, List.zip_cons_cons, List.lookup_cons, beq_self_eq_true]
      show (x, v) :: _ = _
      congr 1
      refine Eq.trans (fm_congr fun n hm => ?_) (ih vals hn.2 (Nat.succ.inj h))
      rw [List.lookup_cons]
      cases q : n == x with
      | false => rfl
      | true => rw [beq_iff_eq] at q; exact absurd (q ▸ hm) hn.1
theorem bind_plain {fd : FuncData} {xs : List Str} {vals : List Value} (hp : plainPs fd.params xs = true) (h2 : fd.defaults = .none) (hn : xs.Nodup) (hl : vals.length = xs.length) : bindArgs fd ⟨vals, []⟩ = pure (xs.zip vals) := by
  unfold plainPs at hp
  simp only [Bool.and_eq_true, List.isEmpty_iff, Option.isNone_iff_eq_none, beq_iff_eq] at hp
  (refine k0_2 hp fun ž1 => ?_; obtain ⟨⟨⟨a1, a2⟩, a3⟩, a4⟩ := ž1; intro a5)
  have e0 : seqItems? (.none : Value) = pure none := rfl
  unfold bindArgs
  simp only [a1, a2, a3, a4, a5, h2, e0, List.map_nil, List.nil_append, List.append_nil, hl, Nat.lt_irrefl, Option.isNone_none, gt_iff_lt, decide_false, Bool.false_and, pure_bind, bind_pure_comp, List.forIn_nil, Bool.false_eq_true, Option.getD_none, List.drop_nil, List.length_nil, Nat.sub_zero, List.drop_length, List.zip_nil_left, List.take_length, List.isEmpty_nil, Bool.not_true, reduceIte, zip_none xs vals hl]
  exact congrArg (pure (f := Sem)) (zip_map xs vals hn hl)
set_option tactic.hygienic true in
theorem fn_ok' {C : Wd} {d : Nat} {D : Fd} {st : Option Stmt} {a : Addr} {F : Sig → Option (Fl × Sig)} {Φ : List PV → Option PV} (params : List Str) (hs : fnSees C.K a = stFn st) (ok : stOk params st = true)
    (hD : D.names = stNames st) (hinj : (D.nm.map (·.2)).Nodup) (hnd : params.Nodup)
    (hpar : ∀ x i, D.nm.lookup x = some i → i < params.length → params[i]? = some x) (hkind : ∀ x ∈ params, D.names.lookup x = some .local ∨ D.names.lookup x = some .cell) (hfree : ∀ x, D.names.lookup x ≠ some .free)
    (hEX : EX C d D (stBody st) F) (hΦ : ∀ qs p, Φ qs = some p → qs.length = params.length ∧ ∃ σ', F (argSig qs) = some (.ret p, σ')) (hcode : ∀ c, D.cd = some c → fnCd C.K a = .ref c) : CallOK C (d + 1) (.ref a) Φ := by
  unfold fnSees at hs
  unfold stOk at ok
  split at ok
  case h_2 => exact nv4 ok
  case h_1 n ps body dl rt tp sc ts bd pos =>
  simp only [Bool.and_eq_true, Bool.not_eq_true', beq_iff_eq] at ok
  (refine k0_2 ok fun ž1 => ?_; obtain ⟨⟨k1, k2⟩, k3⟩ := ž1; intro k4)
  split at hs
  case h_2 => exact nv1 hs
  case h_1 o1 o2 fd o3 ho =>
  have hs : some _ = some _ := hs
  simp only [Option.some.injEq, Prod.mk.injEq] at hs
  (refine k0_5 hs fun e1 e2 e3 ž4 => ?_; obtain ⟨e4, e5, e6, e7, e8, e10⟩ := ž4; intro e9)
  exact fn_ok (C := C) (d := d) (D := D) (body := body) (F := F) params ho rfl e9 e1 e4 e5 e6 (hD.trans (by rw [e3]; rfl)) hinj hnd (fun vals hl => bind_plain (by rw [e2]; exact k1) e7 hnd hl) hpar hkind hfree hEX hΦ (fun c e => by have := hcode c e; unfold fnCd at this; rw [ho] at this; exact this) (by rw [e3]; exact k2) (by rw [e3]; exact k3) (by rw [e3]; exact k4)
end
section
section
variable {C : Wd} {d : Nat} {D : Fd} {A : Around} {E : Value → Shared → Prop} {env : Env} {σ σ' : Sig} {s s' : Shared} {G G' : Gh} {Mu : Addr → Prop}
noncomputable def oinO (i : Nat) (f : Sig → Option PV) : Sig → Option Bool := fun σ => (f σ).bind fun k => (σ i).bind fun lv => match lv with
  | .od es => (DKof k).map fun kk => (lookD es kk).isSome
  | _ => none
theorem IT.oin {l : Expr} {x : Str} {np pos : Pos} {f : Sig → Option PV} (i : Nat) (hi : D.Inj) (hx : D.nm.lookup x = some i) (h1 : EV C d D l f) (hd : (x == ("__debug__" : Str)) = false := by rfl) (hc : (x == ("__classdict__" : Str)) = false := by rfl) (hm : behindInMarks .In (.Name x np) = false := by rfl) :
    IT C d D (.Compare l [.In] [.Name x np] pos) (oinO i f) := by
  intro A E env σ s G Mu b hr he hs hf
  refine k1_2 (bind_some hf) fun k hk hf => ?_
  refine k1_2 (bind_some hf) fun lv hlv hf => ?_
  cases lv with
  | pv _ => exact nv1 hf
  | ol _ => exact nv1 hf
  | od es =>
    (refine k1_2 (Option.map_eq_some_iff.mp hf) fun kk hkk ž3 => ?_; subst ž3)
    refine wpAny_isTrue_Compare1 (bind2 h1 hr he hs hk fun v s₁ G₁ x₁ r₁ S₁ => ?_) hm
    refine k1_4 (own_at S₁ he hi hx hlv rfl hc) fun a ha hl hread hmore => ?_
    refine wpAny_Name (hread _ _ _ ?_) hd
    obtain ⟨_, _, hsy, kvs, hdd, hrr⟩ := hl
    refine wpAny_in_of (DKof_is r₁ hkk) hsy hdd.mapOf (wpAny_truthy_bool ⟨G₁, x₁.trans (Ext.toks S₁.sub (Nat.le_succ _)), ?_⟩)
    rcases hrr.look kk with ⟨q1, q2⟩ | ⟨p, v, q1, q2, _⟩
    · rw [q1, q2]; rfl
    · rw [q1, q2]; rfl
noncomputable def dct1O (f g : Sig → Option PV) : Sig → Option PV := fun σ => (f σ).bind fun a => (g σ).bind fun b => (DKof a).map fun kk => .dct [(kk, b)]
theorem EV.dict1 {k v : Expr} {pos : Pos} {f g : Sig → Option PV} (h1 : EV C d D k f) (h2 : EV C d D v g) : EV C d D (.Dict [some k] [v] pos) (dct1O f g) := by
  intro A E env σ s G Mu p hr he hS hf
  refine k1_2 (bind_some hf) fun a ha hf => ?_
  refine k1_2 (bind_some hf) fun b hb hf => ?_
  (refine k1_2 (Option.map_eq_some_iff.mp hf) fun kk hkk ž3 => ?_; subst ž3)
  clear hf
  refine wpAny_Dict_pairs (knd := C.dk) (pairs := [(eval k env, do let x ← eval v env; standAt pos; pure x)]) rfl (by simp) (by simp) ?_
  have x0 : Ext G s G { s with heap := s.heap.push { cls := .type "dict", data := .dict #[] } } := Ext.push (tk := s.toks) hS.sub (Nat.le_refl _) _
  have hd0 : Heap.DictOf C.dk (s.heap.push { cls := .type "dict", data := .dict #[] }) s.heap.objs.size [] := dictOf_new (Heap.get?_push_size _ rfl)
  have z0 : (s.heap.push { cls := .type "dict", data := .dict #[] }).objs.size = s.heap.objs.size + 1 := Heap.size_push ..
  have S0 := hS.ext x0
  have gn : G.h.get? s.heap.objs.size = none := gNone hS.sub (Nat.le_refl _)
  generalize hH : s.heap.push { cls := .type "dict", data := .dict #[] } = H at x0 hd0 z0 S0 ⊢
  refine wpAny_bind (bind2 h1 hr he S0 ha fun kv s₁ G₁ x₁ r₁ S₁ => wpAny_bind (wpAny_holding (wpAny_bind (bind2 h2 hr he S₁ hb fun vv s₂ G₂ x₂ r₂ S₂ => wpAny_bind (wpAny_standAt (wpAny_pure ?_))))))
  refine wpAny_bind (wpAny_holding ?_)
  show wpAny _ _ (pure []) _ _ _
  refine wpAny_pure (wpAny_pure ?_)
  refine ⟨[(kk, vv)], ⟨DKof_is (Rep.mono x₂.sub r₁) hkk, rfl, trivial⟩, (x₁.trans x₂).dictOf hd0, fun h' hd' hs' => ?_⟩
  have x12 := x₁.trans x₂
  have gn2 : G₂.h.get? s.heap.objs.size = none := by
    cases q : G₂.h.get? s.heap.objs.size with
    | none => rfl
    | some o =>
      refine Or.elim (x12.new _ _ q) (fun e => ?_) fun e => ?_
      · rw [gn] at e; exact nv1 e
      · rw [z0] at e; exact absurd e (Nat.not_succ_le_self _)
  have x3 := ext_done (x0.trans x12) (Nat.le_refl _) gn2 (let ⟨_, _, _, ha, _, hb', _⟩ := (x₁.trans x₂).dictOf hd0; x12.inn.ne_tab ha (isTab_dict hb')) hs'
  have x4 := x3.trans (Ext.toks (s := { s₂ with heap := h' }) x3.inn (tk := s₂.toks + 1) (Nat.le_succ _))
  refine k3_4 hd' fun o es ep ho hc hda r' => ?_
  refine k1_3 (x4.freeze (a := s.heap.objs.size) ho (Nat.le_refl _) (isTab_dict hda)) fun G₃ x5 k5 g5 => ?_
  exact ⟨G₃, x5, .dct (kvs := [(kk, vv)]) ⟨o, es, ep, g5, hc, hda, r'⟩ (not_sys hS.base hS.sub (Nat.le_refl _)) (.cons (Rep.mono k5 r₂) .nil)⟩
end
end
section
noncomputable def ptO (f : Sig → Option PV) : Sig → Option (Option Int) := fun σ => (f σ).bind fun p => match p with
    | .int i => some (some i)
    | _ => none
noncomputable def noO : Sig → Option (Option Int) := fun ž1 => some none
noncomputable def truF (f : Sig → Option PV) : Sig → Option Bool := fun σ => (f σ).bind truO
noncomputable def negF (f : Sig → Option PV) : Sig → Option PV := fun σ => (f σ).bind negO
noncomputable def cslF (c : Addr) (f : Sig → Option PV) : Sig → Option PV := fun σ => (f σ).bind (cslO c)
noncomputable def itF (f : Sig → Option PV) : Sig → Option (List PV) := fun σ => (f σ).bind iterO
noncomputable def valsF (f : Sig → Option PV) : Sig → Option (List PV) := fun σ => (f σ).bind valuesO
noncomputable def itemsF (f : Sig → Option PV) : Sig → Option (List PV) := fun σ => (f σ).bind itemsO
noncomputable def enumF (f : Sig → Option PV) : Sig → Option (List PV) := fun σ => (f σ).bind enumO
noncomputable def augF (op : Operator) (i : Nat) (f : Sig → Option PV) : Sig → Option (Fl × Sig) := setF i fun σ => (vv i σ).bind fun a => (f σ).bind fun b => PV.inp op a b
noncomputable def loopF (f : Sig → Option (List PV)) (k : PV → Sig → Option Sig) (F : Sig → Option (Fl × Sig)) : Sig → Option (Fl × Sig) := fun σ => (f σ).bind fun xs => forF k F xs σ
noncomputable def dctP (os : List PV) : PV := .dct (dctOf os)
noncomputable def runF (n : Nat) (F : Sig → Option (Fl × Sig)) (ps : List PV) : Option PV := if ps.length = n then (F (argSig ps)).bind fun r => match r.1 with
    | .ret p => some p
    | _ => none
  else none
theorem runF_ret {n : Nat} {F : Sig → Option (Fl × Sig)} : ∀ qs p, runF n F qs = some p → qs.length = n ∧ ∃ σ', F (argSig qs) = some (.ret p, σ') := by
  intro qs p h
  unfold runF at h
  refine ite_k h (fun _ h => ?_) fun _ h => ?_
  · rename_i hl
    (refine k1_2 (bind_some h) fun ž1 => ?_; obtain ⟨fl, σ'⟩ := ž1; intro h1 h2)
    refine ⟨hl, σ', ?_⟩
    cases fl <;> first | (cases h2; exact h1) | exact nv1 h2
  · exact nv1 h
section
variable {C : Wd} {d : Nat} {D : Fd}
theorem PT.at' {e : Expr} {f : Sig → Option PV} (h : EV C d D e f) : PT C d D (some e) (ptO f) := PT.at h
theorem PT.no' : PT C d D none noO := PT.no
theorem EV.call {x : Str} {np pos : Pos} {e : Expr} {rest : List Expr} {f : Value} {Φ : List PV → Option PV} {fs : List (Sig → Option PV)} (hc : CallOK C d f Φ) (hv : nsIn C.K mainGlobals x = some (some f)) (hk : keepIn C.K f = true) (ha : EVs C d D (e :: rest) fs)
    (hx : D.names.lookup x = some .globalImplicit) (hd : (x == ("__debug__" : Str)) = false) : EV C d D (.Call (.Name x np) (e :: rest) [] pos) (callO Φ fs) := EV.callK hx hv hk hd hc ha
end
end
section
theorem par_ok (D : Fd) (params : List Str) (h : (D.nm.all fun e => !decide (e.2 < params.length) || (params[e.2]? == some e.1)) = true) : ∀ x i, D.nm.lookup x = some i → i < params.length → params[i]? = some x := by
  intro x i hx hi
  have hm := mem_of_lookup hx
  have := List.all_eq_true.mp h _ hm
  simp only [Bool.or_eq_true, Bool.not_eq_true', decide_eq_false_iff_not, beq_iff_eq] at this
  refine Or.elim this (fun q => ?_) fun q => ?_
  · exact absurd hi q
  · exact q
theorem kind_ok (D : Fd) (params : List Str) (h : (params.all fun x => D.names.lookup x == some .local || D.names.lookup x == some .cell) = true) : ∀ x ∈ params, D.names.lookup x = some .local ∨ D.names.lookup x = some .cell := by
  intro x hx
  have := List.all_eq_true.mp h _ hx
  simpa only [Bool.or_eq_true, beq_iff_eq] using this
theorem free_ok (D : Fd) (h : (D.names.all fun e => !(e.2 == .free)) = true) : ∀ x, D.names.lookup x ≠ some .free := by
  intro x hx
  have := List.all_eq_true.mp h _ (mem_of_lookup hx)
  simp at this
structure ESw (C : Wd) (d : Nat) (D : Fd) (st : Stmt) (F : Sig → Option (Fl × Sig)) : Prop where
  ok : ES C d D st F
structure EXw (C : Wd) (d : Nat) (D : Fd) (b : List Stmt) (F : Sig → Option (Fl × Sig)) : Prop where
  ok : EX C d D b F
section
variable {C : Wd} {d : Nat} {D : Fd}
theorem EXw.nil : EXw C d D [] nextF := ⟨EX.nil⟩
theorem EXw.cons {st : Stmt} {rest : List Stmt} {F H : Sig → Option (Fl × Sig)} (h1 : ESw C d D st F) (h2 : EXw C d D rest H) : EXw C d D (st :: rest) (seqF F H) := ⟨EX.cons h1.ok h2.ok⟩
theorem EXw.freeze {b : List Stmt} {F : Sig → Option (Fl × Sig)} (x : Str) (i : Nat) (hx : D.nm.lookup x = some i) (h : EXw C d D b F) : EXw C d D b (frz i F) := ⟨EX.freeze i hx h.ok⟩
theorem EXw.body {b b' : List Stmt} {F : Sig → Option (Fl × Sig)} (e : b = b') (h : EXw C d D b' F) : EXw C d D b F := e ▸ h
theorem fn_okw {st : Option Stmt} {a : Addr} {F : Sig → Option (Fl × Sig)} (params : List Str) (hs : fnSees C.K a = stFn st) (ok : stOk params st = true)
    (hD : D.names = stNames st) (hinj : (D.nm.map (·.2)).Nodup) (hnd : params.Nodup)
    (hpar : (D.nm.all fun e => !decide (e.2 < params.length) || (params[e.2]? == some e.1)) = true) (hkind : (params.all fun x => D.names.lookup x == some .local || D.names.lookup x == some .cell) = true) (hfree : (D.names.all fun e => !(e.2 == .free)) = true)
    (hEX : EXw C d D (stBody st) F) (hcode : ∀ c, D.cd = some c → fnCd C.K a = .ref c := by (intro c e; cases e)) : CallOK C (d + 1) (.ref a) (runF params.length F) :=
  fn_ok' params hs ok hD hinj hnd (par_ok D params hpar) (kind_ok D params hkind) (free_ok D hfree) hEX.ok runF_ret hcode
end
theorem swapsSole_env {D : Fd} {env : Env} (he : EnvOk D env) (t value : Expr) (line : Nat) : swapsWithSole [t] value line env = swapsWithSole [t] value line (env0 D) := swapsWith_env he value (some t) line
end
section
set_option tactic.hygienic true in
theorem new_ok' {C : Wd} {d : Nat} {cA fI fC : Addr} {st : Option Stmt} {self sel : Str} {np ap vp pos : Pos} (T : TC C.K cA fI fC) (hs : fnSees C.K fI = stFn st) (ok : stOk [self, sel] st = true)
    (hb : stBody st = [.Assign [.Attribute (.Name self np) csl ap] (.Name sel vp) pos]) (hne : self ≠ sel) (h1 : (stNames st).lookup self = some .local) (h2 : (stNames st).lookup sel = some .local) (hd1 : (self == ("__debug__" : Str)) = false) (hd2 : (sel == ("__debug__" : Str)) = false) :
    CallOK C (d + 1) (.ref cA) (newΦ cA) := by
  unfold fnSees at hs
  unfold stOk at ok
  split at ok
  case h_2 => exact nv4 ok
  case h_1 n ps body dl rt tp sc ts bd p =>
  simp only [Bool.and_eq_true, Bool.not_eq_true', beq_iff_eq] at ok
  (refine k0_2 ok fun ž1 => ?_; obtain ⟨⟨k1, k2⟩, k3⟩ := ž1; intro k4)
  split at hs
  case h_2 => exact nv1 hs
  case h_1 o1 o2 fd o3 ho =>
  have hs : some _ = some _ := hs
  simp only [Option.some.injEq, Prod.mk.injEq] at hs
  (refine k0_5 hs fun e1 e2 e3 ž4 => ?_; obtain ⟨e4, e5, e6, e7, e8, e10⟩ := ž4; intro e9)
  have hb : body = _ := hb
  refine new_ok T ho rfl e9 (e1.trans (by rw [hb])) e4 (fun u v => ?_) hne (by rw [e3]; exact h1) (by rw [e3]; exact h2) hd1 hd2 (by rw [e3]; exact k2) (by rw [e3]; exact k3) (by rw [e3]; exact k4)
  exact bind_plain (xs := [self, sel]) (vals := [u, v]) (by rw [e2]; exact k1) e7 (by simp [hne]) rfl
end
section
section
variable {C : Wd} {d : Nat} {D : Fd} {A : Around} {E : Value → Shared → Prop} {env : Env} {σ : Sig} {s s' : Shared} {G G' : Gh} {Mu : Addr → Prop}
noncomputable def intsO : List PV → Option (List Int)
  | [] => some []
  | .int a :: r => (intsO r).map (a :: ·)
  | _ => none
set_option tactic.hygienic true in
theorem intsO_rep {vs : List Value} {xs : List PV} {ns : List Int} (h : C.RepL G vs xs) (hn : intsO xs = some ns) : ∃ ps : List (Int × Tok), vs = ps.map (fun p => .int p.1 p.2) ∧ ps.map (·.1) = ns := by
  induction vs generalizing xs ns with
  | nil => cases h; obtain rfl := sj hn; exact ⟨[], rfl, rfl⟩
  | cons v vs ih =>
    cases h with
    | @cons _ _ q _ h1 h2 =>
      unfold intsO at hn
      split at hn
      · rename_i he; cases he
      · rename_i a r he
        injection he with e1 e2
        subst e1 e2
        (refine k1_2 (Option.map_eq_some_iff.mp hn) fun m hm ž3 => ?_; subst ž3)
        (refine k1_2 (ih h2 hm) fun ps ž2 => ?_; subst ž2; intro ž3; subst ž3)
        (refine k1_1 h1.sh fun t ž2 => ?_; subst ž2)
        exact ⟨(a, t) :: ps, rfl, rfl⟩
      · exact nv1 hn
noncomputable def isK (k : Int) : Value → Bool
  | .int a _ => a == k
  | _ => false
open SeqAt in
theorem isK_eqAt {k : Int} {t : Tok} {A : Around} {s : Shared} {ps : List (Int × Tok)} : ∀ y, y ∈ (ps.map fun p => Value.int p.1 p.2).toArray → EqAt A s y (.int k t) (isK k y) := by
  intro y hy
  rw [List.mem_toArray, List.mem_map] at hy
  (refine k1_2 hy fun p _ ž3 => ?_; subst ž3)
  exact EqAt.int_int _ _ _ _
theorem isK_count (k : Int) : ∀ (ps : List (Int × Tok)), (ps.map fun p => Value.int p.1 p.2).countP (isK k) = (ps.map (·.1)).count k
  | [] => rfl
  | p :: ps => by
    rw [List.map_cons, List.map_cons, List.countP_cons, List.count_cons, isK_count k ps]
    rfl
noncomputable def lcntΦ : List PV → Option PV
  | [.lst xs, .int k] => (intsO xs).map fun ns => .int (ns.count k : Nat)
  | _ => none
noncomputable def tcntΦ : List PV → Option PV
  | [.tup xs, .int k] => (intsO xs).map fun ns => .int (ns.count k : Nat)
  | _ => none
theorem count_list_ok : CallOK C d (.builtin "list.count") lcntΦ := by
  intro A E s G vs ps p hr hb hs hv h
  unfold lcntΦ at h
  split at h
  · (refine k1_2 (Option.map_eq_some_iff.mp h) fun ns hn ž3 => ?_; subst ž3)
    (refine k2_3 hv.inv2 fun _ _ ž3 => ?_; subst ž3; intro h1 h2)
    (refine k2_3 h1.sh fun a us ž3 => ?_; subst ž3; intro hp hr')
    (refine k1_1 h2.sh fun t ž2 => ?_; subst ž2)
    refine k1_1 (PlainList.sub hp hs.h) fun n ho => ?_
    (refine k1_2 (intsO_rep hr' hn) fun qs ž2 => ?_; subst ž2; intro ž3; subst ž3)
    refine call_meets F.slot_list_count ⟨_, ho, rfl⟩ F.entry_list_count (F.args_list_count_2 _ _) (SeqAt.list_countAt a _ n none #[] _ (isK _)) ⟨ho, isK_eqAt, ?_⟩
    show Done C G s _ _ _
    rw [← isK_count]
    exact done_val hs (.int _ _) (Nat.le_succ _)
  · exact nv1 h
theorem count_tup_ok : CallOK C d (.builtin "tuple.count") tcntΦ := by
  intro A E s G vs ps p hr hb hs hv h
  unfold tcntΦ at h
  split at h
  · (refine k1_2 (Option.map_eq_some_iff.mp h) fun ns hn ž3 => ?_; subst ž3)
    (refine k2_3 hv.inv2 fun _ _ ž3 => ?_; subst ž3; intro h1 h2)
    (refine k2_3 h1.sh fun a us ž3 => ?_; subst ž3; intro hp hr')
    (refine k1_1 h2.sh fun t ž2 => ?_; subst ž2)
    refine k1_1 (hp.sub hs.h) fun n ho => ?_
    (refine k1_2 (intsO_rep hr' hn) fun qs ž2 => ?_; subst ž2; intro ž3; subst ž3)
    refine call_meets F.slot_tuple_count ⟨_, ho, rfl⟩ F.entry_tuple_count (F.args_tuple_count_2 _ _) (SeqAt.tuple_countAt a _ n none #[] _ (isK _)) ⟨ho, isK_eqAt, ?_⟩
    show Done C G s _ _ _
    rw [← isK_count]
    exact done_val hs (.int _ _) (Nat.le_succ _)
  · exact nv1 h
noncomputable def absΦ : List PV → Option PV
  | [.int a] => some (.int (if a < 0 then -a else a))
  | _ => none
theorem abs_ok : CallOK C d (.builtin "abs") absΦ := by
  intro A E s G vs ps p hr hb hs hv h
  unfold absΦ at h
  split at h
  · obtain rfl := sj h
    (refine k1_2 hv.inv1 fun _ ž2 => ?_; subst ž2; intro h1)
    (refine k1_1 h1.sh fun t ž2 => ?_; subst ž2)
    exact wpAny_grown (call_abs_int fun u tk gr => done_val hs (.int _ _) gr.toks)
  · exact nv1 h
end
end
section
section
variable {C : Wd} {d : Nat} {D : Fd} {A : Around} {E : Value → Shared → Prop} {env : Env} {σ : Sig} {s s' : Shared} {G G' : Gh} {Mu : Addr → Prop}
theorem extend_plain {l b : Addr} {items items2 : Array Value} {Q : Value → Shared → Prop} (hl : s.heap.PlainList l items) (hb : s.heap.PlainList b items2) (hz : items.size + items2.size ≤ 131072)
    (hQ : ∀ h', h'.PlainList l (items ++ items2) → Heap.SameBut l s.heap h' → Q .none { s with heap := h' }) : wpAny C.M A (call (.builtin "list.extend") [.ref l, .ref b]) Q E s := by
  refine k1_1 hl fun n ho => ?_
  refine k1_1 hb fun m ho2 => ?_
  have hs : items.size + items2.size ≤ sizeLine := by rw [sizeLine_eq]; lia
  have hdoor : ¬(!items.isEmpty && Builtin.List.listTooLong (items.size + items2.size)) = true := by
    have : Builtin.List.listTooLong (items.size + items2.size) = false := by
      unfold Builtin.List.listTooLong
      exact decide_eq_false (by lia)
    rw [this, Bool.and_false]
    exact Bool.false_ne_true
  refine call_meets F.slot_list_extend ⟨_, ho, rfl⟩ F.entry_list_extend (F.args_list_extend_2 _ _) (AutoSeq1.list_extend_list_list_0 l items n b items2 m hdoor (by lia) (by lia)) ⟨ho, ho2, ?_⟩
  refine hQ _ ?_ (Heap.SameBut.update ..)
  refine ⟨if (items ++ items2).size == items.size then n else n + 1, ?_⟩
  rw [Heap.get?_update_self _ ho rfl]
  simp [Obj.mapSeq]
noncomputable def extO (i : Nat) (f : Sig → Option PV) : Sig → Option (Fl × Sig) := fun σ => (σ i).bind fun lv => (f σ).bind fun p => match lv, p with
  | .ol xs, .lst ys => if xs.length + ys.length ≤ 65536 then some (.next, σ.set i (.ol (xs ++ ys))) else none
  | _, _ => none
theorem ES.extend {x : Str} {np apos cpos pos : Pos} {e : Expr} {f : Sig → Option PV} (i : Nat) (hx : D.nm.lookup x = some i) (h : EVs C d D [e] [f]) (hd : (x == ("__debug__" : Str)) = false := by rfl) (hc : (x == ("__classdict__" : Str)) = false := by rfl)
    (hline : (apos.endLine == cpos.line) = true := by rfl) (hbase : ∀ env, attributeBase (.Name x np) (Str.ofString "extend") env (eval (.Name x np) env) = eval (.Name x np) env := by intros; rfl) :
    ES C d D (.Expr (.Call (.Attribute (.Name x np) (Str.ofString "extend") apos) [e] [] cpos) pos) (extO i f) := by
  intro A E env σ s G Mu r σ' hr he hi hS hF
  refine k1_2 (bind_some hF) fun lv hlv hF => ?_
  refine k1_2 (bind_some hF) fun p hp hF => ?_
  cases lv with
  | pv _ => exact nv1 hF
  | od _ => exact nv1 hF
  | ol xs =>
  cases p with
  | lst ys =>
    dsimp only at hF
    refine ite_k hF (fun _ hF => ?_) fun _ hF => ?_
    · rename_i hz
      cases hF
      refine k1_4 (own_at hS he hi hx hlv rfl hc) fun a ha hl hread hmore => ?_
      have hps : seqO [f] σ = some [.lst ys] := by simp [seqO, hp]
      have hfew : ((backTo cpos (starEach [e] env)).all (fun x => !x.1) && (backToKw cpos (keywordEach [] env)).all (fun x => x.1.isSome)
        && decide ([e].length + ([] : List Keyword).length + (if ([] : List Keyword).isEmpty then 0 else 1) < 30)) = true := by
        rw [all_plain cpos h, kw_nil]; rfl
      refine wpAny_Expr_any (wpAny_Call_method_lateS (hbase env) hfew hline (wpAny_Name (hread _ _ _ ?_) hd)) (by unfold interactive; rw [he.kind]; rfl) rfl
      obtain ⟨_, hMa, vs, ⟨n, hpl⟩, hrl⟩ := hl
      refine ⟨"list", "list.extend", F.plainAttrs_list, F.slot_list_extend, F.type_list_extend, ⟨_, hpl, rfl⟩, fun b e => by cases e; exact ⟨_, hpl, rfl⟩, callWith_builtin (any_star cpos h) (args_ok h hr he hS hps fun vs' s₁ G₁ x₁ r₁ => ?_)⟩
      (refine k0_2 (hmore s₁ G₁ x₁) fun ž1 => ?_; obtain ⟨_, _, vs₁, hpl₁, hrl₁⟩ := ž1; intro hput)
      (refine k1_2 r₁.inv1 fun v ž2 => ?_; subst ž2; intro r1)
      (refine k2_3 r1.sh fun b us ž3 => ?_; subst ž3; intro hpb hrb)
      have l1 := hrl₁.length
      have l2 := hrb.length
      refine extend_plain hpl₁ (PlainList.sub hpb x₁.inn.h) (by rw [List.size_toArray, List.size_toArray]; lia) (fun h' hp' hs' => ?_)
      have hl' : LRep C G₁ h' Mu a (.ref a) (.ol (xs ++ ys)) := by
        refine ⟨rfl, ha, vs₁ ++ us, ?_, RepL.append hrl₁ hrb⟩
        have : (vs₁ ++ us).toArray = vs₁.toArray ++ us.toArray := by simp
        rw [this]; exact hp'
      refine k0_2 (hput h' s₁.toks _ hs' (Nat.le_refl _) hl' rfl) fun S₂ e₂ => ?_
      exact ⟨G₁, Mu, (Ext.toM x₁).trans e₂, S₂, trivial⟩
    · exact nv1 hF
  | _ => exact nv1 hF
end
end
section
section
variable {C : Wd} {d : Nat} {D : Fd} {A : Around} {E : Value → Shared → Prop} {env : Env} {σ : Sig} {s s' : Shared} {G G' : Gh} {Mu : Addr → Prop}
noncomputable def strsO : List PV → Option (List Str)
  | [] => some []
  | .str a :: r => (strsO r).map (a :: ·)
  | _ => none
set_option tactic.hygienic true in
theorem strsO_rep {vs : List Value} {xs : List PV} {ns : List Str} (h : C.RepL G vs xs) (hn : strsO xs = some ns) : ∃ l : List (Str × Tok), vs = strValues l ∧ l.map (·.1) = ns := by
  induction vs generalizing xs ns with
  | nil => cases h; obtain rfl := sj hn; exact ⟨[], rfl, rfl⟩
  | cons v vs ih =>
    cases h with
    | @cons _ _ q _ h1 h2 =>
      unfold strsO at hn
      split at hn
      · rename_i he; cases he
      · rename_i a r he
        injection he with e1 e2
        subst e1 e2
        (refine k1_2 (Option.map_eq_some_iff.mp hn) fun m hm ž3 => ?_; subst ž3)
        (refine k1_2 (ih h2 hm) fun ps ž2 => ?_; subst ž2; intro ž3; subst ž3)
        (refine k1_1 h1.sh fun t ž2 => ?_; subst ž2)
        exact ⟨(a, t) :: ps, rfl, rfl⟩
      · exact nv1 hn
noncomputable def joinΦ : List PV → Option PV
  | [.str x, .lst xs] => (strsO xs).bind fun ts => if JoinOk x ts = true then some (.str (Txt.join x ts)) else none
  | _ => none
theorem join_ok : CallOK C d (.builtin "str.join") joinΦ := by
  intro A E s G vs ps p hr hb hs hv h
  unfold joinΦ at h
  split at h
  · refine k1_2 (bind_some h) fun ts ht h => ?_
    refine ite_k h (fun _ h => ?_) fun _ h => ?_
    · rename_i hok
      obtain rfl := sj h
      (refine k2_3 hv.inv2 fun _ _ ž3 => ?_; subst ž3; intro h1 h2)
      (refine k1_1 h1.sh fun t ž2 => ?_; subst ž2)
      (refine k2_3 h2.sh fun a us ž3 => ?_; subst ž3; intro hp hr')
      (refine k1_2 (strsO_rep hr' ht) fun l ž2 => ?_; subst ž2; intro hl)
      exact wpAny_with_toks (Nat.le_refl s.toks) (SC.join (PlainList.sub hp hs.h).isList hl hok fun t' k hk => done_val hs (.str _ _) hk)
    · exact nv1 h
  · exact nv1 h
theorem rep_strs : ∀ (l : List (Str × Tok)), C.RepL G (strValues l) (l.map fun p => PV.str p.1)
  | [] => .nil
  | p :: l => .cons (.str _ _) (rep_strs l)
open Builtin.Str in
noncomputable def splitΦ : List PV → Option PV
  | [.str x, .str y] => if (y.length == 0) = false ∧ x.length ≤ 65536 ∧ (partsBetween x (occurrences x y 0 x.length (x.length + 1)) y.length).length ≤ 65536 then some (.lst ((Txt.split x y).map PV.str)) else none
  | _ => none
set_option tactic.hygienic true in
open Builtin.Str in
theorem split_ok : CallOK C d (.builtin "str.split") splitΦ := by
  intro A E s G vs ps p hr hb hs hv h
  unfold splitΦ at h
  split at h
  · rename_i x y
    refine ite_k h (fun _ h => ?_) fun _ h => ?_
    · rename_i hz
      obtain rfl := sj h
      refine k0_3 hz fun hy hx hp => ?_
      (refine k2_3 hv.inv2 fun _ _ ž3 => ?_; subst ž3; intro h1 h2)
      (refine k1_1 h1.sh fun t ž2 => ?_; subst ž2)
      (refine k1_1 h2.sh fun u ž2 => ?_; subst ž2)
      have one : ∀ {l : List (Str × Tok)}, l.map (·.1) = Txt.split x y → C.RepL G (strValues l) ((Txt.split x y).map PV.str) := fun {l} e => by
        rw [← e, List.map_map]; exact rep_strs l
      cases q1 : (decide (x.length < y.length) || decide (strKind x < strKind y))
      · cases hf : (occurrences x y 0 x.length (x.length + 1)).isEmpty
        · refine call_meets F.slot_str_split (typeIs_str _ _ _) F.entry_str_split (F.args_str_split_2 _ _) (meets_str_split_sep x y t u q1 hy hf (by rw [sizeLine_eq]; lia) (by rw [sizeLine_eq]; lia)) ?_
          show Done C G s _ _ { s with toks := _, heap := s.heap.push { cls := .type "list", data := .seq (strsFrom s.toks (partsBetween x (occurrences x y 0 x.length (x.length + 1)) y.length)).toArray } }
          rw [strsFrom_eq]
          exact done_list hs (Nat.le_add_right _ _) (one ((numbered_texts _ _).trans ((if_neg (ne_true_of_eq_false q1)).trans (if_neg (ne_true_of_eq_false hf))).symm))
        · exact call_meets F.slot_str_split (typeIs_str _ _ _) F.entry_str_split (F.args_str_split_2 _ _) (meets_str_split_not_found x y t u q1 hy hf)
            (done_list hs (Nat.le_refl _) (one (l := [(x, t)]) ((if_neg (ne_true_of_eq_false q1)).trans (if_pos hf)).symm))
      · exact call_meets F.slot_str_split (typeIs_str _ _ _) F.entry_str_split (F.args_str_split_2 _ _) (meets_str_split_cannot_occur x y t u q1)
          (done_list hs (Nat.le_refl _) (one (l := [(x, t)]) (if_pos q1).symm))
    · exact nv1 h
  · exact nv1 h
end
end
section
section
variable {C : Wd} {d : Nat} {D : Fd} {A : Around} {E : Value → Shared → Prop} {env : Env} {σ : Sig} {s s' : Shared} {G G' : Gh} {Mu : Addr → Prop}
theorem part_ok {v : Value} {o : Option Int} {Q : Option Int → Shared → Prop} (hp : IsPart v o) (h : Q o s) : wpAny C.M A (Builtin.Slice.slicePartIndex v) Q E s := by
  cases hp with
  | none => exact slicePart_none h
  | int i t => exact slicePart_int h
noncomputable def cut0 (n : Nat) (o : Option Int) : Nat := o.elim 0 (clipAt n)
noncomputable def cut1 (n : Nat) (o : Option Int) : Nat := o.elim n (clipAt n)
theorem adjust_cut (lo hi : Option Int) (n : Nat) : Builtin.Slice.sliceAdjust lo hi 1 (n : Int) = ((cut0 n lo : Int), (cut1 n hi : Int)) := by
  unfold Builtin.Slice.sliceAdjust cut0 cut1 clipAt
  have h1 : ¬ ((1 : Int) < 0) := by lia
  simp only [h1, if_false]
  congr 1
  · cases lo with
    | none => rfl
    | some v =>
      show (if v < 0 then max (v + n) 0 else min v n) = (((max 0 (min (if v < 0 then v + n else v) n)).toNat : Nat) : Int)
      split <;> lia
  · cases hi with
    | none => rfl
    | some v =>
      show (if v < 0 then max (v + n) 0 else min v n) = (((max 0 (min (if v < 0 then v + n else v) n)).toNat : Nat) : Int)
      split <;> lia
theorem places_cut (a b : Nat) : Builtin.Slice.slicePlaces (a : Int) (b : Int) 1 = b - a := by
  unfold Builtin.Slice.slicePlaces
  have h1 : (1 : Int) > 0 := by lia
  simp only [h1, if_true, Int.ediv_one]
  split <;> lia
theorem applied_cut {sl : Addr} {vl vu : Value} {lo hi : Option Int} {n : Nat} {Q : Int × Int × Nat → Shared → Prop} (hs : s.heap.IsSliceOf sl vl vu .none) (pl : IsPart vl lo) (pu : IsPart vu hi) (h : Q ((cut0 n lo : Int), 1, cut1 n hi - cut0 n lo) s) :
    wpAny C.M A (Builtin.Slice.sliceApplied (.ref sl) (pure (n : Int))) Q E s := by
  refine k1_3 (id hs) fun os hos hcs hds => ?_
  unfold Builtin.Slice.sliceApplied Builtin.Slice.sliceFields
  refine wpAny_bind (wpAny_bind (wpAny_field hos hds (x := vl) rfl (wpAny_bind (wpAny_field hos hds (x := vu) rfl (wpAny_bind (wpAny_field hos hds (x := .none) rfl (wpAny_pure ?_)))))))
  refine wpAny_bind (part_ok .none ?_)
  show wpAny _ _ (if ((1 : Int) == 0) = true then _ else _) _ _ s
  rw [if_neg (by decide)]
  refine wpAny_bind (part_ok pl (wpAny_bind (part_ok pu (wpAny_bind (wpAny_pure ?_)))))
  show wpAny _ _ (match Builtin.Slice.sliceAdjust lo hi 1 (n : Int) with | (lo, hi) => pure (lo, (1 : Int), Builtin.Slice.slicePlaces lo hi 1)) _ _ s
  rw [adjust_cut]
  show wpAny _ _ (pure ((cut0 n lo : Int), (1 : Int), Builtin.Slice.slicePlaces (cut0 n lo : Int) (cut1 n hi : Int) 1)) _ _ s
  rw [places_cut]
  exact wpAny_pure h
theorem pick_cut (xs : Array Value) (a n : Nat) : ((List.range n).filterMap fun (k : Nat) => xs[((a : Int) + (k : Int) * 1).toNat]?).toArray = ((xs.toList.drop a).take n).toArray := by
  have e : (fun (k : Nat) => xs[((a : Int) + (k : Int) * 1).toNat]?) = fun k => xs[a + k]? := by
    funext k
    have : ((a : Int) + (k : Int) * 1).toNat = a + k := by lia
    rw [this]
  rw [e]
  have := pick_run xs a n
  rw [List.filterMap_map] at this
  have e2 : ((fun x => xs[x]?) ∘ fun x => a + x) = fun k => xs[a + k]? := rfl
  rw [e2] at this
  rw [this]
theorem getItem_tuple_cut {t sl : Addr} {items : Array Value} {vl vu : Value} {lo hi : Option Int} {Q : Value → Shared → Prop} (ht : IsTup s.heap t items) (hs : s.heap.IsSliceOf sl vl vu .none) (pl : IsPart vl lo) (pu : IsPart vu hi)
    (hw : cut0 items.size lo = 0 → cut1 items.size hi - cut0 items.size lo = items.size → Q (.ref t) s)
    (h : Q (.ref s.heap.objs.size) { s with heap := s.heap.push { cls := .type "tuple", data := .seq ((items.toList.drop (cut0 items.size lo)).take (cut1 items.size hi - cut0 items.size lo)).toArray } })
    (hsz : items.size ≤ sizeLine) : wpAny C.M A (getItem (.ref t) (.ref sl)) Q E s := by
  have hdrop : sizeOk (.seq ((items.toList.drop (cut0 items.size lo)).take (cut1 items.size hi - cut0 items.size lo)).toArray) := by
    show ((items.toList.drop (cut0 items.size lo)).take (cut1 items.size hi - cut0 items.size lo)).toArray.size ≤ sizeLine
    rw [List.size_toArray, List.length_take, List.length_drop, Array.length_toList]
    omega
  refine k1_3 (id hs) fun os hos hcs hds => ?_
  have hTs : s.TypeIs (.ref sl) "slice" := ⟨os, hos, hcs⟩
  unfold getItem
  try with_reducible refine wpAny_holding ?_
  first | refine wpAny_bind (wpAny_pure ?_) | skip
  refine wpAny_bind (wpAny_sequenceKey ht.typeIs (by decide) ?_)
  refine wpAny_bind (wpAny_callSpecial?_slot (name := Str.ofString "__getitem__") ht.typeIs slot_tuple_getitem
    (wpAny_call_entry slot_tuple_getitem ht.typeIs entry_tuple_getitem ?_ (args_tuple_getitem _ _)))
  show wpAny _ _ (Builtin.Tuple.tupleItemsOf (.ref t) >>= _) _ _ s
  refine wpAny_bind (tupleItemsOf_ ht ?_)
  refine wpAny_bind (wpAny_typeOf hTs ?_)
  rw [if_pos (by decide)]
  refine wpAny_bind (applied_cut hs pl pu ?_)
  show wpAny _ _ (if ((cut0 items.size lo : Int) == 0 && (1 : Int) == 1 && (cut1 items.size hi - cut0 items.size lo) == items.size) = true then _ else _) _ _ s
  by_cases q : ((cut0 items.size lo : Int) == 0 && (1 : Int) == 1 && (cut1 items.size hi - cut0 items.size lo) == items.size) = true
  · rw [if_pos q]
    simp only [Bool.and_eq_true, beq_iff_eq] at q
    have := hw (by omega) q.2
    refine wpAny_bind (m := Builtin.Tuple.tupleIsExact _) ?_
    unfold Builtin.Tuple.tupleIsExact
    refine wpAny_bind (wpAny_typeOf ht.typeIs (wpAny_pure ?_))
    rw [if_pos (by decide)]
    exact wpAny_bind (wpAny_rule (wpAny_pure ⟨_, rfl, wpAny_pure this⟩))
  · rw [if_neg q, pick_cut]
    first
      | exact wpAny_bind (m := Builtin.Tuple.tupleExact _) (wpAny_newObj_type (wpAny_pure ⟨_, rfl, wpAny_pure h⟩) hdrop)
      | exact wpAny_bind (m := Builtin.Tuple.tupleExact _) (wpAny_newObj_type (wpAny_bind (wpAny_pure (wpAny_pure ⟨_, rfl, wpAny_pure h⟩))) hdrop)
      | exact wpAny_bind (wpAny_bind (m := Builtin.Tuple.tupleExact _) (wpAny_newObj_type (wpAny_pure (wpAny_pure ⟨_, rfl, wpAny_pure h⟩)) hdrop))
      | exact wpAny_bind (wpAny_bind (m := Builtin.Tuple.tupleExact _) (wpAny_newObj_type (wpAny_pure ⟨_, rfl, wpAny_pure h⟩) hdrop))
end
end
section
section
variable {C : Wd} {d : Nat} {D : Fd} {A : Around} {E : Value → Shared → Prop} {env : Env} {σ : Sig} {s s' : Shared} {G G' : Gh} {Mu : Addr → Prop}
noncomputable def sliceTO : PV → Option Int → Option Int → Option PV
  | .tup xs, lo, hi => if xs.length ≤ 65536 then some (.tup ((xs.drop (cut0 xs.length lo)).take (cut1 xs.length hi - cut0 xs.length lo))) else none
  | _, _, _ => none
noncomputable def slT (f : Sig → Option PV) (g h : Sig → Option (Option Int)) : Sig → Option PV := fun σ => (f σ).bind fun p => (g σ).bind fun lo => (h σ).bind fun hi => sliceTO p lo hi
set_option tactic.hygienic true in
theorem EV.sliceT {value : Expr} {lower upper : Option Expr} {p pos : Pos} {f : Sig → Option PV} {g h : Sig → Option (Option Int)} (h1 : EV C d D value f) (h2 : PT C d D lower g) (h3 : PT C d D upper h) : EV C d D (.Subscript value (.Slice lower upper none p) pos) (slT f g h) := by
  intro A E env σ s G Mu r hr he hst hf
  refine k1_2 (bind_some hf) fun q hq hf => ?_
  refine k1_2 (bind_some hf) fun lo hlo hf => ?_
  refine k1_2 (bind_some hf) fun hi hhi hf => ?_
  refine Subscript_ (bind2 h1 hr he hst hq fun v s₁ G₁ x₁ r₁ S₁ => wpAny_Slice (h2.ok hr he S₁ hlo fun vl s₂ G₂ x₂ S₂ pl => h3.ok hr he S₂ hhi fun vu s₃ G₃ x₃ S₃ pu => ?_))
  rw [evalPart_none]
  refine wpAny_pure ?_
  have r₃ := Rep.mono (x₂.trans x₃).sub r₁
  have x₄ : Ext G₃ s₃ G₃ { s₃ with heap := s₃.heap.push { cls := .type "slice", data := .fields #[vl, vu, .none] } } := Ext.push (tk := s₃.toks) S₃.sub (Nat.le_refl _) _
  have xx := ((x₁.trans x₂).trans x₃).trans x₄
  unfold sliceTO at hf
  split at hf
  · rename_i xs _ _
    refine ite_k hf (fun _ hf => ?_) fun _ hf => ?_
    · rename_i hz
      obtain rfl := sj hf
      (refine k2_3 r₃.sh fun t vs ž3 => ?_; subst ž3; intro hp hrl)
      have ht : PlainTup (s₃.heap.push { cls := .type "slice", data := .fields #[vl, vu, .none] }) t vs.toArray := hp.sub x₄.inn.h
      have ll := hrl.length
      have lz : vs.toArray.size = xs.length := by rw [List.size_toArray]; exact ll
      refine tail_any ht.isTuple.typeIs slot_tuple_getitem.lookup (getItem_tuple_cut ht.isTup (Heap.IsSliceOf.new ..) pl pu (fun e1 e2 => ?_) ?_ (by rw [sizeLine_eq, lz]; lia)) rfl
      · rw [lz] at e1 e2
        rw [e1] at e2 ⊢
        rw [e2, List.drop_zero, List.take_length]
        exact Done.after xx (done_self x₄.inn (.tup hp hrl))
      · rw [lz]
        exact Done.after xx (done_tup x₄.inn (Nat.le_refl _) ((hrl.drop _).take _))
    · exact nv1 hf
  · exact nv1 hf
end
end
end Mine
namespace Mine
open PySem PySem.W PySem.Calls PyProof.Rows PySem.MeetsSeq PySem.SeqAt
section
noncomputable def lexLt : List Int → List Int → Bool
  | [], [] => false
  | [], _ :: _ => true
  | _ :: _, [] => false
  | a :: l, b :: m => if a = b then lexLt l m else decide (a < b)
noncomputable def ivals (ps : List (Int × Tok)) : List Value := ps.map fun p => .int p.1 p.2
theorem tuple_ltInts (l b : Addr) (ps qs : List (Int × Tok)) (n n2 : Nat) :
    Meets (Builtin.«tuple.__lt__» ⟨[.ref l, .ref b], []⟩)
      (fun ž1 R s => s.heap.get? l = some { cls := .type "tuple", dict := none, data := .seq (ivals ps).toArray n, slots := #[] } ∧ s.heap.get? b = some { cls := .type "tuple", dict := none, data := .seq (ivals qs).toArray n2, slots := #[] } ∧
        R (.ok (.ret (.bool (lexLt (ps.map (·.1)) (qs.map (·.1)))))) s) :=
  .of_wp fun prog w A R s h => by
    obtain ⟨hp, g, d, tk, os⟩ := s; refine k0_3 h fun hl hb h => ?_
    have f2 := AutoSeq1.sub_tuple_tuple
    wp_walk using wpAny_loadPart' hl, wpAny_loadPart' hb, wpAny_forIn_list _ (fun rest b s' => b.1 = none ∧ s' = ⟨hp, g, d, tk, os⟩ ∧ ∃ p' q', rest = (ivals p').zip (ivals q') ∧ ps.length + q'.length = qs.length + p'.length ∧
      R (.ok (.ret (.bool (lexLt (p'.map (·.1)) (q'.map (·.1)))))) ⟨hp, g, d, tk, os⟩) _
    case turn =>
      rintro ⟨y, x⟩ rest b s' ⟨hb', rfl, p', q', hz, hn, hR⟩
      cases p' with
      | nil => cases hz
      | cons p p' =>
      cases q' with
      | nil => cases hz
      | cons q q' =>
      injection hz with hyx hrest
      injection hyx with hy hx
      subst hy hx
      refine wpAny_bind (EqAt.int_int _ _ _ _ prog w _ _ ?_)
      rw [List.map_cons, List.map_cons] at hR
      unfold lexLt at hR
      rw [List.length_cons, List.length_cons] at hn
      by_cases e : p.1 = q.1
      · rw [if_pos e] at hR
        rw [beq_iff_eq.mpr e]
        wp_walk
        exact ⟨rfl, rfl, p', q', hrest, by lia, hR⟩
      · rw [if_neg e] at hR
        rw [beq_eq_false_iff_ne.mpr e, if_pos (by rfl)]
        show wpAny _ _ (do
          rule "tuple.compare.by-the-first-pair-that-differs"
          let x ← richCompare CmpOp.Lt (.int p.1 p.2) (.int q.1 q.2)
          let y ← ret x
          pure (ForInStep.done (some y, ()))) _ _ _
        refine wpAny_bind (wpAny_rule ?_)
        have key : ∀ (Q : Value → Shared → Prop) (E : Value → Shared → Prop) (s : Shared), Q (.bool (decide (p.1 < q.1))) s → wpAny (model prog w) A.in1 (richCompare .Lt (.int p.1 p.2) (.int q.1 q.2)) Q E s := fun Q E s hq => by
          have : wpAny (model prog w) A.in1 (compareOp .Lt (.int p.1 p.2) (.int q.1 q.2)) Q E s := lt_int hq
          exact this
        refine wpAny_bind (key _ _ _ ?_)
        refine wpAny_bind (m := ret _) (wpAny_pure (wpAny_pure ?_))
        exact wpAny_pure ⟨_, rfl, hR⟩
    case fin =>
      rintro ⟨b1, b2⟩ s' ⟨hb', rfl, p', q', hz, hn, hR⟩
      simp only at hb'
      subst hb'
      have e : lexLt (p'.map (·.1)) (q'.map (·.1)) = decide (ps.length < qs.length) := by
        cases p' with
        | nil =>
          cases q' with
          | nil =>
            rw [List.length_nil] at hn
            exact (decide_eq_false (by lia)).symm
          | cons q q' =>
            rw [List.length_nil, List.length_cons] at hn
            exact (decide_eq_true (by lia)).symm
        | cons p p' =>
          cases q' with
          | nil =>
            rw [List.length_nil, List.length_cons] at hn
            exact (decide_eq_false (by lia)).symm
          | cons q q' => cases hz
      rw [e] at hR
      wp_walk
      refine ⟨_, rfl, ?_⟩
      simpa [Builtin.Tuple.tupleCompareSizes, ivals] using hR
    case h =>
      exact ⟨rfl, rfl, ps, qs, by rw [List.toList_toArray, List.toList_toArray], Nat.add_comm _ _, h⟩
end
end Mine
namespace Mine
open PySem PySem.W PySem.Calls PyProof.Rows
section
section
variable {C : Wd} {d : Nat} {D : Fd} {A : Around} {E : Value → Shared → Prop} {env : Env} {σ : Sig} {s s' : Shared} {G G' : Gh} {Mu : Addr → Prop}
noncomputable def ltTO : PV → PV → Option Bool
  | .tup xs, .tup ys => (intsO xs).bind fun l => (intsO ys).map fun m => lexLt l m
  | _, _ => none
noncomputable def ltT (f g : Sig → Option PV) : Sig → Option Bool := fun σ => (f σ).bind fun a => (g σ).bind fun b => ltTO a b
theorem ltT_ok {v u : Value} {p q : PV} {b : Bool} (hs : In G s) (hu : A.units < cLine) (h1 : C.Rep G v p) (h2 : C.Rep G u q) (h : ltTO p q = some b) : wpAny C.M A (compareOp .Lt v u) (fun x s' => x = .bool b ∧ Ext G s G s') E s := by
  unfold ltTO at h
  split at h
  · refine k1_2 (bind_some h) fun l hl h => ?_
    (refine k1_2 (Option.map_eq_some_iff.mp h) fun m hm ž3 => ?_; subst ž3)
    (refine k2_3 h1.sh fun a vs ž3 => ?_; subst ž3; intro hp hr)
    (refine k2_3 h2.sh fun c ws ž3 => ?_; subst ž3; intro hp2 hr2)
    (refine k1_2 (intsO_rep hr hl) fun ps ž2 => ?_; subst ž2; intro ž3; subst ž3)
    (refine k1_2 (intsO_rep hr2 hm) fun qs ž2 => ?_; subst ž2; intro ž3; subst ž3)
    refine k1_1 (hp.sub hs.h) fun n ho => ?_
    refine k1_1 (hp2.sub hs.h) fun n2 ho2 => ?_
    have : wpAny C.M A (richCompare .Lt (.ref a) (.ref c)) (fun x s' => x = .bool (lexLt (ps.map (·.1)) (qs.map (·.1))) ∧ Ext G s G s') E s :=
      richCompare_meets_room (op := .Lt) ⟨_, ho, rfl⟩ ⟨_, ho2, rfl⟩ F.slot_tuple_lt F.entry_tuple_lt (F.args_tuple_lt_2 _ _) (tuple_ltInts a c ps qs n n2)
        ⟨ho, ho2, show Value.bool (lexLt (ps.map (·.1)) (qs.map (·.1))) ≠ Value.notImplemented ∧ _ from ⟨(fun x => nomatch x), rfl, Ext.refl hs⟩⟩ hu
    exact this
  · exact nv1 h
theorem IT.ltT {l r : Expr} {pos : Pos} {f g : Sig → Option PV} (h1 : EV C d D l f) (h2 : EV C d D r g) (hm : behindInMarks .Lt r = false := by rfl) : IT C d D (.Compare l [.Lt] [r] pos) (ltT f g) := by
  intro A E env σ s G Mu p hr he hs hf
  refine k1_2 (bind_some hf) fun a ha hf => ?_
  refine k1_2 (bind_some hf) fun b hb hf => ?_
  refine wpAny_isTrue_Compare1 (bind2 h1 hr he hs ha fun v s₁ G₁ x₁ r₁ S₁ => bind2 h2 hr he S₁ hb fun u s₂ G₂ x₂ r₂ S₂ => ?_) hm
  refine wpAny_mono (ltT_ok S₂.sub (by have := hr.units; lia) (Rep.mono x₂.sub r₁) r₂ hf) (fun x s₃ h => ?_) fun ž1 ž2 h => h
  (refine k0_2 h fun ž1 => ?_; subst ž1; intro e)
  exact wpAny_truthy_bool ⟨_, (x₁.trans x₂).trans e, rfl⟩
end
end
section
theorem nsIn_at {K : Frag} {n : Addr} {o : Obj} (h : K.lookup n = some o) (x : Str) : nsIn K n x = nsIn [(n, o)] n x := by
  unfold nsIn
  rw [h, List.lookup_cons, beq_self_eq_true]
noncomputable def gn02 : List (Str × Option Value) := [(Str.ofString "TupleComp", some (.ref 59)), (Str.ofString "add_func_stats", some (.ref 70)), (Str.ofString "add_callers", some (.ref 77)), (Str.ofString "count_calls", some (.ref 84)), (Str.ofString "rgb_to_hls", some (.ref 21)), (Str.ofString "rgb_to_hsv", some (.ref 28)), (Str.ofString "hsv_to_rgb", some (.ref 35)), (Str.ofString "EXACT_TOKEN_TYPES", some (.ref 85)), (Str.ofString "ISTERMINAL", some (.ref 94)), (Str.ofString "ISNONTERMINAL", some (.ref 101)), (Str.ofString "ISEOF", some (.ref 108)), (Str.ofString "_law_cut", some (.ref 113)), (Str.ofString "_law_orders", some (.ref 118)), (Str.ofString "_law_part", some (.ref 125)), (Str.ofString "ENDMARKER", some (.int 0 324)), (Str.ofString "NT_OFFSET", some (.int 256 422)), (Str.ofString "len", none), (Str.ofString "range", none), (Str.ofString "sum", none), (Str.ofString "max", none), (Str.ofString "min", none), (Str.ofString "int", none), (Str.ofString "str", none), (Str.ofString "ord", none), (Str.ofString "enumerate", none), (Str.ofString "isinstance", none), (Str.ofString "tuple", none), (Str.ofString "chr", none), (Str.ofString "abs", none), (Str.ofString "zip", none), (Str.ofString "__builtins__", some (.ref 4))]
theorem gn02_ok (P : Params) : gn02.map (fun x => nsIn [(3, L3 P)] 3 x.1) = gn02.map (fun x => some x.2) := by
  delta nsIn
  rw [PySem.W.Fast.te995047462949696687]
  kernel_rfl
structure KOk (C : Wd) : Prop where
  see : seenK C.K = wantK C.w.params
  code : fnCd C.K 77 = .ref 76
  cd : C.cd = some (76, 72)
  bm : modIn C.K 4 = true
section
variable {C : Wd}
theorem KOk.at (h : KOk C) : C.K.lookup 3 = some (L3 C.w.params) ∧ C.K.lookup 58 = some (L58 C.w.params) ∧ C.K.lookup 59 = some L59 ∧ C.K.lookup 85 = some (L85 C.w.params) := by
  have e := congrArg Prod.snd h.see
  have e : [C.K.lookup 3, C.K.lookup 58, C.K.lookup 59, C.K.lookup 85] = [some (L3 C.w.params), some (L58 C.w.params), some L59, some (L85 C.w.params)] := e
  simpa only [List.cons.injEq, and_true] using e
theorem KOk.fn (h : KOk C) (i : Nat) : (fn02[i]?).map (fun x => fnSees C.K x.1) = (fn02[i]?).map (fun x => stFn x.2) := by
  have e : fn02.map (fun x => fnSees C.K x.1) = fn02.map (fun x => stFn x.2) := congrArg Prod.fst h.see
  have := congrArg (fun l => l[i]?) e
  simpa only [List.getElem?_map] using this
theorem KOk.gn (h : KOk C) (i : Nat) : (gn02[i]?).map (fun x => nsIn C.K mainGlobals x.1) = (gn02[i]?).map (fun x => some x.2) := by
  have := congrArg (fun l => l[i]?) (gn02_ok C.w.params)
  simp only [List.getElem?_map] at this
  rw [← this]
  congr 1
  funext x
  exact nsIn_at h.at.1 x.1
theorem g_TupleComp (h : KOk C) : nsIn C.K mainGlobals (Str.ofString "TupleComp") = some (some (.ref 59)) := Option.some.inj (h.gn 0)
theorem g_add_func_stats (h : KOk C) : nsIn C.K mainGlobals (Str.ofString "add_func_stats") = some (some (.ref 70)) := Option.some.inj (h.gn 1)
theorem g_add_callers (h : KOk C) : nsIn C.K mainGlobals (Str.ofString "add_callers") = some (some (.ref 77)) := Option.some.inj (h.gn 2)
theorem g_count_calls (h : KOk C) : nsIn C.K mainGlobals (Str.ofString "count_calls") = some (some (.ref 84)) := Option.some.inj (h.gn 3)
theorem g_rgb_to_hls (h : KOk C) : nsIn C.K mainGlobals (Str.ofString "rgb_to_hls") = some (some (.ref 21)) := Option.some.inj (h.gn 4)
theorem g_rgb_to_hsv (h : KOk C) : nsIn C.K mainGlobals (Str.ofString "rgb_to_hsv") = some (some (.ref 28)) := Option.some.inj (h.gn 5)
theorem g_hsv_to_rgb (h : KOk C) : nsIn C.K mainGlobals (Str.ofString "hsv_to_rgb") = some (some (.ref 35)) := Option.some.inj (h.gn 6)
theorem g_EXACT_TOKEN_TYPES (h : KOk C) : nsIn C.K mainGlobals (Str.ofString "EXACT_TOKEN_TYPES") = some (some (.ref 85)) := Option.some.inj (h.gn 7)
theorem g_ISTERMINAL (h : KOk C) : nsIn C.K mainGlobals (Str.ofString "ISTERMINAL") = some (some (.ref 94)) := Option.some.inj (h.gn 8)
theorem g_ISNONTERMINAL (h : KOk C) : nsIn C.K mainGlobals (Str.ofString "ISNONTERMINAL") = some (some (.ref 101)) := Option.some.inj (h.gn 9)
theorem g_ISEOF (h : KOk C) : nsIn C.K mainGlobals (Str.ofString "ISEOF") = some (some (.ref 108)) := Option.some.inj (h.gn 10)
theorem g_law_cut (h : KOk C) : nsIn C.K mainGlobals (Str.ofString "_law_cut") = some (some (.ref 113)) := Option.some.inj (h.gn 11)
theorem g_law_orders (h : KOk C) : nsIn C.K mainGlobals (Str.ofString "_law_orders") = some (some (.ref 118)) := Option.some.inj (h.gn 12)
theorem g_law_part (h : KOk C) : nsIn C.K mainGlobals (Str.ofString "_law_part") = some (some (.ref 125)) := Option.some.inj (h.gn 13)
theorem g_ENDMARKER (h : KOk C) : nsIn C.K mainGlobals (Str.ofString "ENDMARKER") = some (some (.int 0 324)) := Option.some.inj (h.gn 14)
theorem g_NT_OFFSET (h : KOk C) : nsIn C.K mainGlobals (Str.ofString "NT_OFFSET") = some (some (.int 256 422)) := Option.some.inj (h.gn 15)
theorem g_len (h : KOk C) : nsIn C.K mainGlobals (Str.ofString "len") = some (none) := Option.some.inj (h.gn 16)
theorem g_range (h : KOk C) : nsIn C.K mainGlobals (Str.ofString "range") = some (none) := Option.some.inj (h.gn 17)
theorem g_sum (h : KOk C) : nsIn C.K mainGlobals (Str.ofString "sum") = some (none) := Option.some.inj (h.gn 18)
theorem g_max (h : KOk C) : nsIn C.K mainGlobals (Str.ofString "max") = some (none) := Option.some.inj (h.gn 19)
theorem g_min (h : KOk C) : nsIn C.K mainGlobals (Str.ofString "min") = some (none) := Option.some.inj (h.gn 20)
theorem g_int (h : KOk C) : nsIn C.K mainGlobals (Str.ofString "int") = some (none) := Option.some.inj (h.gn 21)
theorem g_str (h : KOk C) : nsIn C.K mainGlobals (Str.ofString "str") = some (none) := Option.some.inj (h.gn 22)
theorem g_ord (h : KOk C) : nsIn C.K mainGlobals (Str.ofString "ord") = some (none) := Option.some.inj (h.gn 23)
theorem g_enumerate (h : KOk C) : nsIn C.K mainGlobals (Str.ofString "enumerate") = some (none) := Option.some.inj (h.gn 24)
theorem g_isinstance (h : KOk C) : nsIn C.K mainGlobals (Str.ofString "isinstance") = some (none) := Option.some.inj (h.gn 25)
theorem g_tuple (h : KOk C) : nsIn C.K mainGlobals (Str.ofString "tuple") = some (none) := Option.some.inj (h.gn 26)
theorem g_chr (h : KOk C) : nsIn C.K mainGlobals (Str.ofString "chr") = some (none) := Option.some.inj (h.gn 27)
theorem g_abs (h : KOk C) : nsIn C.K mainGlobals (Str.ofString "abs") = some (none) := Option.some.inj (h.gn 28)
theorem g_zip (h : KOk C) : nsIn C.K mainGlobals (Str.ofString "zip") = some (none) := Option.some.inj (h.gn 29)
theorem g_builtins__ (h : KOk C) : nsIn C.K mainGlobals (Str.ofString "__builtins__") = some (some (.ref 4)) := Option.some.inj (h.gn 30)
theorem f_add_func_stats (h : KOk C) : fnSees C.K 70 = stFn (b02 6) := Option.some.inj (h.fn 0)
theorem f_add_callers (h : KOk C) : fnSees C.K 77 = stFn (b02 7) := Option.some.inj (h.fn 1)
theorem f_count_calls (h : KOk C) : fnSees C.K 84 = stFn (b02 8) := Option.some.inj (h.fn 2)
theorem f_rgb_to_hls (h : KOk C) : fnSees C.K 21 = stFn (b02 1) := Option.some.inj (h.fn 3)
theorem f_rgb_to_hsv (h : KOk C) : fnSees C.K 28 = stFn (b02 2) := Option.some.inj (h.fn 4)
theorem f_hsv_to_rgb (h : KOk C) : fnSees C.K 35 = stFn (b02 3) := Option.some.inj (h.fn 5)
theorem f_ISTERMINAL (h : KOk C) : fnSees C.K 94 = stFn (b02 61) := Option.some.inj (h.fn 6)
theorem f_ISNONTERMINAL (h : KOk C) : fnSees C.K 101 = stFn (b02 62) := Option.some.inj (h.fn 7)
theorem f_ISEOF (h : KOk C) : fnSees C.K 108 = stFn (b02 63) := Option.some.inj (h.fn 8)
theorem f_law_cut (h : KOk C) : fnSees C.K 113 = stFn (b02 65) := Option.some.inj (h.fn 9)
theorem f_law_orders (h : KOk C) : fnSees C.K 118 = stFn (b02 66) := Option.some.inj (h.fn 10)
theorem f_law_part (h : KOk C) : fnSees C.K 125 = stFn (b02 67) := Option.some.inj (h.fn 11)
theorem f_law (h : KOk C) : fnSees C.K 130 = stFn (b02 68) := Option.some.inj (h.fn 12)
theorem f_init (h : KOk C) : fnSees C.K 49 = stFn ((stCls (b02 5))[0]?) := Option.some.inj (h.fn 13)
theorem f_compare (h : KOk C) : fnSees C.K 56 = stFn ((stCls (b02 5))[1]?) := Option.some.inj (h.fn 14)
theorem keep_of {K : Frag} {a : Addr} {st : Option Stmt} {xs : List Str} (h : fnSees K a = stFn st) (ok : stOk xs st = true) : keepIn K (.ref a) = true ∧ typeIn K (.ref a) = (K.lookup a).map (·.cls) := by
  refine ⟨?_, rfl⟩
  unfold stOk at ok
  split at ok
  case h_2 => exact nv4 ok
  unfold fnSees at h
  unfold keepIn
  split at h
  case h_2 => exact nv1 h
  rename_i ho
  show (match K.lookup a with | some ⟨_, _, .func _, _⟩ => true | some ⟨_, _, .cls _, _⟩ => _ | _ => false) = true
  rw [ho]
end
end
section
section
variable {C : Wd}
noncomputable def find0 (P : Params) (x : Str) : Option (Option Value) := match nsIn [(58, L58 P)] 58 x with
  | some (some v) => some (some v)
  | some none => (match some (fastBuiltinOwn "object" x) with
    | some (some v) => some (some v)
    | some none => some none
    | none => none)
  | none => none
theorem find59 (h : KOk C) (x : Str) : findIn C.K (.ref 59) x = find0 C.w.params x := by
  have h59 := h.at.2.2.1
  unfold findIn
  dsimp only
  rw [h59]
  show alongIn C.K x [.ref 59, .type "object"] = _
  unfold alongIn ownIn
  dsimp only
  rw [h59]
  show (match nsIn C.K 58 x with | some (some v) => _ | some none => _ | none => _) = _
  rw [nsIn_at h.at.2.1 x]
  rfl
theorem find0_ok (P : Params) : [find0 P "__init__", find0 P "compare", find0 P "__getattribute__", find0 P "__getattr__", find0 P "__setattr__", find0 P csl] = [some (some (.ref 49)), some (some (.ref 56)), some (some (.builtin "object.__getattribute__")), some none, some (some (.builtin "object.__setattr__")), some none] := by
  delta find0 nsIn csl
  rw [PySem.W.Fast.te995047462949696687]
  kernel_rfl
theorem typeIn_of {K : Frag} {a : Addr} {st : Option Stmt} {xs : List Str} (h : fnSees K a = stFn st) (ok : stOk xs st = true) : typeIn K (.ref a) = some (.type "function") := by
  unfold stOk at ok
  split at ok
  case h_2 => exact nv4 ok
  unfold fnSees at h
  show (K.lookup a).map (·.cls) = _
  split at h
  case h_2 => exact nv1 h
  rename_i ho
  have h : some _ = some _ := h
  simp only [Option.some.injEq, Prod.mk.injEq] at h
  rw [ho]
  exact congrArg some h.2.2.2.1.2.2.2.2.2
theorem tc02 (h : KOk C) : TC C.K 59 49 56 := by
  have h59 := h.at.2.2.1
  have e := find0_ok C.w.params
  simp only [List.cons.injEq, and_true] at e
  refine k0_6 e fun e1 e2 e3 e4 e5 e6 => ?_
  refine ⟨?_, (find59 h _).trans e1, typeIn_of (f_init h) (xs := [Str.ofString "self", Str.ofString "comp_select_list"]) (by decide +kernel), (find59 h _).trans e2, typeIn_of (f_compare h) (xs := [Str.ofString "self", Str.ofString "left", Str.ofString "right"]) (by decide +kernel), (find59 h _).trans e3, (find59 h _).trans e4, (find59 h _).trans e5, ?_, ?_, ?_, (find59 h _).trans e6⟩
  · unfold makesIn specialIn instIn typeIn
    dsimp only
    rw [h59]
    kernel_rfl
  · unfold plainOver clsIn
    rw [h59]
    kernel_rfl
  · unfold takerIn
    rw [find59 h _, e6]
    rfl
  · unfold clsIn
    rw [h59]
    rfl
end
end
section
noncomputable def tk02 : List (String × Tok × Int × Tok) := [("!", 424, 54, 420), ("!=", 426, 28, 368), ("%", 428, 24, 360), ("%=", 430, 40, 392), ("&", 432, 19, 350), ("&=", 434, 41, 394), ("(", 436, 7, 326), (")", 438, 8, 328), ("*", 440, 16, 344), ("**", 442, 35, 382), ("**=", 444, 46, 404), ("*=", 446, 38, 388), ("+", 448, 14, 340), ("+=", 450, 36, 384), (",", 452, 12, 336), ("-", 454, 15, 342), ("-=", 456, 37, 386), ("->", 458, 51, 414), (".", 460, 23, 358), ("...", 462, 52, 416), ("/", 464, 17, 346), ("//", 466, 47, 406), ("//=", 468, 48, 408), ("/=", 470, 39, 390), (":", 472, 11, 334), (":=", 474, 53, 418), (";", 476, 13, 338), ("<", 478, 20, 352), ("<<", 480, 33, 378), ("<<=", 482, 44, 400), ("<=", 484, 29, 370), ("=", 486, 22, 356), ("==", 488, 27, 366), (">", 490, 21, 354), (">=", 492, 30, 372), (">>", 493, 34, 380), (">>=", 494, 45, 402), ("@", 495, 49, 410), ("@=", 496, 50, 412), ("[", 497, 9, 330), ("]", 498, 10, 332), ("^", 499, 32, 376), ("^=", 500, 43, 398), ("{", 501, 25, 362), ("|", 502, 18, 348), ("|=", 503, 42, 396), ("}", 504, 26, 364), ("~", 505, 31, 374)]
noncomputable def tkD : List (DK × PV) := tk02.map fun r => (.s (Str.ofString r.1), .int r.2.2.1)
section
variable {prog : Program} {w : World} {G : Gh}
theorem keys_strs : ∀ (rows : List (String × Tok × Int × Tok)), KeysOf (dkK prog w) (rows.map fun r => ent w.params r.1 r.2.1 (.int r.2.2.1 r.2.2.2)).toArray := by
  intro rows e he
  rw [List.mem_toArray, List.mem_map] at he
  (refine k1_2 he fun r _ ž3 => ?_; subst ž3)
  exact ⟨.s (Str.ofString r.1), by simp [dkK, DK.is, ent, Value.isStrOf], rfl⟩
theorem pairs_strs : ∀ (rows : List (String × Tok × Int × Tok)), Pairs (dkK prog w) (rows.map fun r => ent w.params r.1 r.2.1 (.int r.2.2.1 r.2.2.2)) (rows.map fun r => (.s (Str.ofString r.1), .int r.2.2.1 r.2.2.2))
  | [] => .nil
  | r :: rows => .cons (by simp [dkK, DK.is, ent, Value.isStrOf]) rfl (pairs_strs rows)
theorem repD_strs : ∀ (rows : List (String × Tok × Int × Tok)), RepD prog w G (rows.map fun r => (DK.s (Str.ofString r.1), Value.int r.2.2.1 r.2.2.2)) (rows.map fun r => (.s (Str.ofString r.1), .int r.2.2.1))
  | [] => .nil
  | r :: rows => .cons (.int _ _) (repD_strs rows)
end
theorem of_map {α β : Type} (f : α → β) : ∀ {l : List α}, (l.map f).Nodup → l.Nodup
  | [], _ => .nil
  | a :: l, h => by
    rw [List.map_cons, List.nodup_cons] at h
    rw [List.nodup_cons]
    exact ⟨fun hm => h.1 (List.mem_map.mpr ⟨a, hm, rfl⟩), of_map f h.2⟩
theorem tk_codes : (tk02.map fun r => (Str.ofString r.1).cps.toList).Nodup := by decide +kernel
theorem tk_rep {C : Wd} (h : KOk C) : ∀ G, Bs C G → C.Rep G (.ref 85) (.dct tkD) := by
  intro G B
  have e := B.X _ _ h.at.2.2.2
  refine .dct (kvs := tk02.map fun r => (.s (Str.ofString r.1), .int r.2.2.1 r.2.2.2)) ⟨_, (tk02.map fun r => ent C.w.params r.1 r.2.1 (.int r.2.2.1 r.2.2.2)).toArray, 48, e, ⟨rfl, rfl, rfl⟩, ?_, keys_strs _, pairs_strs _, ?_⟩ (by decide) (repD_strs _)
  · unfold L85 E85 tk02
    rfl
  · have := tk_codes
    rw [List.map_map]
    have h2 : (tk02.map fun r => (Str.ofString r.1).cps.toList) = (tk02.map (fun r => DK.s (Str.ofString r.1))).map (fun k => match k with | .s x => x.cps.toList | .i _ => []) := by rw [List.map_map]; rfl
    rw [h2] at this
    exact of_map _ this
end
section
theorem ok_TupleComp {C : Wd} (h : KOk C) (d : Nat) : CallOK C (d + 1) (.ref 59) (newΦ 59) :=
  new_ok' (self := Str.ofString "self") (sel := Str.ofString "comp_select_list") (tc02 h) (f_init h) (by decide +kernel) rfl (by decide +kernel) (by decide +kernel) (by decide +kernel) (by decide +kernel) (by decide +kernel)
theorem keepT {C : Wd} (h : KOk C) : keepIn C.K (.ref 59) = true := by
  have h59 := h.at.2.2.1
  unfold keepIn
  dsimp only
  rw [h59]
  show (specialIn C.K (.ref 59) "__call__" == some (some (.builtin "type.__call__"))) = true
  unfold specialIn typeIn
  dsimp only
  rw [h59]
  kernel_rfl
end
section
open Sem (wp)
structure Itr (prog : Program) (w : World) (I l : Addr) (xs : Array Value) (S : Nat → Heap → Prop) : Prop where
  item : ∀ {A : Around} {E : Value → Shared → Prop} {s : Shared} {k : Nat} {x : Value} {Q : Value → Shared → Prop}, S k s.heap → xs[k]? = some x →
    (∀ h', S (k + 1) h' → Heap.SameBut I s.heap h' → Q x { s with heap := h' }) → wpAny (model prog w) A (Builtin.SmallTypes.nextOf (.ref I)) Q E s
  stop : ∀ {A : Around} {E : Value → Shared → Prop} {s : Shared} {k : Nat} {Q : Value → Shared → Prop}, A.handled = none → S k s.heap → xs[k]? = none →
    (∀ h' e, Heap.ExtBut I s.heap h' → (∃ o, h'.get? e = some o ∧ o.cls = .type "StopIteration") → E (.ref e) { s with heap := h' }) → wpAny (model prog w) A (Builtin.SmallTypes.nextOf (.ref I)) Q E s
  keep : ∀ {k : Nat} {h h' : Heap}, S k h → (∀ c o, c = I ∨ c = l → h.get? c = some o → h'.get? c = some o) → S k h'
  lt : ∀ {k : Nat} {h : Heap}, S k h → I < h.objs.size ∧ l < h.objs.size
theorem IsTuple.keepI {h h' : Heap} {a : Addr} {items : Array Value} (x : h.IsTuple a items) (hk : ∀ o, h.get? a = some o → h'.get? a = some o) : h'.IsTuple a items := let ⟨o, ho, r⟩ := x; ⟨o, hk o ho, r⟩
theorem IsTupleIter.keepI {h h' : Heap} {a t : Addr} {i : Nat} (x : h.IsTupleIter a t i) (hk : ∀ o, h.get? a = some o → h'.get? a = some o) : h'.IsTupleIter a t i := let ⟨o, ho, r⟩ := x; ⟨o, hk o ho, r⟩
theorem itr_tuple (prog : Program) (w : World) {I l : Addr} (hne : l ≠ I) (xs : Array Value) : Itr prog w I l xs (fun k h => h.IsTupleIter I l k ∧ h.IsTuple l xs) where
  item := by
    intro A E s k x Q hS hx hQ
    (refine k0_2 hS fun ž1 => ?_; obtain ⟨o, ho, hc, hd⟩ := ž1; intro ž2; obtain ⟨ol, hol, hcl, nl, hdl⟩ := ž2)
    have hT : s.TypeIs (.ref I) "tuple_iterator" := ⟨o, ho, hc⟩
    unfold Builtin.SmallTypes.nextOf
    refine wpAny_bind (wpAny_callSpecial?_slot (name := Str.ofString "__next__") hT F.slot_tuple_iterator_next
      (wpAny_call_entry F.slot_tuple_iterator_next hT F.entry_tuple_iterator_next ?_ (F.args_tuple_iterator_next_1 _)))
    show wpAny _ _ (field (.ref I) 0 >>= _) _ _ s
    refine wpAny_bind (wpAny_field ho hd (x := .ref l) rfl ?_)
    show wpAny _ _ (if (Value.ref l == Value.none) = true then _ else _) _ _ s
    rw [if_neg (show ¬ ((Value.ref l == Value.none) = true) from Bool.false_ne_true)]
    show wpAny _ _ (field (.ref I) 1 >>= _) _ _ s
    refine wpAny_bind (wpAny_field ho hd (x := .int k 0) rfl ?_)
    show wpAny _ _ (seqItems? (.ref l) >>= _) _ _ s
    refine wpAny_bind (wpAny_seqItems hol hdl ?_)
    simp only [Int.toNat_natCast, hx]
    refine wpAny_bind (wpAny_setField ho hd (by simp) (wpAny_pure ⟨x, rfl, wpAny_pure (hQ _ ⟨?_, ?_⟩ (Heap.SameBut.update ..))⟩))
    · exact ⟨_, Heap.get?_update_self _ ho (Obj.isFreed_of_fields (Obj.data_mapFields hd _)), (Obj.cls_mapFields ..).trans hc, by
        rw [Obj.data_mapFields hd]; simp [rawInt]⟩
    · exact ⟨ol, ((Heap.SameBut.update ..).2 _ hne).trans hol, hcl, nl, hdl⟩
  stop := by
    intro A E s k Q hh hS hx hE
    (refine k0_2 hS fun ž1 => ?_; obtain ⟨o, ho, hc, hd⟩ := ž1; intro ž2; obtain ⟨ol, hol, _, nl, hdl⟩ := ž2)
    have hT : s.TypeIs (.ref I) "tuple_iterator" := ⟨o, ho, hc⟩
    unfold Builtin.SmallTypes.nextOf
    refine wpAny_bind (wpAny_callSpecial?_slot (name := Str.ofString "__next__") hT F.slot_tuple_iterator_next
      (wpAny_call_entry F.slot_tuple_iterator_next hT F.entry_tuple_iterator_next ?_ (F.args_tuple_iterator_next_1 _)))
    show wpAny _ _ (field (.ref I) 0 >>= _) _ _ s
    refine wpAny_bind (wpAny_field ho hd (x := .ref l) rfl ?_)
    show wpAny _ _ (if (Value.ref l == Value.none) = true then _ else _) _ _ s
    rw [if_neg (show ¬ ((Value.ref l == Value.none) = true) from Bool.false_ne_true)]
    show wpAny _ _ (field (.ref I) 1 >>= _) _ _ s
    refine wpAny_bind (wpAny_field ho hd (x := .int k 0) rfl ?_)
    show wpAny _ _ (seqItems? (.ref l) >>= _) _ _ s
    refine wpAny_bind (wpAny_seqItems hol hdl ?_)
    simp only [Int.toNat_natCast, hx]
    refine wpAny_bind (wpAny_rule (wpAny_bind (wpAny_setField ho hd (by simp) ?_)))
    show wpAny _ _ (newExc (.type "StopIteration") [] >>= _) _ _ _
    refine wpAny_bind ?_
    simp only [newExc, newTuple]
    refine wpAny_bind (wpAny_newObj_type ?_ (by size_fits))
    refine wpAny_bind (m := firstArgMember _ _) (wpAny_of_eq (a := Value.none) (by first | rfl | (simp only [firstArgMember]; rfl)) ?_)
    refine wpAny_newObj_type ?_ (by size_fits)
    simp only [raiseNew]
    refine wpAny_bind (wpAny_handled ?_)
    first | rw [show A.in1.handled = none from hh] | rw [hh]
    refine wpAny_bind (wpAny_pure (wpAny_throw ?_))
    exact hE _ _ (((Heap.SameBut.update ..).extBut.push _).push _) ⟨_, Heap.get?_push_size _ rfl, rfl⟩
  keep := fun hS hk => ⟨IsTupleIter.keepI hS.1 fun o e => hk _ o (.inl rfl) e, IsTuple.keepI hS.2 fun o e => hk _ o (.inr rfl) e⟩
  lt := fun hS => ⟨let ⟨_, e, _⟩ := hS.1; Heap.lt_size e, let ⟨_, e, _⟩ := hS.2; Heap.lt_size e⟩
section
variable {prog : Program} {w : World} {A : Around} {E : Value → Shared → Prop} {s : Shared}
noncomputable abbrev ZKeep (z TO i1 i2 : Addr) (h h' : Heap) : Prop := ∀ c o, c ≠ z → c ≠ TO → c ≠ i1 → c ≠ i2 → h.get? c = some o → h'.get? c = some o
theorem zipI_item {z TI TO i1 i2 l1 l2 : Addr} {k : Nat} {xs ys : Array Value} {S1 S2 : Nat → Heap → Prop} {x y a b : Value} {Q : Value → Shared → Prop} (D : ZipApart z TI TO i1 i2 l1 l2)
    (X1 : Itr prog w i1 l1 xs S1) (X2 : Itr prog w i2 l2 ys S2) (hz : IsZip s.heap z TI TO .none) (hTI : IsPair s.heap TI (.ref i1) (.ref i2)) (hTO : IsPair s.heap TO a b)
    (h1 : S1 k s.heap) (h2 : S2 k s.heap) (hx : xs[k]? = some x) (hy : ys[k]? = some y)
    (hQ : ∀ h', IsZip h' z TI TO (rawInt s.heap.objs.size) → IsPair h' TO x y → S1 (k + 1) h' → S2 (k + 1) h' → IsPair h' s.heap.objs.size x y → h'.objs.size = s.heap.objs.size + 1 → ZKeep z TO i1 i2 s.heap h' → Q (.ref s.heap.objs.size) { s with heap := h' }) :
    wpAny (model prog w) A (Builtin.«zip.__next__» ⟨[.ref z], []⟩) (fun fin s' => ∃ v, fin = .done (.ret v) ∧ Q v s') E s := by
  have k1 : ∀ {n : Nat} {c : Addr} {h h' : Heap}, S1 n h → Heap.SameBut c h h' → i1 ≠ c → l1 ≠ c → S1 n h' := fun st hs e1 e2 => X1.keep st fun b o hb e => hs.extBut b o (by rcases hb with rfl | rfl <;> assumption) e
  have k2 : ∀ {n : Nat} {c : Addr} {h h' : Heap}, S2 n h → Heap.SameBut c h h' → i2 ≠ c → l2 ≠ c → S2 n h' := fun st hs e1 e2 => X2.keep st fun b o hb e => hs.extBut b o (by rcases hb with rfl | rfl <;> assumption) e
  show wpAny _ _ (field (.ref z) 2 >>= _) _ _ _
  refine wpAny_bind (wpAny_field hz rfl (x := .bool false) rfl ?_)
  show wpAny _ _ (field (.ref z) 3 >>= _) _ _ _
  refine wpAny_bind (wpAny_field hz rfl (x := .ref TI) rfl ?_)
  refine wpAny_bind (wpAny_seqItems hTI rfl ?_)
  show wpAny _ _ (Builtin.SmallTypes.ownedTupleIsFree (.ref z) >>= _) _ _ _
  refine wpAny_bind ?_
  unfold Builtin.SmallTypes.ownedTupleIsFree
  refine wpAny_bind (wpAny_field hz rfl (x := .none) rfl (wpAny_pure ?_))
  simp only [if_true]
  refine wpAny_bind (wpAny_rule ?_)
  refine wpAny_bind (wpAny_field hz rfl (x := .ref TO) rfl ?_)
  refine wpAny_bind (wpAny_setField_rec hz (by simp) fun g₁ hz₁ hs₁ => ?_)
  replace hz₁ : IsZip g₁ z TI TO .ellipsis := hz₁
  refine wpAny_bind ?_
  simp only [List.zipIdx_cons, List.zipIdx_nil, List.forIn_cons, List.forIn_nil]
  refine wpAny_bind (wpAny_bind (wpAny_onRaise ?_))
  show wpAny _ _ (Builtin.SmallTypes.nextOf (.ref i1) >>= _) _ _ _
  refine wpAny_bind (X1.item (k1 h1 hs₁ D.i1z D.l1z) hx fun g₂ h1₂ hs₂ => wpAny_pure ?_)
  have hTO₂ : IsPair g₂ TO a b := hs₂.extBut _ _ D.TOi1 (hs₁.extBut _ _ D.TOz hTO)
  refine wpAny_bind (wpAny_seqItems hTO₂ rfl ?_)
  refine wpAny_bind (wpAny_updateSeq_pair hTO₂ fun g₃ hTO₃ hs₃ => ?_)
  replace hTO₃ : IsPair g₃ TO x b := hTO₃
  refine wpAny_bind (wpAny_letGo (wpAny_pure ?_))
  refine wpAny_bind (wpAny_bind (wpAny_onRaise ?_))
  show wpAny _ _ (Builtin.SmallTypes.nextOf (.ref i2) >>= _) _ _ _
  refine wpAny_bind (X2.item (k2 (k2 (k2 h2 hs₁ D.i2z D.l2z) hs₂ D.i12.symm D.l2i1) hs₃ D.TOi2.symm D.l2TO) hy fun g₄ h2₄ hs₄ => wpAny_pure ?_)
  have hTO₄ : IsPair g₄ TO x b := hs₄.extBut _ _ D.TOi2 hTO₃
  refine wpAny_bind (wpAny_seqItems hTO₄ rfl ?_)
  refine wpAny_bind (wpAny_updateSeq_pair hTO₄ fun g₅ hTO₅ hs₅ => ?_)
  replace hTO₅ : IsPair g₅ TO x y := hTO₅
  refine wpAny_bind (wpAny_letGo (wpAny_pure (wpAny_pure ?_)))
  refine wpAny_bind (wpAny_seqItems hTO₅ rfl ?_)
  refine wpAny_bind (wpAny_newTuple ?_)
  have hsz : g₅.objs.size = s.heap.objs.size := by rw [hs₅.1, hs₄.1, hs₃.1, hs₂.1, hs₁.1]
  have kz : ZKeep z TO i1 i2 s.heap g₅ := fun c o c1 c2 c3 c4 e => hs₅.extBut _ _ c2 (hs₄.extBut _ _ c4 (hs₃.extBut _ _ c2 (hs₂.extBut _ _ c3 (hs₁.extBut _ _ c1 e))))
  have hz₅ : IsZip g₅ z TI TO .ellipsis := hs₅.extBut _ _ D.TOz.symm (hs₄.extBut _ _ D.i2z.symm (hs₃.extBut _ _ D.TOz.symm (hs₂.extBut _ _ D.i1z.symm hz₁)))
  have h1₅ := k1 (k1 (k1 h1₂ hs₃ D.TOi1.symm D.l1TO) hs₄ D.i12 D.l1i2) hs₅ D.TOi1.symm D.l1TO
  have h2₅ := k2 h2₄ hs₅ D.TOi2.symm D.l2TO
  have hzl : g₅.objs.size ≠ z := Nat.ne_of_gt (Heap.lt_size hz₅)
  show wpAny _ _ (Builtin.SmallTypes.ownedTupleHandOut (.ref z) (.ref g₅.objs.size) >>= _) _ _ _
  refine wpAny_bind ?_
  unfold Builtin.SmallTypes.ownedTupleHandOut
  refine wpAny_bind (wpAny_setField_rec (Heap.get?_push_of_some _ hz₅ : IsZip (g₅.push { cls := .type "tuple", data := .seq #[x, y] }) z TI TO .ellipsis) (by simp) fun g₇ hz₇ hs₇ => ?_)
  replace hz₇ : IsZip g₇ z TI TO (rawInt g₅.objs.size) := hz₇
  refine wpAny_setField_rec hz₇ (by simp) fun g₈ hz₈ hs₈ => ?_
  replace hz₈ : IsZip g₈ z TI TO (rawInt g₅.objs.size) := hz₈
  have up : ∀ c o, c ≠ z → g₅.get? c = some o → g₈.get? c = some o := fun c o c1 e => hs₈.extBut _ _ c1 (hs₇.extBut _ _ c1 (Heap.get?_push_of_some _ e))
  have hT₈ : IsPair g₈ g₅.objs.size x y := hs₈.extBut _ _ hzl (hs₇.extBut _ _ hzl (Heap.get?_push_size _ rfl))
  have hz8 : g₈.objs.size = g₅.objs.size + 1 := by rw [hs₈.1, hs₇.1, Heap.size_push]
  rw [hsz] at hz₈ hT₈ hz8
  refine wpAny_pure ⟨_, rfl, ?_⟩
  show Q (.ref g₅.objs.size) _
  rw [hsz]
  exact hQ g₈ hz₈ (up _ _ D.TOz hTO₅) (X1.keep h1₅ fun c o hc e => up c o (by rcases hc with rfl | rfl <;> first | exact D.i1z | exact D.l1z) e)
    (X2.keep h2₅ fun c o hc e => up c o (by rcases hc with rfl | rfl <;> first | exact D.i2z | exact D.l2z) e) hT₈ hz8 fun c o c1 c2 c3 c4 e => up c o c1 (kz c o c1 c2 c3 c4 e)
theorem zipI_end {z TI TO i1 i2 l1 l2 : Addr} {k : Nat} {xs : Array Value} {S1 : Nat → Heap → Prop} {Q : Fin → Shared → Prop} (hh : A.handled = none) (D : ZipApart z TI TO i1 i2 l1 l2)
    (X1 : Itr prog w i1 l1 xs S1) (hz : IsZip s.heap z TI TO .none) (hTI : IsPair s.heap TI (.ref i1) (.ref i2)) (h1 : S1 k s.heap) (hend : xs[k]? = none)
    (hE : ∀ h' e, ZKeep z TO i1 i2 s.heap h' → (∃ o, h'.get? e = some o ∧ o.cls = .type "StopIteration") → E (.ref e) { s with heap := h' }) :
    wpAny (model prog w) A (Builtin.«zip.__next__» ⟨[.ref z], []⟩) Q E s := by
  show wpAny _ _ (field (.ref z) 2 >>= _) _ _ _
  refine wpAny_bind (wpAny_field hz rfl (x := .bool false) rfl ?_)
  show wpAny _ _ (field (.ref z) 3 >>= _) _ _ _
  refine wpAny_bind (wpAny_field hz rfl (x := .ref TI) rfl ?_)
  refine wpAny_bind (wpAny_seqItems hTI rfl ?_)
  show wpAny _ _ (Builtin.SmallTypes.ownedTupleIsFree (.ref z) >>= _) _ _ _
  refine wpAny_bind ?_
  unfold Builtin.SmallTypes.ownedTupleIsFree
  refine wpAny_bind (wpAny_field hz rfl (x := .none) rfl (wpAny_pure ?_))
  simp only [if_true]
  refine wpAny_bind (wpAny_rule ?_)
  refine wpAny_bind (wpAny_field hz rfl (x := .ref TO) rfl ?_)
  refine wpAny_bind (wpAny_setField_rec hz (by simp) fun g₁ hz₁ hs₁ => ?_)
  replace hz₁ : IsZip g₁ z TI TO .ellipsis := hz₁
  refine wpAny_bind ?_
  simp only [List.zipIdx_cons, List.zipIdx_nil, List.forIn_cons, List.forIn_nil]
  refine wpAny_bind (wpAny_bind (wpAny_onRaise ?_))
  show wpAny _ _ (Builtin.SmallTypes.nextOf (.ref i1) >>= _) _ _ _
  refine wpAny_bind (X1.stop hh (X1.keep h1 fun c o hc e => hs₁.extBut c o (by rcases hc with rfl | rfl <;> first | exact D.i1z | exact D.l1z) e) hend fun g₂ e hs₂ he => ?_)
  refine k1_2 he fun oe hoe hce => ?_
  have hz₂ : IsZip g₂ z TI TO .ellipsis := hs₂ _ _ D.i1z.symm hz₁
  have hez : e ≠ z := fun x => by subst x; rw [hz₂] at hoe; obtain rfl := sj hoe; simp at hce
  exact wpAny_setField_rec hz₂ (by simp) fun g₃ ž1 hs₃ => hE g₃ e (fun c o c1 ž1 c3 ž2 x => hs₃.extBut _ _ c1 (hs₂ _ _ c3 (hs₁.extBut _ _ c1 x))) ⟨oe, hs₃.extBut _ _ hez hoe, hce⟩
theorem walksU_zip (hh : A.handled = none) (z TI TO i1 i2 l1 l2 : Addr) (D : ZipApart z TI TO i1 i2 l1 l2) (xs ys : Array Value) (hlen : xs.size = ys.size) {S1 S2 : Nat → Heap → Prop} (X1 : Itr prog w i1 l1 xs S1) (X2 : Itr prog w i2 l2 ys S2) :
    WalksU prog w A z [z, TI, TO, i1, i2, l1, l2] [z, TO, i1, i2] xs.size (fun i vals => ∃ x y, xs[i]? = some x ∧ ys[i]? = some y ∧ vals = #[x, y])
      (fun i h => IsZip h z TI TO .none ∧ IsPair h TI (.ref i1) (.ref i2) ∧ (∃ a b, IsPair h TO a b) ∧ S1 i h ∧ S2 i h)
      (fun i T h => IsZip h z TI TO (rawInt T) ∧ IsPair h TI (.ref i1) (.ref i2) ∧ (∃ a b, IsPair h TO a b) ∧ S1 (i + 1) h ∧ S2 (i + 1) h ∧ T ≠ z ∧ T ≠ TO ∧ T ≠ i1 ∧ T ≠ i2) where
  sub := fun c hc => by simp at hc ⊢; rcases hc with rfl | rfl | rfl | rfl <;> simp
  frame := fun i h h' hst hk => by
    (refine k0_5 hst fun hz hTI ž3 => ?_; obtain ⟨a, b, hTO⟩ := ž3; intro h1 h2)
    exact ⟨hk z (by simp) _ hz, hk TI (by simp) _ hTI, ⟨a, b, hk TO (by simp) _ hTO⟩, X1.keep h1 fun c o hc e => hk c (by rcases hc with rfl | rfl <;> simp) o e,
      X2.keep h2 fun c o hc e => hk c (by rcases hc with rfl | rfl <;> simp) o e⟩
  item := fun i s Q E hi hst hQ => by
    (refine k0_5 hst fun hz hTI ž3 => ?_; obtain ⟨a, b, hTO⟩ := ž3; intro h1 h2)
    have hT : s.TypeIs (.ref z) "zip" := ⟨_, hz, rfl⟩
    unfold pyNext
    refine wpAny_bind (wpAny_attempt (wpAny_callSpecial?_slot (name := Str.ofString "__next__") hT F.slot_zip_next
      (wpAny_call_entry F.slot_zip_next hT F.entry_zip_next
        (zipI_item D X1 X2 hz hTI hTO h1 h2 (Array.getElem?_eq_getElem hi) (Array.getElem?_eq_getElem (hlen ▸ hi)) fun h' a1 a2 a3 a4 a5 a6 hk => wpAny_pure ?_) (F.args_zip_next_1 _))))
    have lt : ∀ {c o}, s.heap.get? c = some o → s.heap.objs.size ≠ c := fun e => Nat.ne_of_gt (Heap.lt_size e)
    exact hQ s.heap.objs.size #[xs[i], ys[i]] h' s.toks ⟨_, _, Array.getElem?_eq_getElem hi, Array.getElem?_eq_getElem (hlen ▸ hi), rfl⟩ ⟨_, a5, rfl, _, rfl⟩
      ⟨a1, hk _ _ D.TIz D.TITO D.TIi1 D.TIi2 hTI, ⟨_, _, a2⟩, a3, a4, lt hz, lt hTO, Nat.ne_of_gt (X1.lt h1).1, Nat.ne_of_gt (X2.lt h2).1⟩
      fun c o hc e => hk c o (fun x => hc (by simp [x])) (fun x => hc (by simp [x])) (fun x => hc (by simp [x])) (fun x => hc (by simp [x])) e
  go := fun elts k pos i T s Q E hm hQ => by
    (refine k0_6 hm fun hz hTI ž3 => ?_; obtain ⟨a, b, hTO⟩ := ž3; intro h1 h2 _)
    refine wpAny_letOwnedTupleGo_zip hz fun h' hz' hs' => hQ h' ⟨hz', hs'.extBut _ _ D.TIz hTI, ⟨a, b, hs'.extBut _ _ D.TOz hTO⟩,
      X1.keep h1 (fun c o hc e => hs'.extBut c o (by rcases hc with rfl | rfl <;> first | exact D.i1z | exact D.l1z) e),
      X2.keep h2 (fun c o hc e => hs'.extBut c o (by rcases hc with rfl | rfl <;> first | exact D.i2z | exact D.l2z) e)⟩ fun c o hc e => hs'.extBut _ _ (fun x => hc (by simp [x])) e
  apart := fun i T h hm hT => by
    refine k0_9 hm fun _ _ _ _ _ t1 t2 t3 t4 => ?_
    simp at hT
    rcases hT with rfl | rfl | rfl | rfl
    · exact t1 rfl
    · exact t2 rfl
    · exact t3 rfl
    · exact t4 rfl
  done := fun s Q E hst hQ => by
    (refine k0_5 hst fun hz hTI ž3 => ?_; obtain ⟨a, b, hTO⟩ := ž3; intro h1 h2)
    have hT : s.TypeIs (.ref z) "zip" := ⟨_, hz, rfl⟩
    unfold pyNext
    refine wpAny_bind (wpAny_attempt (wpAny_callSpecial?_slot (name := Str.ofString "__next__") hT F.slot_zip_next
      (wpAny_call_entry F.slot_zip_next hT F.entry_zip_next (zipI_end hh D X1 hz hTI h1 (Array.getElem?_eq_none (Nat.le_refl _)) fun h' e hk he => ?_) (F.args_zip_next_1 _))))
    refine k1_2 he fun o ho hc => ?_
    refine wpAny_bind (wpAny_isInstance (T := "StopIteration") (b := true) ⟨o, ho, hc⟩ isSubtype_stop ?_)
    exact wpAny_pure (hQ h' s.toks fun c o hc e => hk c o (fun x => hc (by simp [x])) (fun x => hc (by simp [x])) (fun x => hc (by simp [x])) (fun x => hc (by simp [x])) e)
  self := fun i s Q E hst hQ => wpAny_pyIter_zip hst.1 hQ
end
noncomputable abbrev zt1 (h : Heap) (l1 : Addr) : Heap := h.push { cls := .type "tuple_iterator", data := .fields #[.ref l1, .int 0 0] }
noncomputable abbrev zt2 (h : Heap) (l1 l2 : Addr) : Heap := (zt1 h l1).push { cls := .type "tuple_iterator", data := .fields #[.ref l2, .int 0 0] }
noncomputable abbrev zt3 (h : Heap) (l1 l2 : Addr) : Heap := (zt2 h l1 l2).push { cls := .type "tuple", data := .seq #[.ref h.objs.size, .ref (zt1 h l1).objs.size] }
noncomputable abbrev zt4 (h : Heap) (l1 l2 : Addr) : Heap := (zt3 h l1 l2).push { cls := .type "tuple", data := .seq #[.none, .none] }
noncomputable abbrev zt5 (h : Heap) (l1 l2 : Addr) : Heap := (zt4 h l1 l2).push { cls := .type "zip", data := .fields #[.none, .bool false, .bool false, .ref (zt2 h l1 l2).objs.size, .ref (zt3 h l1 l2).objs.size] }
theorem meets_zip_tuples (l1 l2 : Addr) (xs ys : Array Value) :
    Meets (Builtin.«zip.__new__» ⟨[.type "zip", .ref l1, .ref l2], []⟩) (fun ž1 R s => s.heap.IsTuple l1 xs ∧ s.heap.IsTuple l2 ys ∧ R (.ok (.ret (.ref (zt4 s.heap l1 l2).objs.size))) { s with heap := zt5 s.heap l1 l2 }) :=
  .of_wp fun prog w A R s h => by
    obtain ⟨hp, g, d, tk, os⟩ := s; refine k0_3 h fun hl1 hl2 h => ?_
    have hsub := sub_zip
    have hL1 : Heap.IsTuple (Shared.heap ⟨hp, g, d, tk, os⟩) l1 xs := hl1
    have hL2 : Heap.IsTuple (Shared.heap ⟨hp.push { cls := .type "tuple_iterator", data := .fields #[.ref l1, .int 0 0] }, g, d, tk, os⟩) l2 ys := Heap.IsTuple.push hl2 _
    wp_walk using wpAny_pyIter_tuple hL1, wpAny_pyIter_tuple hL2
    exact ⟨_, rfl, h⟩
section
variable {prog : Program} {w : World} {A : Around} {E : Value → Shared → Prop} {s : Shared}
theorem call_zip_tuples {l1 l2 : Addr} {xs ys : Array Value} {Q : Value → Shared → Prop} (hl1 : s.heap.IsTuple l1 xs) (hl2 : s.heap.IsTuple l2 ys)
    (h : ∀ h' z TI TO i1 i2, ZipApart z TI TO i1 i2 l1 l2 → (s.heap.objs.size ≤ z ∧ s.heap.objs.size ≤ TI ∧ s.heap.objs.size ≤ TO ∧ s.heap.objs.size ≤ i1 ∧ s.heap.objs.size ≤ i2) →
      (IsZip h' z TI TO .none ∧ IsPair h' TI (.ref i1) (.ref i2) ∧ (∃ a b, IsPair h' TO a b) ∧ (h'.IsTupleIter i1 l1 0 ∧ h'.IsTuple l1 xs) ∧ (h'.IsTupleIter i2 l2 0 ∧ h'.IsTuple l2 ys)) → h'.objs.size = s.heap.objs.size + 5 →
      (∀ c o, s.heap.get? c = some o → h'.get? c = some o) → Q (.ref z) { s with heap := h' }) :
    wpAny (model prog w) A (call (.type "zip") [.ref l1, .ref l2]) Q E s := by
  have a1 : l1 < s.heap.objs.size := by refine k1_2 hl1 fun _ e _ => ?_; exact Heap.lt_size e
  have a2 : l2 < s.heap.objs.size := by refine k1_2 hl2 fun _ e _ => ?_; exact Heap.lt_size e
  refine callType_new F.called_zip (by decide) (F.typeCall_zip_2 _ _) (F.newCall_zip_2 _ _) (fun obj => F.args_object_init_3 obj _ _) F.entry_zip_new
    (meets_zip_tuples l1 l2 xs ys) ⟨hl1, hl2, ?_⟩
  have z1 : (zt1 s.heap l1).objs.size = s.heap.objs.size + 1 := Heap.size_push ..
  have z2 : (zt2 s.heap l1 l2).objs.size = s.heap.objs.size + 2 := by rw [Heap.size_push, z1]
  have z3 : (zt3 s.heap l1 l2).objs.size = s.heap.objs.size + 3 := by rw [Heap.size_push, z2]
  have z4 : (zt4 s.heap l1 l2).objs.size = s.heap.objs.size + 4 := by rw [Heap.size_push, z3]
  have z5 : (zt5 s.heap l1 l2).objs.size = s.heap.objs.size + 5 := by rw [Heap.size_push, z4]
  have up4 : ∀ c o, (zt4 s.heap l1 l2).get? c = some o → (zt5 s.heap l1 l2).get? c = some o := fun c o e => Heap.get?_push_of_some _ e
  have up3 : ∀ c o, (zt3 s.heap l1 l2).get? c = some o → (zt5 s.heap l1 l2).get? c = some o := fun c o e => up4 c o (Heap.get?_push_of_some _ e)
  have up2 : ∀ c o, (zt2 s.heap l1 l2).get? c = some o → (zt5 s.heap l1 l2).get? c = some o := fun c o e => up3 c o (Heap.get?_push_of_some _ e)
  have up1 : ∀ c o, (zt1 s.heap l1).get? c = some o → (zt5 s.heap l1 l2).get? c = some o := fun c o e => up2 c o (Heap.get?_push_of_some _ e)
  have up0 : ∀ c o, s.heap.get? c = some o → (zt5 s.heap l1 l2).get? c = some o := fun c o e => up1 c o (Heap.get?_push_of_some _ e)
  have g5 : (zt5 s.heap l1 l2).get? (zt4 s.heap l1 l2).objs.size = some _ := Heap.get?_push_size _ rfl
  have g4 : (zt5 s.heap l1 l2).get? (zt3 s.heap l1 l2).objs.size = some _ := up4 _ _ (Heap.get?_push_size _ rfl)
  have g3 : (zt5 s.heap l1 l2).get? (zt2 s.heap l1 l2).objs.size = some _ := up3 _ _ (Heap.get?_push_size _ rfl)
  have g2 : (zt5 s.heap l1 l2).get? (zt1 s.heap l1).objs.size = some _ := up2 _ _ (Heap.get?_push_size _ rfl)
  have g1 : (zt5 s.heap l1 l2).get? s.heap.objs.size = some _ := up1 _ _ (Heap.get?_push_size _ rfl)
  show _ ∧ _
  rw [z2, z3, z4] at g5
  rw [z1, z2] at g3
  rw [z3] at g4
  rw [z1] at g2
  rw [z4]
  exact ⟨⟨_, g5, rfl⟩, h _ _ _ _ _ _ (zipApart_new a1 a2) ⟨Nat.le_add_right _ 4, Nat.le_add_right _ 2, Nat.le_add_right _ 3, Nat.le_refl _, Nat.le_add_right _ 1⟩
    ⟨g5, g3, ⟨_, _, g4⟩, ⟨⟨_, g1, rfl, rfl⟩, IsTuple.keepI hl1 fun o e => up0 _ o e⟩, ⟨⟨_, g2, rfl, rfl⟩, IsTuple.keepI hl2 fun o e => up0 _ o e⟩⟩ z5 up0⟩
end
end
section
open Sem (wp)
theorem gx_code {M : Model} {A : Around} {E : Value → Shared → Prop} {s : Shared} {env : Env} {c P : Addr} {ps : Array Value} {pos : Pos} {q : Str} {sc : Scope} {Q : Value → Shared → Prop} (hc : env.code = .ref c) (hok : s.heap.IsCode c P ps) (htab : s.heap.TableAt c P ps)
    (hQ : ∀ cv h' tk more, Heap.ExtBut P s.heap h' → h'.IsCode c P (ps ++ more) → h'.TableAt c P (ps ++ more) → Grown s { s with heap := h', toks := tk } → Q cv { s with heap := h', toks := tk }) :
    wpAny M A (genexprCode env pos q sc) Q E s := by
  cases hnf : codeAmong pos ps.toList with
  | none => exact wpAny_grown (wpAny_genexprCodeX hc hok htab hnf fun c' h' tk hx ž1 ž2 hcode ž3 htab' ž4 gr => hQ _ h' tk _ hx hcode htab' gr)
  | some cv =>
    obtain ⟨o, vs, file, tf, flags, tg, inF, text, tt, op, ho, hd, h11, h2, h7, h9, h10, hop, hpd, htr, hne⟩ := id hok
    unfold genexprCode codeAt
    rw [hc, if_neg (show ¬ ((Value.ref c == Value.none) = true) from Bool.false_ne_true)]
    refine wpAny_bind (wpAny_fieldsOf ho hd ?_)
    rw [h11]
    refine wpAny_bind (wpAny_fieldsOf hop hpd ?_)
    rw [hnf]
    exact wpAny_pure (hQ cv s.heap s.toks #[] (Heap.ExtBut.refl _ _) (by simpa using hok) (by simpa using htab) (Grown.refl s))
theorem isCode_at2 {h h' : Heap} {c P : Addr} {ps qs} (x : h.IsCode c P ps) (t : h.TableAt c P qs) (hc : ∀ o, h.get? c = some o → h'.get? c = some o) (hP : ∀ o, h.get? P = some o → h'.get? P = some o) : h'.IsCode c P ps := by
  (refine k0_2 t fun ž1 => ?_; obtain ⟨o, _, ho, _⟩ := ž1; intro hp)
  have e1 : h'.get? c = h.get? c := (hc _ ho).trans ho.symm
  have e2 : h'.get? P = h.get? P := (hP _ hp).trans hp.symm
  unfold Heap.IsCode at x ⊢
  rw [e1, e2]
  exact x
theorem tableAt_at2 {h h' : Heap} {c P : Addr} {ps} (x : h.TableAt c P ps) (hc : ∀ o, h.get? c = some o → h'.get? c = some o) (hP : ∀ o, h.get? P = some o → h'.get? P = some o) : h'.TableAt c P ps :=
  let ⟨⟨o, vs, a, r⟩, t⟩ := x; ⟨⟨o, vs, hc _ a, r⟩, hP _ t⟩
section
variable {G G' : Gh} {s s' : Shared}
theorem Ext.notes {G₁ : Gh} {s₁ : Shared} {c P : Addr} {ps more : Array Value} (hin : In G s) (hcd : G.cd = some (c, P)) (x : Ext G s G₁ s₁) (htab : s₁.heap.TableAt c P ps) (hx : Heap.ExtBut P s₁.heap s'.heap)
    (hok' : s'.heap.IsCode c P (ps ++ more)) (htab' : s'.heap.TableAt c P (ps ++ more)) (gr : Grown s s') (hos : s'.os = s₁.os) (hg : AllBare s₁.gens → AllBare s'.gens) : Ext G s G s' := by
  refine k0_4 (hin.cd c P hcd) fun y1 u y _ => ?_
  have ne : ∀ a o, G.h.get? a = some o → a ≠ P := fun a o e q => by rw [q, u] at e; exact nv1 e
  refine ⟨Le.refl _, ⟨fun a o e => hx a o (ne a o e) (x.inn.h a o (x.sub.h a o e)), Nat.lt_of_lt_of_le hin.pos gr.toks, fun t v e => ⟨(hin.T t v e).1, Nat.lt_of_lt_of_le (hin.T t v e).2 gr.toks⟩, fun c2 P2 e => ?_⟩, fun ž1 ž2 e => .inl e, fun a o ht e => hx a o (fun q => ?_) (x.keep a o ht e), gr.size, hos.trans x.os, fun z => hg (x.gens z), fun h₀ hz z => ?_⟩
  · rw [hcd] at e; cases e
    exact ⟨y1, u, y, _, hok', htab'⟩
  · have e := x.keep a o ht e
    rw [q, htab.2] at e; obtain rfl := sj e; exact nv3 ht
  · refine k1_1 (z.2 c P hcd) fun ps₀ ht₀ => ?_
    exact ⟨(x.old h₀ hz z).1.step_table ht₀ htab htab' hx y, z.2⟩
end
noncomputable def tsumO : PV → PV → Option PV
  | .tup xs, .tup ys => (intsO xs).bind fun as => (intsO ys).bind fun bs => if as.length = bs.length ∧ as.length ≤ 65536 then some (.tup ((List.zipWith (fun a b => a + b) as bs).map PV.int)) else none
  | _, _ => none
noncomputable def tsum2 (f g : Sig → Option PV) : Sig → Option PV := fun σ => (f σ).bind fun a => (g σ).bind fun b => tsumO a b
theorem repL_of_items {prog : Program} {w : World} {G : Gh} : ∀ {vs : List Value} {zs : List Int}, vs.length = zs.length → (∀ (j : Nat) (v : Value), vs[j]? = some v → ∃ n t, zs[j]? = some n ∧ v = Value.int n t) → RepL prog w G vs (zs.map PV.int)
  | [], [], _, _ => .nil
  | [], _ :: _, h, _ => by cases h
  | _ :: _, [], h, _ => by cases h
  | v :: vs, z :: zs, h, hi => by
    (refine k2_2 (hi 0 v rfl) fun n t e ž4 => ?_; subst ž4)
    obtain rfl := sj e
    exact .cons (.int _ _) (repL_of_items (by simpa using h) fun j u e => by simpa using hi (j + 1) u (by simpa using e))
section
variable {C : Wd} {d : Nat} {D : Fd}
noncomputable def isTupP : PV → Option PV
  | .int _ => some (.bool false)
  | .tup _ => some (.bool true)
  | _ => none
noncomputable def isTyV : PV → Bool
  | .obj (.type t) => t == "tuple"
  | _ => false
theorem isTyV_eq {p : PV} (h : isTyV p = true) : p = .obj (.type "tuple") := by
  unfold isTyV at h
  split at h
  · rw [beq_iff_eq.mp h]
  · exact nv4 h
noncomputable def isi2Φ : List PV → Option PV
  | [a, b] => if isTyV b = true then isTupP a else none
  | _ => none
theorem isi2_ok : CallOK C d (.builtin "isinstance") isi2Φ := by
  intro A E s G vs ps p hr hb hs hv hf
  unfold isi2Φ at hf
  split at hf
  case h_2 => cases hf
  split at hf
  rotate_left; cases hf
  rename_i hty
  obtain rfl := isTyV_eq hty
  obtain ⟨_, _, rfl, h1, h2⟩ := hv.inv2
  obtain rfl := h2.sh
  unfold isTupP at hf
  split at hf
  · cases hf
    obtain ⟨_, rfl⟩ := h1.sh
    exact IsiPair.int_tuple (done_val hs (.bool false) (Nat.le_succ _))
  · cases hf
    obtain ⟨a, vs, rfl, ⟨n, hp⟩, _⟩ := h1.sh
    exact IsiPair.tuple_tuple (hs.h _ _ hp) rfl (done_self hs (.bool true))
  · cases hf
theorem int_sum {prog : Program} {w : World} {A : Around} {E : Value → Shared → Prop} {s : Shared} {cenv : Env} {m : Str → Option Value} {xi xj : Str} {pi pj bp : Pos} {a b : Int} {t u : Tok} (hk : cenv.scope.kind = .function) (hi : cenv.kindOf xi = some .local) (hj : cenv.kindOf xj = some .local)
    (hn : s.heap.Ns cenv.locals m) (h1 : m xi = some (.int a t)) (h2 : m xj = some (.int b u)) (d1 : (xi == ("__debug__" : Str)) = false) (d2 : (xj == ("__debug__" : Str)) = false) :
    wpAny (model prog w) A (eval (.BinOp (.Name xi pi) .Add (.Name xj pj) bp) cenv) (fun y s₃ => (∃ t', y = .int (a + b) t') ∧ Keeps s s₃) E s := by
  refine wpAny_BinOp (wpAny_Name (wpAny_loadName_local hk hi hn h1 (wpAny_Name (wpAny_loadName_local hk hj hn h2 ?_) d2)) d1)
  refine add_int ?_
  exact ⟨⟨_, rfl⟩, ⟨s.heap, _, rfl, fun ž1 ž2 e => e⟩⟩
theorem fp_lt {h : Heap} {z TI TO i1 i2 l1 l2 : Addr} {xs ys : Array Value} (hst : IsZip h z TI TO .none ∧ IsPair h TI (.ref i1) (.ref i2) ∧ (∃ a b, IsPair h TO a b) ∧ (h.IsTupleIter i1 l1 0 ∧ h.IsTuple l1 xs) ∧ (h.IsTupleIter i2 l2 0 ∧ h.IsTuple l2 ys)) : ∀ b ∈ [z, TI, TO, i1, i2, l1, l2], b < h.objs.size := by
  (refine k0_5 hst fun c1 c2 ž3 => ?_; obtain ⟨_, _, c3⟩ := ž3; intro c4 c5)
  obtain ⟨⟨_, c4, _⟩, _, c6, _⟩ := c4
  obtain ⟨⟨_, c5, _⟩, _, c7, _⟩ := c5
  exact all_cons (Heap.lt_size c1) (all_cons (Heap.lt_size c2) (all_cons (Heap.lt_size c3) (all_cons (Heap.lt_size c4) (all_cons (Heap.lt_size c5) (all_cons (Heap.lt_size c6) (all_cons (Heap.lt_size c7) all_nil))))))
set_option tactic.hygienic true in
theorem EV.tupSum {xi xj : Str} {tp pi pj bp pa pb pt zp zc gp pos : Pos} {kt : Nat} {e1 e2 : Expr} {f g : Sig → Option PV} {sc : Scope} {cd : Addr} (hcd : D.cd = some cd) (hC : ∃ P, C.cd = some (cd, P)) (hbm : modIn C.K 4 = true) (hbn : nsIn C.K mainGlobals "__builtins__" = some (some (.ref 4)))
    (hx : D.names.lookup (Str.ofString "tuple") = some .globalImplicit) (hv : nsIn C.K mainGlobals (Str.ofString "tuple") = some none) (hx' : D.names.lookup (Str.ofString "zip") = some .globalImplicit) (hv' : nsIn C.K mainGlobals (Str.ofString "zip") = some none)
    (ha : EVs C d D [e1, e2] [f, g])
    (hco : sc.isCoroutine = false := by rfl) (hclos : ∀ env, closureFor sc env = pure [] := by intros; rfl) (hcell : ∀ y ∈ sc.names, y.2 ≠ .cell := by decide) (h0 : sc.names.lookup (".0" : Str) = some NameKind.local := by rfl)
    (hxi : sc.names.lookup xi = some .local := by rfl) (hxj : sc.names.lookup xj = some .local := by rfl) (hij : xi ≠ xj := by decide) (hk : sc.kind = .function := by rfl) (d1 : (xi == ("__debug__" : Str)) = false := by rfl) (d2 : (xj == ("__debug__" : Str)) = false := by rfl) :
    EV C d D (.Call (.Name (Str.ofString "tuple") tp) [.GeneratorExp (.BinOp (.Name xi pi) .Add (.Name xj pj) bp) [⟨.Tuple [.Name xi pa, .Name xj pb] kt pt, .Call (.Name (Str.ofString "zip") zp) [e1, e2] [] zc, [], 0⟩] sc gp] [] pos) (tsum2 f g) := by
  intro A E env σ s G Mu p hr he hs hf
  refine k1_2 (bind_some hf) fun qa hqa hf => ?_
  refine k1_2 (bind_some hf) fun qb hqb hf => ?_
  unfold tsumO at hf
  split at hf
  case h_2 => exact nv1 hf
  rename_i xs ys _
  refine k1_2 (bind_some hf) fun as has hf => ?_
  refine k1_2 (bind_some hf) fun bs hbs hf => ?_
  refine ite_k hf (fun _ hf => ?_) fun _ hf => ?_
  rotate_left; exact nv1 hf
  rename_i hlen
  refine k0_2 hlen fun hlen hz => ?_
  obtain rfl := sj hf
  refine wpAny_Call_ofName ?_
  refine wpAny_mono ((EV.built (pos := tp) hx hv (show bootBuiltins (Str.ofString "tuple") = some (.type "tuple") by rfl) (by decide) (by decide)) A E env σ s G Mu _ hr he hs rfl) (fun v s₁ hv₁ => ?_) fun ž1 ž2 h => h
  obtain ⟨G₁, x₁, r₁⟩ := hv₁
  obtain rfl := r₁.sh
  have S₁ := hs.ext x₁
  refine PyProof.Rows.callWith_type1 ?_ rfl (by simp [starEach, backTo])
  refine spliced_more (wpAny_grown ?_) rfl
  refine wpAny_GeneratorExp_walksQTD hr.handled hco (hclos _) hcell h0 hxi hxj hij hk (by have := hr.depth; lia) ?_ (fun x => rfl)
  refine wpAny_Call_ofName ?_
  refine wpAny_mono ((EV.built (pos := zp) hx' hv' (show bootBuiltins (Str.ofString "zip") = some (.type "zip") by rfl) (by decide) (by decide)) A E env σ s₁ G₁ Mu _ hr he S₁ rfl) (fun v s₂ hv₂ => ?_) fun ž1 ž2 h ž3 => h
  obtain ⟨G₂, x₂, r₂⟩ := hv₂
  obtain rfl := r₂.sh
  have S₂ := S₁.ext x₂
  cases ha with
  | @cons _ _ _ fs' h1 hst h2 =>
  refine PyProof.Rows.callWith_type1 ?_ (hst _ _) (any_star zc h2)
  have hps : seqO [f, g] σ = some [.tup xs, .tup ys] := by
    show (f σ).bind _ = _
    rw [hqa]
    show ((g σ).bind _).bind _ = _
    rw [hqb]
    rfl
  refine wpAny_mono (spliced_ok (.cons h1 hst h2) hr he S₂ hps) (fun vs s₃ hv₃ => name_goal fun J hJ => ?_) fun ž1 ž2 h ž3 => h
  obtain ⟨G₃, x₃, r₃⟩ := hv₃
  (refine k2_3 r₃.inv2 fun u1 u2 ž3 => ?_; subst ž3; intro q1 q2)
  have S₃ := S₂.ext x₃
  (refine k2_3 q1.sh fun l1 ws1 ž3 => ?_; subst ž3; intro hp1 hr1)
  (refine k2_3 q2.sh fun l2 ws2 ž3 => ?_; subst ž3; intro hp2 hr2)
  (refine k1_2 (intsO_rep hr1 has) fun as' ž2 => ?_; subst ž2; intro ž3; subst ž3)
  (refine k1_2 (intsO_rep hr2 hbs) fun bs' ž2 => ?_; subst ž2; intro ž3; subst ž3)
  have ht1 : s₃.heap.IsTuple l1 _ := (PlainTup.sub hp1 S₃.sub.h).isTup
  have ht2 : s₃.heap.IsTuple l2 _ := (PlainTup.sub hp2 S₃.sub.h).isTup
  have x23 := x₂.trans x₃
  refine k1_1 hC fun P hCP => ?_
  have hcd1 : G₁.cd = some (cd, P) := S₁.base.cd.trans hCP
  have hcd3 : G₃.cd = some (cd, P) := S₃.base.cd.trans hCP
  obtain ⟨_, _, hPs, ps, hok, htab⟩ := S₃.sub.cd cd P hcd3
  refine hJ ?_
  refine call_zip_tuples ht1 ht2 fun h' z TI TO i1 i2 Dz hge hst₀ hz5 hk₁ => name_goal fun J hJ => ?_
  have hpl1 : P ≠ l1 := fun e => by refine k1_3 ht1 fun o ho hc' _ => ?_; rw [← e, htab.2] at ho; obtain rfl := sj ho; cases hc'
  have hpl2 : P ≠ l2 := fun e => by refine k1_3 ht2 fun o ho hc' _ => ?_; rw [← e, htab.2] at ho; obtain rfl := sj ho; cases hc'
  have hPlt : P < s₃.heap.objs.size := hok.lt.2
  refine k0_5 hge fun g1 g2 g3 g4 g5 => ?_
  have neP : ∀ {b : Addr}, s₃.heap.objs.size ≤ b → b ≠ P := fun h e => absurd hPlt (Nat.not_lt.mpr (e ▸ h))
  have W := fun (A' : Around) (hA : A'.handled = none) => walksU_zip (prog := C.prog) (w := C.w) hA z TI TO i1 i2 l1 l2 Dz (List.toArray (as'.map fun p => Value.int p.1 p.2)) (List.toArray (bs'.map fun p => Value.int p.1 p.2)) (by simpa using hlen) (itr_tuple C.prog C.w Dz.l1i1 _) (itr_tuple C.prog C.w Dz.l2i2 _)
  have lim₃ : s₃.heap.NoLimit := S₃.base.lim.keeps S₃.sub.h
  refine hJ ?_
  refine (W A hr.handled).self 0 _ _ _ hst₀ ?_
  refine ⟨lim₃.keeps hk₁, ?_⟩
  refine gx_code (he.code cd hcd) (hok.keeps hk₁) (htab.keeps hk₁) fun cv h₂ tk₂ more hx₂ hok₂ htab₂ gr₂ => name_goal fun J hJ => ?_
  have hx02 : Heap.ExtBut P s₃.heap h₂ := fun b o hb e => hx₂ b o hb (hk₁ b o e)
  have hG3 : G₃.h.get? P = none := (S₃.sub.cd cd P hcd3).2.1
  have frz : ∀ b o, G₃.h.get? b = some o → h₂.get? b = some o := fun b o e => hx02 b o (fun q => by rw [q, hG3] at e; exact nv1 e) (S₃.sub.h b o e)
  refine k1_4 (modIn_obj hbm) fun ob hob ob1 ob2 ob3 => ?_
  have hglob : h₂.Ns env.globals C.mg := by rw [he.glob]; exact S₃.base.g.keeps frz
  refine hJ ?_
  refine wpAny_builtinsFor hglob (mg_of (S₃.base.X.keeps S₃.sub.h) (S₃.base.g.keeps S₃.sub.h) hbn) (by decide) (frz _ _ (S₃.base.X _ _ hob)) ob1 ob2 ob3 (name_goal fun J hJ => ?_)
  have hsz2 : s₃.heap.objs.size + 5 ≤ h₂.objs.size := by have := gr₂.size; dsimp only at this; lia
  obtain ⟨zs, hzs⟩ : ∃ zs, zs = List.zipWith (fun a b => a + b) (as'.map (·.1)) (bs'.map (·.1)) := ⟨_, rfl⟩
  have hl1 : l1 < s₃.heap.objs.size := by refine k1_2 ht1 fun _ e _ => ?_; exact Heap.lt_size e
  have hl2 : l2 < s₃.heap.objs.size := by refine k1_2 ht2 fun _ e _ => ?_; exact Heap.lt_size e
  have hfpP : ∀ b ∈ [z, TI, TO, i1, i2, l1, l2], b ≠ P := all_cons (neP g1) (all_cons (neP g2) (all_cons (neP g3) (all_cons (neP g4) (all_cons (neP g5) (all_cons hpl1.symm (all_cons hpl2.symm all_nil))))))
  have hfplt : ∀ b ∈ [z, TI, TO, i1, i2, l1, l2], b < h₂.objs.size := fun b hb => Nat.lt_of_lt_of_le (fp_lt hst₀ b hb) gr₂.size
  have hwr : ∀ b ∈ [z, TO, i1, i2], s₃.heap.objs.size ≤ b := all_cons g1 (all_cons g3 (all_cons g4 (all_cons g5 all_nil)))
  have hlim2 : h₂.NoLimit := S₃.base.lim.keeps frz
  refine hJ ?_
  refine ⟨z, _, [z, TO, i1, i2], _, _, _, _, fun ž1 => true, fun i y => ∃ n t, zs[i]? = some n ∧ y = Value.int n t, rfl, W, fun i vals hv => ?_, (W A hr.handled).frame _ _ _ hst₀ fun b hb o e => hx₂ b o (hfpP b hb) e, hfplt, hlim2, fun hm => ?_, fun href ž1 => ⟨?_, ?_⟩, fun a h₅ tk gs hgb hag hsz₅ hk₅ WS hat => ?_⟩
  · refine k2_3 hv fun x y _ _ e => ?_; exact ⟨x, y, e⟩
  · refine k1_2 lim₃ fun _ hns _ => ?_
    exact absurd (hwr _ hm) (Nat.not_le.mpr hns.lt)
  · intro A' E' i va vb t m₂ hA _ _ _ _ _ _ _
    rw [List.forIn_nil]
    exact wpAny_pure ⟨rfl, ⟨t.heap, t.toks, rfl, fun ž1 ž2 e => e⟩⟩
  · intro A' E' i va vb t m₂ hA hD hU hP _ hn hma hmb _
    refine k2_3 hP fun x y hx1 hy1 e => ?_
    obtain ⟨rfl, rfl⟩ : va = x ∧ vb = y := by simpa using congrArg Array.toList e
    rw [List.getElem?_toArray, List.getElem?_map] at hx1 hy1
    (refine k1_2 (Option.map_eq_some_iff.mp hx1) fun p hp ž3 => ?_; subst ž3)
    (refine k1_2 (Option.map_eq_some_iff.mp hy1) fun q hq ž3 => ?_; subst ž3)
    refine wpAny_mono (int_sum (m := m₂) hk hxi hxj hn hma hmb d1 d2) (fun y s₃ h => ⟨?_, h.2⟩) fun ž1 ž2 h => h
    (refine k1_1 h.1 fun t' ž2 => ?_; subst ž2)
    refine ⟨_, _, ?_, rfl⟩
    rw [hzs, List.getElem?_zipWith, List.getElem?_map, List.getElem?_map, hp, hq]
    rfl
  · intro gr
    refine spliced_none ?_
    have hpas : passing (fun ž1 => true) (List.toArray (as'.map fun p => Value.int p.1 p.2)).size 0 = List.range as'.length := by simp [passing]
    have hzl : zs.length = as'.length := by rw [hzs, List.length_zipWith, hlen]; simpa using hlen.symm
    have haw : a ∉ h₂.objs.size :: [z, TO, i1, i2] := fun hm => by
      refine Or.elim (List.mem_cons.mp hm) (fun e => ?_) fun hm => ?_
      · exact absurd hag (Nat.not_lt.mpr (Nat.le_of_eq e))
      · have hb : a ∈ [z, TI, TO, i1, i2, l1, l2] := by simp only [List.mem_cons, List.not_mem_nil, or_false] at hm ⊢; rcases hm with h | h | h | h <;> simp [h]
        exact absurd (hfplt a hb) (Nat.not_lt.mpr (Nat.le_of_lt hag))
    have hlow : ∀ b, b < s₃.heap.objs.size → b ∉ h₂.objs.size :: [z, TO, i1, i2] := fun b hb hm => by
      refine Or.elim (List.mem_cons.mp hm) (fun e => ?_) fun hm => ?_
      · lia
      · exact absurd hb (Nat.not_lt.mpr (hwr b hm))
    refine call_tuple_gen WS.in4_3 (fun i s' st => st.1.typeIs) hat (fun b hb => ?_) List.mem_cons_self (fun s' acc hm hacc => ?_) (by rw [hpas, List.length_range, sizeLine_eq]; simp only [List.length_map] at hz; lia)
    · show b < h₅.objs.size
      rw [hsz₅]
      rcases List.mem_cons.mp hb with rfl | hb
      · exact Nat.lt_succ_self _
      · rcases List.mem_cons.mp hb with rfl | hb
        · exact Nat.lt_succ_of_lt hag
        · exact Nat.lt_succ_of_lt (Nat.lt_trans (List.mem_range.mp hb) hag)
    · have kp : Heap.ExtBut P s₃.heap s'.heap := fun b o hb e => hm.heap b o (hlow b (Heap.lt_size e)) (hk₅ b o (hx02 b o hb e))
      have up : ∀ b o, b < s₃.heap.objs.size → h₂.get? b = some o → s'.heap.get? b = some o := fun b o hb e => hm.heap b o (hlow b hb) (hk₅ b o e)
      have hsz : h₅.objs.size ≤ s'.heap.objs.size := by
        refine k3_2 hat.1 fun _ _ _ ho _ => ?_
        rw [hsz₅]
        exact Heap.lt_size (hm.heap a _ haw ho)
      have x' : Ext G₁ s₁ G₁ s' := Ext.notes S₁.sub hcd1 x23 htab kp (isCode_at2 hok₂ htab₂ (fun o e => up cd o hok.lt.1 e) fun o e => up P o hPlt e) (tableAt_at2 htab₂ (fun o e => up cd o hok.lt.1 e) fun o e => up P o hPlt e)
        ⟨Nat.le_trans gr.toks hm.toks, Nat.le_trans gr.size hsz⟩ hm.os fun z => AllBare.movedS (z.push hgb) hm
      have hit : C.RepL G₁ acc.toList (zs.map PV.int) := by
        refine repL_of_items ?_ fun j v hj => ?_
        · rw [hzl, Array.length_toList, hacc.1, hpas, List.length_range]
        · obtain ⟨i, hi, n, t, h1, h2⟩ := hacc.2 j v (by rw [← Array.getElem?_toList]; exact hj)
          rw [hpas] at hi
          have hij' : i = j := by
            refine k1_1 (List.getElem?_eq_some_iff.mp hi) fun hlt e => ?_
            rw [List.getElem_range] at e
            exact e.symm
          subst hij'
          exact ⟨n, t, h1, h2⟩
      have fin := done_tup (n := 0) x'.inn (Nat.le_refl s'.toks) hit
      rw [Array.toArray_toList, hzs] at fin
      exact Done.after (x₁.trans x') fin
end
end
section
noncomputable abbrev dummyS : Stmt := .Pass default
noncomputable def D_compare : Fd := ⟨stNames ((stCls (b02 5))[1]?), [((Str.ofString "self"), 0), ((Str.ofString "left"), 1), ((Str.ofString "right"), 2), ((Str.ofString "index"), 3), ((Str.ofString "direction"), 4), ((Str.ofString "l"), 5), ((Str.ofString "r"), 6)], ownNames (stNames ((stCls (b02 5))[1]?)), 7, none⟩
noncomputable def F_compare : Sig → Option (Fl × Sig) := (seqF (loopF (itF (cslF 59 (vv 0))) (tupK [3, 4]) (seqF (setF 5 (i2 (vv 1) (vv 3))) (seqF (setF 6 (i2 (vv 2) (vv 3))) (seqF (ifF (c2 .Lt (vv 5) (vv 6)) (seqF (retF (negF (vv 4))) nextF) nextF) (seqF (ifF (c2 .Gt (vv 5) (vv 6)) (seqF (retF (vv 4)) nextF) nextF) nextF))))) (seqF (retF (cc (.int 0))) nextF))
noncomputable def Φ_compare : List PV → Option PV := runF 3 F_compare
theorem ok0_compare : stOk [(Str.ofString "self"), (Str.ofString "left"), (Str.ofString "right")] ((stCls (b02 5))[1]?) = true := by decide +kernel
theorem ex_compare {C : Wd} (h : KOk C) (d : Nat) : EXw C (d + 0) D_compare (stBody ((stCls (b02 5))[1]?)) F_compare := by
  constructor
  unfold F_compare
  exact (EX.cons (ES.forS (EI.ofEV (EV.attrCsl (tc02 h) (EV.var 0))) (AT.tuple (Names.cons (i := 3) (by kernel_rfl) (by kernel_rfl) (Names.cons (i := 4) (by kernel_rfl) (by kernel_rfl) Names.nil)) false) (EX.cons (ES.assign 5 (by kernel_rfl) (by kernel_rfl) (EV.item (EV.var 1) (EV.var 3)) (fun env he => (swapsWith_env he _ _ _).trans (by kernel_rfl))) (EX.cons (ES.assign 6 (by kernel_rfl) (by kernel_rfl) (EV.item (EV.var 2) (EV.var 3)) (fun env he => (swapsWith_env he _ _ _).trans (by kernel_rfl))) (EX.cons (ES.ifS (IT.cmp (EV.var 5) (EV.var 6)) (EX.cons (ES.ret (EV.neg (EV.var 4))) EX.nil) EX.nil) (EX.cons (ES.ifS (IT.cmp (EV.var 5) (EV.var 6)) (EX.cons (ES.ret (EV.var 4)) EX.nil) EX.nil) EX.nil))))) (EX.cons (ES.ret EV.int) EX.nil))
theorem ok_compare {C : Wd} (h : KOk C) (d : Nat) : CallOK C (d + 1) (.ref 56) Φ_compare :=
  fn_okw (D := D_compare) (d := d + 0) [(Str.ofString "self"), (Str.ofString "left"), (Str.ofString "right")] (f_compare h) ok0_compare rfl (by decide +kernel) (by decide +kernel) (by decide +kernel) (by decide +kernel) (by decide +kernel) (ex_compare h d)
noncomputable def D_count_calls : Fd := ⟨stNames (b02 8), [((Str.ofString "callers"), 0), ((Str.ofString "nc"), 1), ((Str.ofString "calls"), 2)], ownNames (stNames (b02 8)), 3, none⟩
noncomputable def F_count_calls : Sig → Option (Fl × Sig) := (seqF (setF 1 (cc (.int 0))) (seqF (loopF (valsF (vv 0)) (setK 2) (seqF (augF .Add 1 (vv 2)) nextF)) (seqF (retF (vv 1)) nextF)))
noncomputable def Φ_count_calls : List PV → Option PV := runF 1 F_count_calls
theorem ok0_count_calls : stOk [(Str.ofString "callers")] (b02 8) = true := by decide +kernel
theorem ex_count_calls {C : Wd} (h : KOk C) (d : Nat) : EXw C (d + 0) D_count_calls (stBody (b02 8)) F_count_calls := by
  constructor
  unfold F_count_calls
  exact (EX.cons (ES.assign 1 (by kernel_rfl) (by kernel_rfl) EV.int (fun env he => (swapsWith_env he _ _ _).trans (by kernel_rfl))) (EX.cons (ES.forS (EI.values (EV.var 0)) (AT.name 2 (by kernel_rfl) (by kernel_rfl)) (EX.cons (ES.aug 1 (by kernel_rfl) (by kernel_rfl) (EV.var 2) (by kernel_rfl) (by kernel_rfl)) EX.nil)) (EX.cons (ES.ret (EV.var 1)) EX.nil)))
theorem ok_count_calls {C : Wd} (h : KOk C) (d : Nat) : CallOK C (d + 1) (.ref 84) Φ_count_calls :=
  fn_okw (D := D_count_calls) (d := d + 0) [(Str.ofString "callers")] (f_count_calls h) ok0_count_calls rfl (by decide +kernel) (by decide +kernel) (by decide +kernel) (by decide +kernel) (by decide +kernel) (ex_count_calls h d)
noncomputable def D_rgb_to_hls : Fd := ⟨stNames (b02 1), [((Str.ofString "r"), 0), ((Str.ofString "g"), 1), ((Str.ofString "b"), 2), ((Str.ofString "maxc"), 3), ((Str.ofString "minc"), 4), ((Str.ofString "sumc"), 5), ((Str.ofString "rangec"), 6), ((Str.ofString "l"), 7), ((Str.ofString "s"), 8), ((Str.ofString "rc"), 9), ((Str.ofString "gc"), 10), ((Str.ofString "bc"), 11), ((Str.ofString "h"), 12)], ownNames (stNames (b02 1)), 13, none⟩
noncomputable def F_rgb_to_hls_0 : Sig → Option (Fl × Sig) := (setF 3 (callO maxΦ [(vv 0), (vv 1), (vv 2)]))
theorem es_rgb_to_hls_0 {C : Wd} (h : KOk C) (d : Nat) : ESw C (d + 0) D_rgb_to_hls ((stBody (b02 1)).getD 0 dummyS) F_rgb_to_hls_0 := by
  constructor
  unfold F_rgb_to_hls_0
  exact (ES.assign 3 (by kernel_rfl) (by kernel_rfl) (EV.callB (by kernel_rfl) (g_max h) (by kernel_rfl) (by decide) (by kernel_rfl) max_ok (EVs.cons (EV.var 0) (by intros; rfl) (EVs.cons (EV.var 1) (by intros; rfl) (EVs.cons (EV.var 2) (by intros; rfl) EVs.nil)))) (fun env he => (swapsWith_env he _ _ _).trans (by kernel_rfl)))
noncomputable def F_rgb_to_hls_1 : Sig → Option (Fl × Sig) := (setF 4 (callO minΦ [(vv 0), (vv 1), (vv 2)]))
theorem es_rgb_to_hls_1 {C : Wd} (h : KOk C) (d : Nat) : ESw C (d + 0) D_rgb_to_hls ((stBody (b02 1)).getD 1 dummyS) F_rgb_to_hls_1 := by
  constructor
  unfold F_rgb_to_hls_1
  exact (ES.assign 4 (by kernel_rfl) (by kernel_rfl) (EV.callB (by kernel_rfl) (g_min h) (by kernel_rfl) (by decide) (by kernel_rfl) min_ok (EVs.cons (EV.var 0) (by intros; rfl) (EVs.cons (EV.var 1) (by intros; rfl) (EVs.cons (EV.var 2) (by intros; rfl) EVs.nil)))) (fun env he => (swapsWith_env he _ _ _).trans (by kernel_rfl)))
noncomputable def F_rgb_to_hls_2 : Sig → Option (Fl × Sig) := (setF 5 (b2 .Add (vv 3) (vv 4)))
theorem es_rgb_to_hls_2 {C : Wd} (h : KOk C) (d : Nat) : ESw C (d + 0) D_rgb_to_hls ((stBody (b02 1)).getD 2 dummyS) F_rgb_to_hls_2 := by
  constructor
  unfold F_rgb_to_hls_2
  exact (ES.assign 5 (by kernel_rfl) (by kernel_rfl) (EV.bin (EV.var 3) (EV.var 4)) (fun env he => (swapsWith_env he _ _ _).trans (by kernel_rfl)))
noncomputable def F_rgb_to_hls_3 : Sig → Option (Fl × Sig) := (setF 6 (b2 .Sub (vv 3) (vv 4)))
theorem es_rgb_to_hls_3 {C : Wd} (h : KOk C) (d : Nat) : ESw C (d + 0) D_rgb_to_hls ((stBody (b02 1)).getD 3 dummyS) F_rgb_to_hls_3 := by
  constructor
  unfold F_rgb_to_hls_3
  exact (ES.assign 6 (by kernel_rfl) (by kernel_rfl) (EV.bin (EV.var 3) (EV.var 4)) (fun env he => (swapsWith_env he _ _ _).trans (by kernel_rfl)))
noncomputable def F_rgb_to_hls_4 : Sig → Option (Fl × Sig) := (setF 7 (b2 .Div (vv 5) (cc (.flt 0x4000000000000000))))
theorem es_rgb_to_hls_4 {C : Wd} (h : KOk C) (d : Nat) : ESw C (d + 0) D_rgb_to_hls ((stBody (b02 1)).getD 4 dummyS) F_rgb_to_hls_4 := by
  constructor
  unfold F_rgb_to_hls_4
  exact (ES.assign 7 (by kernel_rfl) (by kernel_rfl) (EV.bin (EV.var 5) EV.flt) (fun env he => (swapsWith_env he _ _ _).trans (by kernel_rfl)))
noncomputable def F_rgb_to_hls_5 : Sig → Option (Fl × Sig) := (ifF (c2 .Eq (vv 4) (vv 3)) (seqF (retF (tupO [(cc (.flt 0x0000000000000000)), (vv 7), (cc (.flt 0x0000000000000000))])) nextF) nextF)
theorem es_rgb_to_hls_5 {C : Wd} (h : KOk C) (d : Nat) : ESw C (d + 0) D_rgb_to_hls ((stBody (b02 1)).getD 5 dummyS) F_rgb_to_hls_5 := by
  constructor
  unfold F_rgb_to_hls_5
  exact (ES.ifS (IT.cmp (EV.var 4) (EV.var 3)) (EX.cons (ES.ret (EV.tuple (EVs.cons EV.flt (by intros; rfl) (EVs.cons (EV.var 7) (by intros; rfl) (EVs.cons EV.flt (by intros; rfl) EVs.nil))))) EX.nil) EX.nil)
noncomputable def F_rgb_to_hls_6 : Sig → Option (Fl × Sig) := (ifF (c2 .LtE (vv 7) (cc (.flt 0x3fe0000000000000))) (seqF (setF 8 (b2 .Div (vv 6) (vv 5))) nextF) (seqF (setF 8 (b2 .Div (vv 6) (b2 .Sub (b2 .Sub (cc (.flt 0x4000000000000000)) (vv 3)) (vv 4)))) nextF))
theorem es_rgb_to_hls_6 {C : Wd} (h : KOk C) (d : Nat) : ESw C (d + 0) D_rgb_to_hls ((stBody (b02 1)).getD 6 dummyS) F_rgb_to_hls_6 := by
  constructor
  unfold F_rgb_to_hls_6
  exact (ES.ifS (IT.cmp (EV.var 7) EV.flt) (EX.cons (ES.assign 8 (by kernel_rfl) (by kernel_rfl) (EV.bin (EV.var 6) (EV.var 5)) (fun env he => (swapsWith_env he _ _ _).trans (by kernel_rfl))) EX.nil) (EX.cons (ES.assign 8 (by kernel_rfl) (by kernel_rfl) (EV.bin (EV.var 6) (EV.bin (EV.bin EV.flt (EV.var 3)) (EV.var 4))) (fun env he => (swapsWith_env he _ _ _).trans (by kernel_rfl))) EX.nil))
noncomputable def F_rgb_to_hls_7 : Sig → Option (Fl × Sig) := (setF 9 (b2 .Div (b2 .Sub (vv 3) (vv 0)) (vv 6)))
theorem es_rgb_to_hls_7 {C : Wd} (h : KOk C) (d : Nat) : ESw C (d + 0) D_rgb_to_hls ((stBody (b02 1)).getD 7 dummyS) F_rgb_to_hls_7 := by
  constructor
  unfold F_rgb_to_hls_7
  exact (ES.assign 9 (by kernel_rfl) (by kernel_rfl) (EV.bin (EV.bin (EV.var 3) (EV.var 0)) (EV.var 6)) (fun env he => (swapsWith_env he _ _ _).trans (by kernel_rfl)))
noncomputable def F_rgb_to_hls_8 : Sig → Option (Fl × Sig) := (setF 10 (b2 .Div (b2 .Sub (vv 3) (vv 1)) (vv 6)))
theorem es_rgb_to_hls_8 {C : Wd} (h : KOk C) (d : Nat) : ESw C (d + 0) D_rgb_to_hls ((stBody (b02 1)).getD 8 dummyS) F_rgb_to_hls_8 := by
  constructor
  unfold F_rgb_to_hls_8
  exact (ES.assign 10 (by kernel_rfl) (by kernel_rfl) (EV.bin (EV.bin (EV.var 3) (EV.var 1)) (EV.var 6)) (fun env he => (swapsWith_env he _ _ _).trans (by kernel_rfl)))
noncomputable def F_rgb_to_hls_9 : Sig → Option (Fl × Sig) := (setF 11 (b2 .Div (b2 .Sub (vv 3) (vv 2)) (vv 6)))
theorem es_rgb_to_hls_9 {C : Wd} (h : KOk C) (d : Nat) : ESw C (d + 0) D_rgb_to_hls ((stBody (b02 1)).getD 9 dummyS) F_rgb_to_hls_9 := by
  constructor
  unfold F_rgb_to_hls_9
  exact (ES.assign 11 (by kernel_rfl) (by kernel_rfl) (EV.bin (EV.bin (EV.var 3) (EV.var 2)) (EV.var 6)) (fun env he => (swapsWith_env he _ _ _).trans (by kernel_rfl)))
noncomputable def F_rgb_to_hls_10 : Sig → Option (Fl × Sig) := (ifF (c2 .Eq (vv 0) (vv 3)) (seqF (setF 12 (b2 .Sub (vv 11) (vv 10))) nextF) (seqF (ifF (c2 .Eq (vv 1) (vv 3)) (seqF (setF 12 (b2 .Sub (b2 .Add (cc (.flt 0x4000000000000000)) (vv 9)) (vv 11))) nextF) (seqF (setF 12 (b2 .Sub (b2 .Add (cc (.flt 0x4010000000000000)) (vv 10)) (vv 9))) nextF)) nextF))
theorem es_rgb_to_hls_10 {C : Wd} (h : KOk C) (d : Nat) : ESw C (d + 0) D_rgb_to_hls ((stBody (b02 1)).getD 10 dummyS) F_rgb_to_hls_10 := by
  constructor
  unfold F_rgb_to_hls_10
  exact (ES.ifS (IT.cmp (EV.var 0) (EV.var 3)) (EX.cons (ES.assign 12 (by kernel_rfl) (by kernel_rfl) (EV.bin (EV.var 11) (EV.var 10)) (fun env he => (swapsWith_env he _ _ _).trans (by kernel_rfl))) EX.nil) (EX.cons (ES.ifS (IT.cmp (EV.var 1) (EV.var 3)) (EX.cons (ES.assign 12 (by kernel_rfl) (by kernel_rfl) (EV.bin (EV.bin EV.flt (EV.var 9)) (EV.var 11)) (fun env he => (swapsWith_env he _ _ _).trans (by kernel_rfl))) EX.nil) (EX.cons (ES.assign 12 (by kernel_rfl) (by kernel_rfl) (EV.bin (EV.bin EV.flt (EV.var 10)) (EV.var 9)) (fun env he => (swapsWith_env he _ _ _).trans (by kernel_rfl))) EX.nil)) EX.nil))
noncomputable def F_rgb_to_hls_11 : Sig → Option (Fl × Sig) := (setF 12 (b2 .Mod (b2 .Div (vv 12) (cc (.flt 0x4018000000000000))) (cc (.flt 0x3ff0000000000000))))
theorem es_rgb_to_hls_11 {C : Wd} (h : KOk C) (d : Nat) : ESw C (d + 0) D_rgb_to_hls ((stBody (b02 1)).getD 11 dummyS) F_rgb_to_hls_11 := by
  constructor
  unfold F_rgb_to_hls_11
  exact (ES.assign 12 (by kernel_rfl) (by kernel_rfl) (EV.bin (EV.bin (EV.var 12) EV.flt) EV.flt) (fun env he => (swapsWith_env he _ _ _).trans (by kernel_rfl)))
noncomputable def F_rgb_to_hls_12 : Sig → Option (Fl × Sig) := (retF (tupO [(vv 12), (vv 7), (vv 8)]))
theorem es_rgb_to_hls_12 {C : Wd} (h : KOk C) (d : Nat) : ESw C (d + 0) D_rgb_to_hls ((stBody (b02 1)).getD 12 dummyS) F_rgb_to_hls_12 := by
  constructor
  unfold F_rgb_to_hls_12
  exact (ES.ret (EV.tuple (EVs.cons (EV.var 12) (by intros; rfl) (EVs.cons (EV.var 7) (by intros; rfl) (EVs.cons (EV.var 8) (by intros; rfl) EVs.nil)))))
theorem body_rgb_to_hls : stBody (b02 1) = [(stBody (b02 1)).getD 0 dummyS, (stBody (b02 1)).getD 1 dummyS, (stBody (b02 1)).getD 2 dummyS, (stBody (b02 1)).getD 3 dummyS, (stBody (b02 1)).getD 4 dummyS, (stBody (b02 1)).getD 5 dummyS, (stBody (b02 1)).getD 6 dummyS, (stBody (b02 1)).getD 7 dummyS, (stBody (b02 1)).getD 8 dummyS, (stBody (b02 1)).getD 9 dummyS, (stBody (b02 1)).getD 10 dummyS, (stBody (b02 1)).getD 11 dummyS, (stBody (b02 1)).getD 12 dummyS] := by kernel_rfl
noncomputable def F_rgb_to_hls : Sig → Option (Fl × Sig) := (seqF F_rgb_to_hls_0 (seqF F_rgb_to_hls_1 (seqF F_rgb_to_hls_2 (seqF F_rgb_to_hls_3 (seqF F_rgb_to_hls_4 (seqF F_rgb_to_hls_5 (seqF F_rgb_to_hls_6 (seqF F_rgb_to_hls_7 (seqF F_rgb_to_hls_8 (seqF F_rgb_to_hls_9 (seqF F_rgb_to_hls_10 (seqF F_rgb_to_hls_11 (seqF F_rgb_to_hls_12 nextF)))))))))))))
noncomputable def Φ_rgb_to_hls : List PV → Option PV := runF 3 F_rgb_to_hls
theorem ok0_rgb_to_hls : stOk [(Str.ofString "r"), (Str.ofString "g"), (Str.ofString "b")] (b02 1) = true := by decide +kernel
theorem ex_rgb_to_hls {C : Wd} (h : KOk C) (d : Nat) : EXw C (d + 0) D_rgb_to_hls (stBody (b02 1)) F_rgb_to_hls := by
  refine EXw.body body_rgb_to_hls ?_
  unfold F_rgb_to_hls
  refine EXw.cons (es_rgb_to_hls_0 h d) ?_
  refine EXw.cons (es_rgb_to_hls_1 h d) ?_
  refine EXw.cons (es_rgb_to_hls_2 h d) ?_
  refine EXw.cons (es_rgb_to_hls_3 h d) ?_
  refine EXw.cons (es_rgb_to_hls_4 h d) ?_
  refine EXw.cons (es_rgb_to_hls_5 h d) ?_
  refine EXw.cons (es_rgb_to_hls_6 h d) ?_
  refine EXw.cons (es_rgb_to_hls_7 h d) ?_
  refine EXw.cons (es_rgb_to_hls_8 h d) ?_
  refine EXw.cons (es_rgb_to_hls_9 h d) ?_
  refine EXw.cons (es_rgb_to_hls_10 h d) ?_
  refine EXw.cons (es_rgb_to_hls_11 h d) ?_
  refine EXw.cons (es_rgb_to_hls_12 h d) ?_
  exact EXw.nil
theorem ok_rgb_to_hls {C : Wd} (h : KOk C) (d : Nat) : CallOK C (d + 1) (.ref 21) Φ_rgb_to_hls :=
  fn_okw (D := D_rgb_to_hls) (d := d + 0) [(Str.ofString "r"), (Str.ofString "g"), (Str.ofString "b")] (f_rgb_to_hls h) ok0_rgb_to_hls rfl (by decide +kernel) (by decide +kernel) (by decide +kernel) (by decide +kernel) (by decide +kernel) (ex_rgb_to_hls h d)
noncomputable def D_rgb_to_hsv : Fd := ⟨stNames (b02 2), [((Str.ofString "r"), 0), ((Str.ofString "g"), 1), ((Str.ofString "b"), 2), ((Str.ofString "maxc"), 3), ((Str.ofString "minc"), 4), ((Str.ofString "rangec"), 5), ((Str.ofString "v"), 6), ((Str.ofString "s"), 7), ((Str.ofString "rc"), 8), ((Str.ofString "gc"), 9), ((Str.ofString "bc"), 10), ((Str.ofString "h"), 11)], ownNames (stNames (b02 2)), 12, none⟩
noncomputable def F_rgb_to_hsv_0 : Sig → Option (Fl × Sig) := (setF 3 (callO maxΦ [(vv 0), (vv 1), (vv 2)]))
theorem es_rgb_to_hsv_0 {C : Wd} (h : KOk C) (d : Nat) : ESw C (d + 0) D_rgb_to_hsv ((stBody (b02 2)).getD 0 dummyS) F_rgb_to_hsv_0 := by
  constructor
  unfold F_rgb_to_hsv_0
  exact (ES.assign 3 (by kernel_rfl) (by kernel_rfl) (EV.callB (by kernel_rfl) (g_max h) (by kernel_rfl) (by decide) (by kernel_rfl) max_ok (EVs.cons (EV.var 0) (by intros; rfl) (EVs.cons (EV.var 1) (by intros; rfl) (EVs.cons (EV.var 2) (by intros; rfl) EVs.nil)))) (fun env he => (swapsWith_env he _ _ _).trans (by kernel_rfl)))
noncomputable def F_rgb_to_hsv_1 : Sig → Option (Fl × Sig) := (setF 4 (callO minΦ [(vv 0), (vv 1), (vv 2)]))
theorem es_rgb_to_hsv_1 {C : Wd} (h : KOk C) (d : Nat) : ESw C (d + 0) D_rgb_to_hsv ((stBody (b02 2)).getD 1 dummyS) F_rgb_to_hsv_1 := by
  constructor
  unfold F_rgb_to_hsv_1
  exact (ES.assign 4 (by kernel_rfl) (by kernel_rfl) (EV.callB (by kernel_rfl) (g_min h) (by kernel_rfl) (by decide) (by kernel_rfl) min_ok (EVs.cons (EV.var 0) (by intros; rfl) (EVs.cons (EV.var 1) (by intros; rfl) (EVs.cons (EV.var 2) (by intros; rfl) EVs.nil)))) (fun env he => (swapsWith_env he _ _ _).trans (by kernel_rfl)))
noncomputable def F_rgb_to_hsv_2 : Sig → Option (Fl × Sig) := (setF 5 (b2 .Sub (vv 3) (vv 4)))
theorem es_rgb_to_hsv_2 {C : Wd} (h : KOk C) (d : Nat) : ESw C (d + 0) D_rgb_to_hsv ((stBody (b02 2)).getD 2 dummyS) F_rgb_to_hsv_2 := by
  constructor
  unfold F_rgb_to_hsv_2
  exact (ES.assign 5 (by kernel_rfl) (by kernel_rfl) (EV.bin (EV.var 3) (EV.var 4)) (fun env he => (swapsWith_env he _ _ _).trans (by kernel_rfl)))
noncomputable def F_rgb_to_hsv_3 : Sig → Option (Fl × Sig) := (setF 6 (vv 3))
theorem es_rgb_to_hsv_3 {C : Wd} (h : KOk C) (d : Nat) : ESw C (d + 0) D_rgb_to_hsv ((stBody (b02 2)).getD 3 dummyS) F_rgb_to_hsv_3 := by
  constructor
  unfold F_rgb_to_hsv_3
  exact (ES.assign 6 (by kernel_rfl) (by kernel_rfl) (EV.var 3) (fun env he => (swapsWith_env he _ _ _).trans (by kernel_rfl)))
noncomputable def F_rgb_to_hsv_4 : Sig → Option (Fl × Sig) := (ifF (c2 .Eq (vv 4) (vv 3)) (seqF (retF (tupO [(cc (.flt 0x0000000000000000)), (cc (.flt 0x0000000000000000)), (vv 6)])) nextF) nextF)
theorem es_rgb_to_hsv_4 {C : Wd} (h : KOk C) (d : Nat) : ESw C (d + 0) D_rgb_to_hsv ((stBody (b02 2)).getD 4 dummyS) F_rgb_to_hsv_4 := by
  constructor
  unfold F_rgb_to_hsv_4
  exact (ES.ifS (IT.cmp (EV.var 4) (EV.var 3)) (EX.cons (ES.ret (EV.tuple (EVs.cons EV.flt (by intros; rfl) (EVs.cons EV.flt (by intros; rfl) (EVs.cons (EV.var 6) (by intros; rfl) EVs.nil))))) EX.nil) EX.nil)
noncomputable def F_rgb_to_hsv_5 : Sig → Option (Fl × Sig) := (setF 7 (b2 .Div (vv 5) (vv 3)))
theorem es_rgb_to_hsv_5 {C : Wd} (h : KOk C) (d : Nat) : ESw C (d + 0) D_rgb_to_hsv ((stBody (b02 2)).getD 5 dummyS) F_rgb_to_hsv_5 := by
  constructor
  unfold F_rgb_to_hsv_5
  exact (ES.assign 7 (by kernel_rfl) (by kernel_rfl) (EV.bin (EV.var 5) (EV.var 3)) (fun env he => (swapsWith_env he _ _ _).trans (by kernel_rfl)))
noncomputable def F_rgb_to_hsv_6 : Sig → Option (Fl × Sig) := (setF 8 (b2 .Div (b2 .Sub (vv 3) (vv 0)) (vv 5)))
theorem es_rgb_to_hsv_6 {C : Wd} (h : KOk C) (d : Nat) : ESw C (d + 0) D_rgb_to_hsv ((stBody (b02 2)).getD 6 dummyS) F_rgb_to_hsv_6 := by
  constructor
  unfold F_rgb_to_hsv_6
  exact (ES.assign 8 (by kernel_rfl) (by kernel_rfl) (EV.bin (EV.bin (EV.var 3) (EV.var 0)) (EV.var 5)) (fun env he => (swapsWith_env he _ _ _).trans (by kernel_rfl)))
noncomputable def F_rgb_to_hsv_7 : Sig → Option (Fl × Sig) := (setF 9 (b2 .Div (b2 .Sub (vv 3) (vv 1)) (vv 5)))
theorem es_rgb_to_hsv_7 {C : Wd} (h : KOk C) (d : Nat) : ESw C (d + 0) D_rgb_to_hsv ((stBody (b02 2)).getD 7 dummyS) F_rgb_to_hsv_7 := by
  constructor
  unfold F_rgb_to_hsv_7
  exact (ES.assign 9 (by kernel_rfl) (by kernel_rfl) (EV.bin (EV.bin (EV.var 3) (EV.var 1)) (EV.var 5)) (fun env he => (swapsWith_env he _ _ _).trans (by kernel_rfl)))
noncomputable def F_rgb_to_hsv_8 : Sig → Option (Fl × Sig) := (setF 10 (b2 .Div (b2 .Sub (vv 3) (vv 2)) (vv 5)))
theorem es_rgb_to_hsv_8 {C : Wd} (h : KOk C) (d : Nat) : ESw C (d + 0) D_rgb_to_hsv ((stBody (b02 2)).getD 8 dummyS) F_rgb_to_hsv_8 := by
  constructor
  unfold F_rgb_to_hsv_8
  exact (ES.assign 10 (by kernel_rfl) (by kernel_rfl) (EV.bin (EV.bin (EV.var 3) (EV.var 2)) (EV.var 5)) (fun env he => (swapsWith_env he _ _ _).trans (by kernel_rfl)))
noncomputable def F_rgb_to_hsv_9 : Sig → Option (Fl × Sig) := (ifF (c2 .Eq (vv 0) (vv 3)) (seqF (setF 11 (b2 .Sub (vv 10) (vv 9))) nextF) (seqF (ifF (c2 .Eq (vv 1) (vv 3)) (seqF (setF 11 (b2 .Sub (b2 .Add (cc (.flt 0x4000000000000000)) (vv 8)) (vv 10))) nextF) (seqF (setF 11 (b2 .Sub (b2 .Add (cc (.flt 0x4010000000000000)) (vv 9)) (vv 8))) nextF)) nextF))
theorem es_rgb_to_hsv_9 {C : Wd} (h : KOk C) (d : Nat) : ESw C (d + 0) D_rgb_to_hsv ((stBody (b02 2)).getD 9 dummyS) F_rgb_to_hsv_9 := by
  constructor
  unfold F_rgb_to_hsv_9
  exact (ES.ifS (IT.cmp (EV.var 0) (EV.var 3)) (EX.cons (ES.assign 11 (by kernel_rfl) (by kernel_rfl) (EV.bin (EV.var 10) (EV.var 9)) (fun env he => (swapsWith_env he _ _ _).trans (by kernel_rfl))) EX.nil) (EX.cons (ES.ifS (IT.cmp (EV.var 1) (EV.var 3)) (EX.cons (ES.assign 11 (by kernel_rfl) (by kernel_rfl) (EV.bin (EV.bin EV.flt (EV.var 8)) (EV.var 10)) (fun env he => (swapsWith_env he _ _ _).trans (by kernel_rfl))) EX.nil) (EX.cons (ES.assign 11 (by kernel_rfl) (by kernel_rfl) (EV.bin (EV.bin EV.flt (EV.var 9)) (EV.var 8)) (fun env he => (swapsWith_env he _ _ _).trans (by kernel_rfl))) EX.nil)) EX.nil))
noncomputable def F_rgb_to_hsv_10 : Sig → Option (Fl × Sig) := (setF 11 (b2 .Mod (b2 .Div (vv 11) (cc (.flt 0x4018000000000000))) (cc (.flt 0x3ff0000000000000))))
theorem es_rgb_to_hsv_10 {C : Wd} (h : KOk C) (d : Nat) : ESw C (d + 0) D_rgb_to_hsv ((stBody (b02 2)).getD 10 dummyS) F_rgb_to_hsv_10 := by
  constructor
  unfold F_rgb_to_hsv_10
  exact (ES.assign 11 (by kernel_rfl) (by kernel_rfl) (EV.bin (EV.bin (EV.var 11) EV.flt) EV.flt) (fun env he => (swapsWith_env he _ _ _).trans (by kernel_rfl)))
noncomputable def F_rgb_to_hsv_11 : Sig → Option (Fl × Sig) := (retF (tupO [(vv 11), (vv 7), (vv 6)]))
theorem es_rgb_to_hsv_11 {C : Wd} (h : KOk C) (d : Nat) : ESw C (d + 0) D_rgb_to_hsv ((stBody (b02 2)).getD 11 dummyS) F_rgb_to_hsv_11 := by
  constructor
  unfold F_rgb_to_hsv_11
  exact (ES.ret (EV.tuple (EVs.cons (EV.var 11) (by intros; rfl) (EVs.cons (EV.var 7) (by intros; rfl) (EVs.cons (EV.var 6) (by intros; rfl) EVs.nil)))))
theorem body_rgb_to_hsv : stBody (b02 2) = [(stBody (b02 2)).getD 0 dummyS, (stBody (b02 2)).getD 1 dummyS, (stBody (b02 2)).getD 2 dummyS, (stBody (b02 2)).getD 3 dummyS, (stBody (b02 2)).getD 4 dummyS, (stBody (b02 2)).getD 5 dummyS, (stBody (b02 2)).getD 6 dummyS, (stBody (b02 2)).getD 7 dummyS, (stBody (b02 2)).getD 8 dummyS, (stBody (b02 2)).getD 9 dummyS, (stBody (b02 2)).getD 10 dummyS, (stBody (b02 2)).getD 11 dummyS] := by kernel_rfl
noncomputable def F_rgb_to_hsv : Sig → Option (Fl × Sig) := (seqF F_rgb_to_hsv_0 (seqF F_rgb_to_hsv_1 (seqF F_rgb_to_hsv_2 (seqF F_rgb_to_hsv_3 (seqF F_rgb_to_hsv_4 (seqF F_rgb_to_hsv_5 (seqF F_rgb_to_hsv_6 (seqF F_rgb_to_hsv_7 (seqF F_rgb_to_hsv_8 (seqF F_rgb_to_hsv_9 (seqF F_rgb_to_hsv_10 (seqF F_rgb_to_hsv_11 nextF))))))))))))
noncomputable def Φ_rgb_to_hsv : List PV → Option PV := runF 3 F_rgb_to_hsv
theorem ok0_rgb_to_hsv : stOk [(Str.ofString "r"), (Str.ofString "g"), (Str.ofString "b")] (b02 2) = true := by decide +kernel
theorem ex_rgb_to_hsv {C : Wd} (h : KOk C) (d : Nat) : EXw C (d + 0) D_rgb_to_hsv (stBody (b02 2)) F_rgb_to_hsv := by
  refine EXw.body body_rgb_to_hsv ?_
  unfold F_rgb_to_hsv
  refine EXw.cons (es_rgb_to_hsv_0 h d) ?_
  refine EXw.cons (es_rgb_to_hsv_1 h d) ?_
  refine EXw.cons (es_rgb_to_hsv_2 h d) ?_
  refine EXw.cons (es_rgb_to_hsv_3 h d) ?_
  refine EXw.cons (es_rgb_to_hsv_4 h d) ?_
  refine EXw.cons (es_rgb_to_hsv_5 h d) ?_
  refine EXw.cons (es_rgb_to_hsv_6 h d) ?_
  refine EXw.cons (es_rgb_to_hsv_7 h d) ?_
  refine EXw.cons (es_rgb_to_hsv_8 h d) ?_
  refine EXw.cons (es_rgb_to_hsv_9 h d) ?_
  refine EXw.cons (es_rgb_to_hsv_10 h d) ?_
  refine EXw.cons (es_rgb_to_hsv_11 h d) ?_
  exact EXw.nil
theorem ok_rgb_to_hsv {C : Wd} (h : KOk C) (d : Nat) : CallOK C (d + 1) (.ref 28) Φ_rgb_to_hsv :=
  fn_okw (D := D_rgb_to_hsv) (d := d + 0) [(Str.ofString "r"), (Str.ofString "g"), (Str.ofString "b")] (f_rgb_to_hsv h) ok0_rgb_to_hsv rfl (by decide +kernel) (by decide +kernel) (by decide +kernel) (by decide +kernel) (by decide +kernel) (ex_rgb_to_hsv h d)
noncomputable def D_hsv_to_rgb : Fd := ⟨stNames (b02 3), [((Str.ofString "h"), 0), ((Str.ofString "s"), 1), ((Str.ofString "v"), 2), ((Str.ofString "i"), 3), ((Str.ofString "f"), 4), ((Str.ofString "p"), 5), ((Str.ofString "q"), 6), ((Str.ofString "t"), 7)], ownNames (stNames (b02 3)), 8, none⟩
noncomputable def F_hsv_to_rgb_0 : Sig → Option (Fl × Sig) := (ifF (c2 .Eq (vv 1) (cc (.flt 0x0000000000000000))) (seqF (retF (tupO [(vv 2), (vv 2), (vv 2)])) nextF) nextF)
theorem es_hsv_to_rgb_0 {C : Wd} (h : KOk C) (d : Nat) : ESw C (d + 0) D_hsv_to_rgb ((stBody (b02 3)).getD 0 dummyS) F_hsv_to_rgb_0 := by
  constructor
  unfold F_hsv_to_rgb_0
  exact (ES.ifS (IT.cmp (EV.var 1) EV.flt) (EX.cons (ES.ret (EV.tuple (EVs.cons (EV.var 2) (by intros; rfl) (EVs.cons (EV.var 2) (by intros; rfl) (EVs.cons (EV.var 2) (by intros; rfl) EVs.nil))))) EX.nil) EX.nil)
noncomputable def F_hsv_to_rgb_1 : Sig → Option (Fl × Sig) := (setF 3 (callO intΦ [(b2 .Mult (vv 0) (cc (.flt 0x4018000000000000)))]))
theorem es_hsv_to_rgb_1 {C : Wd} (h : KOk C) (d : Nat) : ESw C (d + 0) D_hsv_to_rgb ((stBody (b02 3)).getD 1 dummyS) F_hsv_to_rgb_1 := by
  constructor
  unfold F_hsv_to_rgb_1
  exact (ES.assign 3 (by kernel_rfl) (by kernel_rfl) (EV.callT (by kernel_rfl) (g_int h) (by kernel_rfl) (by decide) (by kernel_rfl) int_ok (EVs.cons (EV.bin (EV.var 0) EV.flt) (by intros; rfl) EVs.nil)) (fun env he => (swapsWith_env he _ _ _).trans (by kernel_rfl)))
noncomputable def F_hsv_to_rgb_2 : Sig → Option (Fl × Sig) := (setF 4 (b2 .Sub (b2 .Mult (vv 0) (cc (.flt 0x4018000000000000))) (vv 3)))
theorem es_hsv_to_rgb_2 {C : Wd} (h : KOk C) (d : Nat) : ESw C (d + 0) D_hsv_to_rgb ((stBody (b02 3)).getD 2 dummyS) F_hsv_to_rgb_2 := by
  constructor
  unfold F_hsv_to_rgb_2
  exact (ES.assign 4 (by kernel_rfl) (by kernel_rfl) (EV.bin (EV.bin (EV.var 0) EV.flt) (EV.var 3)) (fun env he => (swapsWith_env he _ _ _).trans (by kernel_rfl)))
noncomputable def F_hsv_to_rgb_3 : Sig → Option (Fl × Sig) := (setF 5 (b2 .Mult (vv 2) (b2 .Sub (cc (.flt 0x3ff0000000000000)) (vv 1))))
theorem es_hsv_to_rgb_3 {C : Wd} (h : KOk C) (d : Nat) : ESw C (d + 0) D_hsv_to_rgb ((stBody (b02 3)).getD 3 dummyS) F_hsv_to_rgb_3 := by
  constructor
  unfold F_hsv_to_rgb_3
  exact (ES.assign 5 (by kernel_rfl) (by kernel_rfl) (EV.bin (EV.var 2) (EV.bin EV.flt (EV.var 1))) (fun env he => (swapsWith_env he _ _ _).trans (by kernel_rfl)))
noncomputable def F_hsv_to_rgb_4 : Sig → Option (Fl × Sig) := (setF 6 (b2 .Mult (vv 2) (b2 .Sub (cc (.flt 0x3ff0000000000000)) (b2 .Mult (vv 1) (vv 4)))))
theorem es_hsv_to_rgb_4 {C : Wd} (h : KOk C) (d : Nat) : ESw C (d + 0) D_hsv_to_rgb ((stBody (b02 3)).getD 4 dummyS) F_hsv_to_rgb_4 := by
  constructor
  unfold F_hsv_to_rgb_4
  exact (ES.assign 6 (by kernel_rfl) (by kernel_rfl) (EV.bin (EV.var 2) (EV.bin EV.flt (EV.bin (EV.var 1) (EV.var 4)))) (fun env he => (swapsWith_env he _ _ _).trans (by kernel_rfl)))
noncomputable def F_hsv_to_rgb_5 : Sig → Option (Fl × Sig) := (setF 7 (b2 .Mult (vv 2) (b2 .Sub (cc (.flt 0x3ff0000000000000)) (b2 .Mult (vv 1) (b2 .Sub (cc (.flt 0x3ff0000000000000)) (vv 4))))))
theorem es_hsv_to_rgb_5 {C : Wd} (h : KOk C) (d : Nat) : ESw C (d + 0) D_hsv_to_rgb ((stBody (b02 3)).getD 5 dummyS) F_hsv_to_rgb_5 := by
  constructor
  unfold F_hsv_to_rgb_5
  exact (ES.assign 7 (by kernel_rfl) (by kernel_rfl) (EV.bin (EV.var 2) (EV.bin EV.flt (EV.bin (EV.var 1) (EV.bin EV.flt (EV.var 4))))) (fun env he => (swapsWith_env he _ _ _).trans (by kernel_rfl)))
noncomputable def F_hsv_to_rgb_6 : Sig → Option (Fl × Sig) := (setF 3 (b2 .Mod (vv 3) (cc (.int 6))))
theorem es_hsv_to_rgb_6 {C : Wd} (h : KOk C) (d : Nat) : ESw C (d + 0) D_hsv_to_rgb ((stBody (b02 3)).getD 6 dummyS) F_hsv_to_rgb_6 := by
  constructor
  unfold F_hsv_to_rgb_6
  exact (ES.assign 3 (by kernel_rfl) (by kernel_rfl) (EV.bin (EV.var 3) EV.int) (fun env he => (swapsWith_env he _ _ _).trans (by kernel_rfl)))
noncomputable def F_hsv_to_rgb_7 : Sig → Option (Fl × Sig) := (ifF (c2 .Eq (vv 3) (cc (.int 0))) (seqF (retF (tupO [(vv 2), (vv 7), (vv 5)])) nextF) nextF)
theorem es_hsv_to_rgb_7 {C : Wd} (h : KOk C) (d : Nat) : ESw C (d + 0) D_hsv_to_rgb ((stBody (b02 3)).getD 7 dummyS) F_hsv_to_rgb_7 := by
  constructor
  unfold F_hsv_to_rgb_7
  exact (ES.ifS (IT.cmp (EV.var 3) EV.int) (EX.cons (ES.ret (EV.tuple (EVs.cons (EV.var 2) (by intros; rfl) (EVs.cons (EV.var 7) (by intros; rfl) (EVs.cons (EV.var 5) (by intros; rfl) EVs.nil))))) EX.nil) EX.nil)
noncomputable def F_hsv_to_rgb_8 : Sig → Option (Fl × Sig) := (ifF (c2 .Eq (vv 3) (cc (.int 1))) (seqF (retF (tupO [(vv 6), (vv 2), (vv 5)])) nextF) nextF)
theorem es_hsv_to_rgb_8 {C : Wd} (h : KOk C) (d : Nat) : ESw C (d + 0) D_hsv_to_rgb ((stBody (b02 3)).getD 8 dummyS) F_hsv_to_rgb_8 := by
  constructor
  unfold F_hsv_to_rgb_8
  exact (ES.ifS (IT.cmp (EV.var 3) EV.int) (EX.cons (ES.ret (EV.tuple (EVs.cons (EV.var 6) (by intros; rfl) (EVs.cons (EV.var 2) (by intros; rfl) (EVs.cons (EV.var 5) (by intros; rfl) EVs.nil))))) EX.nil) EX.nil)
noncomputable def F_hsv_to_rgb_9 : Sig → Option (Fl × Sig) := (ifF (c2 .Eq (vv 3) (cc (.int 2))) (seqF (retF (tupO [(vv 5), (vv 2), (vv 7)])) nextF) nextF)
theorem es_hsv_to_rgb_9 {C : Wd} (h : KOk C) (d : Nat) : ESw C (d + 0) D_hsv_to_rgb ((stBody (b02 3)).getD 9 dummyS) F_hsv_to_rgb_9 := by
  constructor
  unfold F_hsv_to_rgb_9
  exact (ES.ifS (IT.cmp (EV.var 3) EV.int) (EX.cons (ES.ret (EV.tuple (EVs.cons (EV.var 5) (by intros; rfl) (EVs.cons (EV.var 2) (by intros; rfl) (EVs.cons (EV.var 7) (by intros; rfl) EVs.nil))))) EX.nil) EX.nil)
noncomputable def F_hsv_to_rgb_10 : Sig → Option (Fl × Sig) := (ifF (c2 .Eq (vv 3) (cc (.int 3))) (seqF (retF (tupO [(vv 5), (vv 6), (vv 2)])) nextF) nextF)
theorem es_hsv_to_rgb_10 {C : Wd} (h : KOk C) (d : Nat) : ESw C (d + 0) D_hsv_to_rgb ((stBody (b02 3)).getD 10 dummyS) F_hsv_to_rgb_10 := by
  constructor
  unfold F_hsv_to_rgb_10
  exact (ES.ifS (IT.cmp (EV.var 3) EV.int) (EX.cons (ES.ret (EV.tuple (EVs.cons (EV.var 5) (by intros; rfl) (EVs.cons (EV.var 6) (by intros; rfl) (EVs.cons (EV.var 2) (by intros; rfl) EVs.nil))))) EX.nil) EX.nil)
noncomputable def F_hsv_to_rgb_11 : Sig → Option (Fl × Sig) := (ifF (c2 .Eq (vv 3) (cc (.int 4))) (seqF (retF (tupO [(vv 7), (vv 5), (vv 2)])) nextF) nextF)
theorem es_hsv_to_rgb_11 {C : Wd} (h : KOk C) (d : Nat) : ESw C (d + 0) D_hsv_to_rgb ((stBody (b02 3)).getD 11 dummyS) F_hsv_to_rgb_11 := by
  constructor
  unfold F_hsv_to_rgb_11
  exact (ES.ifS (IT.cmp (EV.var 3) EV.int) (EX.cons (ES.ret (EV.tuple (EVs.cons (EV.var 7) (by intros; rfl) (EVs.cons (EV.var 5) (by intros; rfl) (EVs.cons (EV.var 2) (by intros; rfl) EVs.nil))))) EX.nil) EX.nil)
noncomputable def F_hsv_to_rgb_12 : Sig → Option (Fl × Sig) := (ifF (c2 .Eq (vv 3) (cc (.int 5))) (seqF (retF (tupO [(vv 2), (vv 5), (vv 6)])) nextF) nextF)
theorem es_hsv_to_rgb_12 {C : Wd} (h : KOk C) (d : Nat) : ESw C (d + 0) D_hsv_to_rgb ((stBody (b02 3)).getD 12 dummyS) F_hsv_to_rgb_12 := by
  constructor
  unfold F_hsv_to_rgb_12
  exact (ES.ifS (IT.cmp (EV.var 3) EV.int) (EX.cons (ES.ret (EV.tuple (EVs.cons (EV.var 2) (by intros; rfl) (EVs.cons (EV.var 5) (by intros; rfl) (EVs.cons (EV.var 6) (by intros; rfl) EVs.nil))))) EX.nil) EX.nil)
theorem body_hsv_to_rgb : stBody (b02 3) = [(stBody (b02 3)).getD 0 dummyS, (stBody (b02 3)).getD 1 dummyS, (stBody (b02 3)).getD 2 dummyS, (stBody (b02 3)).getD 3 dummyS, (stBody (b02 3)).getD 4 dummyS, (stBody (b02 3)).getD 5 dummyS, (stBody (b02 3)).getD 6 dummyS, (stBody (b02 3)).getD 7 dummyS, (stBody (b02 3)).getD 8 dummyS, (stBody (b02 3)).getD 9 dummyS, (stBody (b02 3)).getD 10 dummyS, (stBody (b02 3)).getD 11 dummyS, (stBody (b02 3)).getD 12 dummyS] := by kernel_rfl
noncomputable def F_hsv_to_rgb : Sig → Option (Fl × Sig) := (seqF F_hsv_to_rgb_0 (seqF F_hsv_to_rgb_1 (seqF F_hsv_to_rgb_2 (seqF F_hsv_to_rgb_3 (seqF F_hsv_to_rgb_4 (seqF F_hsv_to_rgb_5 (seqF F_hsv_to_rgb_6 (seqF F_hsv_to_rgb_7 (seqF F_hsv_to_rgb_8 (seqF F_hsv_to_rgb_9 (seqF F_hsv_to_rgb_10 (seqF F_hsv_to_rgb_11 (seqF F_hsv_to_rgb_12 nextF)))))))))))))
noncomputable def Φ_hsv_to_rgb : List PV → Option PV := runF 3 F_hsv_to_rgb
theorem ok0_hsv_to_rgb : stOk [(Str.ofString "h"), (Str.ofString "s"), (Str.ofString "v")] (b02 3) = true := by decide +kernel
theorem ex_hsv_to_rgb {C : Wd} (h : KOk C) (d : Nat) : EXw C (d + 0) D_hsv_to_rgb (stBody (b02 3)) F_hsv_to_rgb := by
  refine EXw.body body_hsv_to_rgb ?_
  unfold F_hsv_to_rgb
  refine EXw.cons (es_hsv_to_rgb_0 h d) ?_
  refine EXw.cons (es_hsv_to_rgb_1 h d) ?_
  refine EXw.cons (es_hsv_to_rgb_2 h d) ?_
  refine EXw.cons (es_hsv_to_rgb_3 h d) ?_
  refine EXw.cons (es_hsv_to_rgb_4 h d) ?_
  refine EXw.cons (es_hsv_to_rgb_5 h d) ?_
  refine EXw.cons (es_hsv_to_rgb_6 h d) ?_
  refine EXw.cons (es_hsv_to_rgb_7 h d) ?_
  refine EXw.cons (es_hsv_to_rgb_8 h d) ?_
  refine EXw.cons (es_hsv_to_rgb_9 h d) ?_
  refine EXw.cons (es_hsv_to_rgb_10 h d) ?_
  refine EXw.cons (es_hsv_to_rgb_11 h d) ?_
  refine EXw.cons (es_hsv_to_rgb_12 h d) ?_
  exact EXw.nil
theorem ok_hsv_to_rgb {C : Wd} (h : KOk C) (d : Nat) : CallOK C (d + 1) (.ref 35) Φ_hsv_to_rgb :=
  fn_okw (D := D_hsv_to_rgb) (d := d + 0) [(Str.ofString "h"), (Str.ofString "s"), (Str.ofString "v")] (f_hsv_to_rgb h) ok0_hsv_to_rgb rfl (by decide +kernel) (by decide +kernel) (by decide +kernel) (by decide +kernel) (by decide +kernel) (ex_hsv_to_rgb h d)
noncomputable def D_ISTERMINAL : Fd := ⟨stNames (b02 61), [((Str.ofString "x"), 0)], ownNames (stNames (b02 61)), 1, none⟩
noncomputable def F_ISTERMINAL : Sig → Option (Fl × Sig) := (seqF (retF (ofB (c2 .Lt (vv 0) (cc (.int 256))))) nextF)
noncomputable def Φ_ISTERMINAL : List PV → Option PV := runF 1 F_ISTERMINAL
theorem ok0_ISTERMINAL : stOk [(Str.ofString "x")] (b02 61) = true := by decide +kernel
theorem ex_ISTERMINAL {C : Wd} (h : KOk C) (d : Nat) : EXw C (d + 0) D_ISTERMINAL (stBody (b02 61)) F_ISTERMINAL := by
  constructor
  unfold F_ISTERMINAL
  exact (EX.cons (ES.ret (EV.cmp (EV.var 0) (EV.glob (.int 256) (by kernel_rfl) (g_NT_OFFSET h) (fun ž1 ž2 => .int _ _) (by kernel_rfl)))) EX.nil)
theorem ok_ISTERMINAL {C : Wd} (h : KOk C) (d : Nat) : CallOK C (d + 1) (.ref 94) Φ_ISTERMINAL :=
  fn_okw (D := D_ISTERMINAL) (d := d + 0) [(Str.ofString "x")] (f_ISTERMINAL h) ok0_ISTERMINAL rfl (by decide +kernel) (by decide +kernel) (by decide +kernel) (by decide +kernel) (by decide +kernel) (ex_ISTERMINAL h d)
noncomputable def D_ISNONTERMINAL : Fd := ⟨stNames (b02 62), [((Str.ofString "x"), 0)], ownNames (stNames (b02 62)), 1, none⟩
noncomputable def F_ISNONTERMINAL : Sig → Option (Fl × Sig) := (seqF (retF (ofB (c2 .GtE (vv 0) (cc (.int 256))))) nextF)
noncomputable def Φ_ISNONTERMINAL : List PV → Option PV := runF 1 F_ISNONTERMINAL
theorem ok0_ISNONTERMINAL : stOk [(Str.ofString "x")] (b02 62) = true := by decide +kernel
theorem ex_ISNONTERMINAL {C : Wd} (h : KOk C) (d : Nat) : EXw C (d + 0) D_ISNONTERMINAL (stBody (b02 62)) F_ISNONTERMINAL := by
  constructor
  unfold F_ISNONTERMINAL
  exact (EX.cons (ES.ret (EV.cmp (EV.var 0) (EV.glob (.int 256) (by kernel_rfl) (g_NT_OFFSET h) (fun ž1 ž2 => .int _ _) (by kernel_rfl)))) EX.nil)
theorem ok_ISNONTERMINAL {C : Wd} (h : KOk C) (d : Nat) : CallOK C (d + 1) (.ref 101) Φ_ISNONTERMINAL :=
  fn_okw (D := D_ISNONTERMINAL) (d := d + 0) [(Str.ofString "x")] (f_ISNONTERMINAL h) ok0_ISNONTERMINAL rfl (by decide +kernel) (by decide +kernel) (by decide +kernel) (by decide +kernel) (by decide +kernel) (ex_ISNONTERMINAL h d)
noncomputable def D_ISEOF : Fd := ⟨stNames (b02 63), [((Str.ofString "x"), 0)], ownNames (stNames (b02 63)), 1, none⟩
noncomputable def F_ISEOF : Sig → Option (Fl × Sig) := (seqF (retF (ofB (c2 .Eq (vv 0) (cc (.int 0))))) nextF)
noncomputable def Φ_ISEOF : List PV → Option PV := runF 1 F_ISEOF
theorem ok0_ISEOF : stOk [(Str.ofString "x")] (b02 63) = true := by decide +kernel
theorem ex_ISEOF {C : Wd} (h : KOk C) (d : Nat) : EXw C (d + 0) D_ISEOF (stBody (b02 63)) F_ISEOF := by
  constructor
  unfold F_ISEOF
  exact (EX.cons (ES.ret (EV.cmp (EV.var 0) (EV.glob (.int 0) (by kernel_rfl) (g_ENDMARKER h) (fun ž1 ž2 => .int _ _) (by kernel_rfl)))) EX.nil)
theorem ok_ISEOF {C : Wd} (h : KOk C) (d : Nat) : CallOK C (d + 1) (.ref 108) Φ_ISEOF :=
  fn_okw (D := D_ISEOF) (d := d + 0) [(Str.ofString "x")] (f_ISEOF h) ok0_ISEOF rfl (by decide +kernel) (by decide +kernel) (by decide +kernel) (by decide +kernel) (by decide +kernel) (ex_ISEOF h d)
end
section
noncomputable def D_law_cut : Fd := ⟨stNames (b02 65), [((Str.ofString "text"), 0), ((Str.ofString "symbols"), 1), ((Str.ofString "piece"), 2)], ownNames (stNames (b02 65)), 3, none⟩
noncomputable def F_law_cut : Sig → Option (Fl × Sig) := (seqF (setL 1 (olL [])) (seqF (whileF (c2 .NotEq (vv 0) (cc (.str (Str.ofString "")))) (seqF (setF 2 (i2 (compO .lst (setK 4) [4] (orO (c2 .Eq (vv 4) (cc (.int 1))) (c2 .In (sl2 (vv 0) noO (ptO (vv 4))) (cc (.dct tkD)))) (oneO (sl2 (vv 0) noO (ptO (vv 4)))) 3 (itF (tupO [(cc (.int 3)), (cc (.int 2)), (cc (.int 1))]))) (cc (.int 0)))) (seqF (extO 1 (iteO (c2 .NotEq (vv 2) (cc (.str (Str.ofString " ")))) (lstO [(methO "dict" getΦ (cc (.dct tkD)) [(vv 2), (b2 .Sub (b2 .Add (cc (.int 256)) (callO ordΦ [(i2 (vv 2) (cc (.int 0)))])) (cc (.int 97)))])]) (lstO []))) (seqF (setF 0 (sl2 (vv 0) (ptO (callO lenΦ [(vv 2)])) noO)) nextF))) 60) (frz 1 (seqF (retF (b2 .Add (vv 1) (lstO [(cc (.int 0))]))) nextF))))
noncomputable def Φ_law_cut : List PV → Option PV := runF 1 F_law_cut
theorem ok0_law_cut : stOk [(Str.ofString "text")] (b02 65) = true := by decide +kernel
theorem ex_law_cut {C : Wd} (h : KOk C) (d : Nat) : EXw C (d + 0) D_law_cut (stBody (b02 65)) F_law_cut := by
  constructor
  unfold F_law_cut
  exact (EX.cons (ES.assignL 1 (by kernel_rfl) (by kernel_rfl) (EL.list EVs.nil) (fun env he => (swapsWith_env he _ _ _).trans (by kernel_rfl))) (EX.cons (ES.whileS 60 (IT.cmp (EV.var 0) EV.str) (EX.cons (ES.assign 2 (by kernel_rfl) (by kernel_rfl) (EV.item (EV.comp (is := [4]) (by kernel_rfl) (EI.ofEV (EV.tuple (EVs.cons EV.int (by intros; rfl) (EVs.cons EV.int (by intros; rfl) (EVs.cons EV.int (by intros; rfl) EVs.nil))))) (AT.name 4 (by kernel_rfl) (by kernel_rfl)) (setK_out 4) (TsOK.one (IT.or (IT.cmp (EV.var 4) EV.int) (IT.cmp (EV.slice (EV.var 0) PT.no' (PT.at' (EV.var 4))) (EV.glob (.dct tkD) (by kernel_rfl) (g_EXACT_TOKEN_TYPES h) (tk_rep h) (by kernel_rfl))))) (EV.slice (EV.var 0) PT.no' (PT.at' (EV.var 4)))) EV.int) (fun env he => (swapsWith_env he _ _ _).trans (by kernel_rfl))) (EX.cons (ES.extend 1 (by kernel_rfl) (EVs.cons (EV.ite (IT.cmp (EV.var 2) EV.str) (EV.list (EVs.cons (EV.meth (EV.glob (.dct tkD) (by kernel_rfl) (g_EXACT_TOKEN_TYPES h) (tk_rep h) (by kernel_rfl)) (EVs.cons (EV.var 2) (by intros; rfl) (EVs.cons (EV.bin (EV.bin (EV.glob (.int 256) (by kernel_rfl) (g_NT_OFFSET h) (fun ž1 ž2 => .int _ _) (by kernel_rfl)) (EV.callB (by kernel_rfl) (g_ord h) (by kernel_rfl) (by decide) (by kernel_rfl) ord_ok (EVs.cons (EV.item (EV.var 2) EV.int) (by intros; rfl) EVs.nil))) EV.int) (by intros; rfl) EVs.nil)) get_ok F.plainAttrs_dict F.slot_dict_get F.type_dict_get) (by intros; rfl) EVs.nil)) (EV.list EVs.nil)) (by intros; rfl) EVs.nil) (by kernel_rfl) (by kernel_rfl)) (EX.cons (ES.assign 0 (by kernel_rfl) (by kernel_rfl) (EV.slice (EV.var 0) (PT.at' (EV.callB (by kernel_rfl) (g_len h) (by kernel_rfl) (by decide) (by kernel_rfl) len_ok (EVs.cons (EV.var 2) (by intros; rfl) EVs.nil))) PT.no') (fun env he => (swapsWith_env he _ _ _).trans (by kernel_rfl))) EX.nil)))) (EX.freeze (x := (Str.ofString "symbols")) 1 (by kernel_rfl) (EX.cons (ES.ret (EV.bin (EV.var 1) (EV.list (EVs.cons (EV.glob (.int 0) (by kernel_rfl) (g_ENDMARKER h) (fun ž1 ž2 => .int _ _) (by kernel_rfl)) (by intros; rfl) EVs.nil)))) EX.nil))))
theorem ok_law_cut {C : Wd} (h : KOk C) (d : Nat) : CallOK C (d + 1) (.ref 113) Φ_law_cut :=
  fn_okw (D := D_law_cut) (d := d + 0) [(Str.ofString "text")] (f_law_cut h) ok0_law_cut rfl (by decide +kernel) (by decide +kernel) (by decide +kernel) (by decide +kernel) (by decide +kernel) (ex_law_cut h d)
noncomputable def D_law_orders : Fd := ⟨stNames (b02 66), [((Str.ofString "content"), 0), ((Str.ofString "signs"), 1), ((Str.ofString "rows"), 2), ((Str.ofString "size"), 3), ((Str.ofString "longer"), 4), ((Str.ofString "row"), 5), ((Str.ofString "falls"), 6), ((Str.ofString "kind"), 7)], ownNames (stNames (b02 66)), 8, none⟩
noncomputable def F_law_orders : Sig → Option (Fl × Sig) := (seqF (setF 2 (lstO [(tupO [(tupO []), (cc (.int 0))])])) (seqF (loopF (itF (callO rangeΦ [(cc (.int 6))])) (setK 3) (seqF (setL 4 (olL [])) (seqF (loopF (itF (vv 2)) (tupK [5, 6]) (seqF (loopF (itF (compO .lst (setK 9) [9] (c2 .Lt (methO "tuple" tcntΦ (vv 5) [(vv 9)]) (i2 (vv 0) (vv 9))) (oneO (vv 9)) 8 (itF (callO rangeΦ [(cc (.int 3))])))) (setK 7) (seqF (appO 4 (tupO [(b2 .Add (vv 5) (tupO [(vv 7)])), (b2 .Add (vv 6) (iteO (andO (c2 .Gt (vv 3) (cc (.int 0))) (c2 .Eq (i2 (i2 (vv 1) (i2 (vv 5) (negF (cc (.int 1))))) (vv 7)) (cc (.str (Str.ofString "1"))))) (vv 3) (cc (.int 0))))])) nextF)) nextF)) (frz 4 (seqF (setF 2 (vv 4)) nextF))))) (seqF (retF (vv 2)) nextF)))
noncomputable def Φ_law_orders : List PV → Option PV := runF 2 F_law_orders
theorem ok0_law_orders : stOk [(Str.ofString "content"), (Str.ofString "signs")] (b02 66) = true := by decide +kernel
theorem ex_law_orders {C : Wd} (h : KOk C) (d : Nat) : EXw C (d + 0) D_law_orders (stBody (b02 66)) F_law_orders := by
  constructor
  unfold F_law_orders
  exact (EX.cons (ES.assign 2 (by kernel_rfl) (by kernel_rfl) (EV.list (EVs.cons (EV.tuple (EVs.cons (EV.tuple EVs.nil) (by intros; rfl) (EVs.cons EV.int (by intros; rfl) EVs.nil))) (by intros; rfl) EVs.nil)) (fun env he => (swapsWith_env he _ _ _).trans (by kernel_rfl))) (EX.cons (ES.forS (EI.ofEV (EV.callT (by kernel_rfl) (g_range h) (by kernel_rfl) (by decide) (by kernel_rfl) range_ok (EVs.cons EV.int (by intros; rfl) EVs.nil))) (AT.name 3 (by kernel_rfl) (by kernel_rfl)) (EX.cons (ES.assignL 4 (by kernel_rfl) (by kernel_rfl) (EL.list EVs.nil) (fun env he => (swapsWith_env he _ _ _).trans (by kernel_rfl))) (EX.cons (ES.forS (EI.ofEV (EV.var 2)) (AT.tuple (Names.cons (i := 5) (by kernel_rfl) (by kernel_rfl) (Names.cons (i := 6) (by kernel_rfl) (by kernel_rfl) Names.nil)) false) (EX.cons (ES.forS (EI.ofEV (EV.comp (is := [9]) (by kernel_rfl) (EI.ofEV (EV.callT (by kernel_rfl) (g_range h) (by kernel_rfl) (by decide) (by kernel_rfl) range_ok (EVs.cons EV.int (by intros; rfl) EVs.nil))) (AT.name 9 (by kernel_rfl) (by kernel_rfl)) (setK_out 9) (TsOK.one (IT.cmp (EV.meth (EV.var 5) (EVs.cons (EV.var 9) (by intros; rfl) EVs.nil) count_tup_ok F.plainAttrs_tuple F.slot_tuple_count F.type_tuple_count) (EV.item (EV.var 0) (EV.var 9)))) (EV.var 9))) (AT.name 7 (by kernel_rfl) (by kernel_rfl)) (EX.cons (ES.append 4 (by kernel_rfl) (EVs.cons (EV.tuple (EVs.cons (EV.bin (EV.var 5) (EV.tuple (EVs.cons (EV.var 7) (by intros; rfl) EVs.nil))) (by intros; rfl) (EVs.cons (EV.bin (EV.var 6) (EV.ite (IT.and (IT.cmp (EV.var 3) EV.int) (IT.cmp (EV.item (EV.item (EV.var 1) (EV.item (EV.var 5) (EV.neg EV.int))) (EV.var 7)) EV.str)) (EV.var 3) EV.int)) (by intros; rfl) EVs.nil))) (by intros; rfl) EVs.nil) (by kernel_rfl) (by kernel_rfl)) EX.nil)) EX.nil)) (EX.freeze (x := (Str.ofString "longer")) 4 (by kernel_rfl) (EX.cons (ES.assign 2 (by kernel_rfl) (by kernel_rfl) (EV.var 4) (fun env he => (swapsWith_env he _ _ _).trans (by kernel_rfl))) EX.nil))))) (EX.cons (ES.ret (EV.var 2)) EX.nil)))
theorem ok_law_orders {C : Wd} (h : KOk C) (d : Nat) : CallOK C (d + 1) (.ref 118) Φ_law_orders :=
  fn_okw (D := D_law_orders) (d := d + 0) [(Str.ofString "content"), (Str.ofString "signs")] (f_law_orders h) ok0_law_orders rfl (by decide +kernel) (by decide +kernel) (by decide +kernel) (by decide +kernel) (by decide +kernel) (ex_law_orders h d)
noncomputable def D_law_part : Fd := ⟨stNames (b02 67), [((Str.ofString "place"), 0), ((Str.ofString "share"), 1)], ownNames (stNames (b02 67)), 2, none⟩
noncomputable def F_law_part : Sig → Option (Fl × Sig) := (seqF (retF (b2 .Sub (cc (.int 32)) (b2 .Mult (vv 1) (callO minΦ [(callO maxΦ [(b2 .Sub (callO absΦ [(b2 .Sub (b2 .Mod (b2 .Add (vv 0) (cc (.int 24))) (cc (.int 48))) (cc (.int 24)))]) (cc (.int 8))), (cc (.int 0))]), (cc (.int 8))])))) nextF)
noncomputable def Φ_law_part : List PV → Option PV := runF 2 F_law_part
theorem ok0_law_part : stOk [(Str.ofString "place"), (Str.ofString "share")] (b02 67) = true := by decide +kernel
theorem ex_law_part {C : Wd} (h : KOk C) (d : Nat) : EXw C (d + 0) D_law_part (stBody (b02 67)) F_law_part := by
  constructor
  unfold F_law_part
  exact (EX.cons (ES.ret (EV.bin EV.int (EV.bin (EV.var 1) (EV.callB (by kernel_rfl) (g_min h) (by kernel_rfl) (by decide) (by kernel_rfl) min_ok (EVs.cons (EV.callB (by kernel_rfl) (g_max h) (by kernel_rfl) (by decide) (by kernel_rfl) max_ok (EVs.cons (EV.bin (EV.callB (by kernel_rfl) (g_abs h) (by kernel_rfl) (by decide) (by kernel_rfl) abs_ok (EVs.cons (EV.bin (EV.bin (EV.bin (EV.var 0) EV.int) EV.int) EV.int) (by intros; rfl) EVs.nil)) EV.int) (by intros; rfl) (EVs.cons EV.int (by intros; rfl) EVs.nil))) (by intros; rfl) (EVs.cons EV.int (by intros; rfl) EVs.nil)))))) EX.nil)
theorem ok_law_part {C : Wd} (h : KOk C) (d : Nat) : CallOK C (d + 1) (.ref 125) Φ_law_part :=
  fn_okw (D := D_law_part) (d := d + 0) [(Str.ofString "place"), (Str.ofString "share")] (f_law_part h) ok0_law_part rfl (by decide +kernel) (by decide +kernel) (by decide +kernel) (by decide +kernel) (by decide +kernel) (ex_law_part h d)
end
section
noncomputable def D_add_callers : Fd := ⟨stNames (b02 7), [((Str.ofString "target"), 0), ((Str.ofString "source"), 1), ((Str.ofString "new_callers"), 2), ((Str.ofString "func"), 3), ((Str.ofString "caller"), 4)], ownNames (stNames (b02 7)), 5, some 76⟩
theorem inj_add_callers : D_add_callers.Inj := Fd.inj_of (by decide +kernel)
noncomputable def F_add_callers_0 : Sig → Option (Fl × Sig) := (setL 2 odL)
theorem es_add_callers_0 {C : Wd} (h : KOk C) (d : Nat) : ESw C (d + 0) D_add_callers ((stBody (b02 7)).getD 0 dummyS) F_add_callers_0 := by
  constructor
  unfold F_add_callers_0
  exact (ES.assignL 2 (by kernel_rfl) (by kernel_rfl) EL.dict0 (fun env he => (swapsWith_env he _ _ _).trans (by kernel_rfl)))
noncomputable def F_add_callers_1 : Sig → Option (Fl × Sig) := (loopF (itemsF (vv 0)) (tupK [3, 4]) (seqF (setO 2 (vv 4) (vv 3)) nextF))
theorem es_add_callers_1 {C : Wd} (h : KOk C) (d : Nat) : ESw C (d + 0) D_add_callers ((stBody (b02 7)).getD 1 dummyS) F_add_callers_1 := by
  constructor
  unfold F_add_callers_1
  exact (ES.forS (EI.items (EV.var 0)) (AT.tuple (Names.cons (i := 3) (by kernel_rfl) (by kernel_rfl) (Names.cons (i := 4) (by kernel_rfl) (by kernel_rfl) Names.nil)) true) (EX.cons (ES.setitem 2 (by kernel_rfl) (EV.var 4) (EV.var 3) (hd := (by kernel_rfl)) (hc := (by kernel_rfl)) (hs := (by kernel_rfl))) EX.nil))
noncomputable def F_add_callers_2 : Sig → Option (Fl × Sig) := (loopF (itemsF (vv 1)) (tupK [3, 4]) (seqF (ifF (oinO 2 (vv 3)) (seqF (ifF (truF (callO isi2Φ [(vv 4), (cc (.obj (.type "tuple")))])) (seqF (setO 2 (tsum2 (vv 4) (oi2 2 (vv 3))) (vv 3)) nextF) (seqF (augO .Add 2 (vv 3) (vv 4)) nextF)) nextF) (seqF (setO 2 (vv 4) (vv 3)) nextF)) nextF))
theorem es_add_callers_2 {C : Wd} (h : KOk C) (d : Nat) : ESw C (d + 0) D_add_callers ((stBody (b02 7)).getD 2 dummyS) F_add_callers_2 := by
  constructor
  unfold F_add_callers_2
  exact (ES.forS (EI.items (EV.var 1)) (AT.tuple (Names.cons (i := 3) (by kernel_rfl) (by kernel_rfl) (Names.cons (i := 4) (by kernel_rfl) (by kernel_rfl) Names.nil)) true) (EX.cons (ES.ifS (IT.oin 2 inj_add_callers (by kernel_rfl) (EV.var 3)) (EX.cons (ES.ifS (IT.val (EV.callB (by kernel_rfl) (g_isinstance h) (by kernel_rfl) (by decide) (by kernel_rfl) isi2_ok (EVs.cons (EV.var 4) (by intros; rfl) (EVs.cons (EV.built (v := .type "tuple") (by kernel_rfl) (g_tuple h) (by kernel_rfl) (by decide) (by kernel_rfl)) (by intros; rfl) EVs.nil)))) (EX.cons (ES.setitem 2 (by kernel_rfl) (EV.tupSum rfl ⟨72, h.cd⟩ h.bm (g_builtins__ h) (by kernel_rfl) (g_tuple h) (by kernel_rfl) (g_zip h) (EVs.cons (EV.var 4) (by intros; rfl) (EVs.cons (EV.oitem 2 inj_add_callers (by kernel_rfl) (EV.var 3)) (by intros; rfl) EVs.nil))) (EV.var 3) (hd := (by kernel_rfl)) (hc := (by kernel_rfl)) (hs := (by kernel_rfl))) EX.nil) (EX.cons (ES.augitem 2 (by kernel_rfl) (EV.var 4) (EV.var 3) (by kernel_rfl) (by kernel_rfl)) EX.nil)) EX.nil) (EX.cons (ES.setitem 2 (by kernel_rfl) (EV.var 4) (EV.var 3) (hd := (by kernel_rfl)) (hc := (by kernel_rfl)) (hs := (by kernel_rfl))) EX.nil)) EX.nil))
noncomputable def F_add_callers_3 : Sig → Option (Fl × Sig) := (retF (vv 2))
theorem es_add_callers_3 {C : Wd} (h : KOk C) (d : Nat) : ESw C (d + 0) D_add_callers ((stBody (b02 7)).getD 3 dummyS) F_add_callers_3 := by
  constructor
  unfold F_add_callers_3
  exact (ES.ret (EV.var 2))
theorem body_add_callers : stBody (b02 7) = [(stBody (b02 7)).getD 0 dummyS, (stBody (b02 7)).getD 1 dummyS, (stBody (b02 7)).getD 2 dummyS, (stBody (b02 7)).getD 3 dummyS] := by kernel_rfl
noncomputable def F_add_callers : Sig → Option (Fl × Sig) := (seqF F_add_callers_0 (seqF F_add_callers_1 (seqF F_add_callers_2 (frz 2 (seqF F_add_callers_3 nextF)))))
noncomputable def Φ_add_callers : List PV → Option PV := runF 2 F_add_callers
theorem ok0_add_callers : stOk [(Str.ofString "target"), (Str.ofString "source")] (b02 7) = true := by decide +kernel
theorem ex_add_callers {C : Wd} (h : KOk C) (d : Nat) : EXw C (d + 0) D_add_callers (stBody (b02 7)) F_add_callers := by
  refine EXw.body body_add_callers ?_
  unfold F_add_callers
  refine EXw.cons (es_add_callers_0 h d) ?_
  refine EXw.cons (es_add_callers_1 h d) ?_
  refine EXw.cons (es_add_callers_2 h d) ?_
  refine EXw.freeze (Str.ofString "new_callers") 2 (by kernel_rfl) ?_
  refine EXw.cons (es_add_callers_3 h d) ?_
  exact EXw.nil
theorem ok_add_callers {C : Wd} (h : KOk C) (d : Nat) : CallOK C (d + 1) (.ref 77) Φ_add_callers :=
  fn_okw (D := D_add_callers) (d := d + 0) [(Str.ofString "target"), (Str.ofString "source")] (f_add_callers h) ok0_add_callers rfl (by decide +kernel) (by decide +kernel) (by decide +kernel) (by decide +kernel) (by decide +kernel) (ex_add_callers h d) (fun c e => by obtain rfl := sj e; exact h.code)
noncomputable def D_add_func_stats : Fd := ⟨stNames (b02 6), [((Str.ofString "target"), 0), ((Str.ofString "source"), 1), ((Str.ofString "cc"), 2), ((Str.ofString "nc"), 3), ((Str.ofString "tt"), 4), ((Str.ofString "ct"), 5), ((Str.ofString "callers"), 6), ((Str.ofString "t_cc"), 7), ((Str.ofString "t_nc"), 8), ((Str.ofString "t_tt"), 9), ((Str.ofString "t_ct"), 10), ((Str.ofString "t_callers"), 11)], ownNames (stNames (b02 6)), 12, none⟩
noncomputable def F_add_func_stats : Sig → Option (Fl × Sig) := (seqF (unF [2, 3, 4, 5, 6] (vv 1)) (seqF (unF [7, 8, 9, 10, 11] (vv 0)) (seqF (retF (tupO [(b2 .Add (vv 2) (vv 7)), (b2 .Add (vv 3) (vv 8)), (b2 .Add (vv 4) (vv 9)), (b2 .Add (vv 5) (vv 10)), (callO Φ_add_callers [(vv 11), (vv 6)])])) nextF)))
noncomputable def Φ_add_func_stats : List PV → Option PV := runF 2 F_add_func_stats
theorem ok0_add_func_stats : stOk [(Str.ofString "target"), (Str.ofString "source")] (b02 6) = true := by decide +kernel
theorem ex_add_func_stats {C : Wd} (h : KOk C) (d : Nat) : EXw C (d + 1) D_add_func_stats (stBody (b02 6)) F_add_func_stats := by
  constructor
  unfold F_add_func_stats
  exact (EX.cons (ES.unpack (Names.cons (i := 2) (by kernel_rfl) (by kernel_rfl) (Names.cons (i := 3) (by kernel_rfl) (by kernel_rfl) (Names.cons (i := 4) (by kernel_rfl) (by kernel_rfl) (Names.cons (i := 5) (by kernel_rfl) (by kernel_rfl) (Names.cons (i := 6) (by kernel_rfl) (by kernel_rfl) Names.nil))))) (EV.var 1) (fun env he => (swapsSole_env he _ _ _).trans (by kernel_rfl)) (fun env he => (swappedStores_env he _ _).trans (by kernel_rfl))) (EX.cons (ES.unpack (Names.cons (i := 7) (by kernel_rfl) (by kernel_rfl) (Names.cons (i := 8) (by kernel_rfl) (by kernel_rfl) (Names.cons (i := 9) (by kernel_rfl) (by kernel_rfl) (Names.cons (i := 10) (by kernel_rfl) (by kernel_rfl) (Names.cons (i := 11) (by kernel_rfl) (by kernel_rfl) Names.nil))))) (EV.var 0) (fun env he => (swapsSole_env he _ _ _).trans (by kernel_rfl)) (fun env he => (swappedStores_env he _ _).trans (by kernel_rfl))) (EX.cons (ES.ret (EV.tuple (EVs.cons (EV.bin (EV.var 2) (EV.var 7)) (by intros; rfl) (EVs.cons (EV.bin (EV.var 3) (EV.var 8)) (by intros; rfl) (EVs.cons (EV.bin (EV.var 4) (EV.var 9)) (by intros; rfl) (EVs.cons (EV.bin (EV.var 5) (EV.var 10)) (by intros; rfl) (EVs.cons (EV.call (ok_add_callers h (d + 0)) (g_add_callers h) (keep_of (f_add_callers h) ok0_add_callers).1 (EVs.cons (EV.var 11) (by intros; rfl) (EVs.cons (EV.var 6) (by intros; rfl) EVs.nil)) (by kernel_rfl) (by kernel_rfl)) (by intros; rfl) EVs.nil))))))) EX.nil)))
theorem ok_add_func_stats {C : Wd} (h : KOk C) (d : Nat) : CallOK C (d + 2) (.ref 70) Φ_add_func_stats :=
  fn_okw (D := D_add_func_stats) (d := d + 1) [(Str.ofString "target"), (Str.ofString "source")] (f_add_func_stats h) ok0_add_func_stats rfl (by decide +kernel) (by decide +kernel) (by decide +kernel) (by decide +kernel) (by decide +kernel) (ex_add_func_stats h d)
end
section
noncomputable def D_law : Fd := ⟨stNames (b02 68), [((Str.ofString "script"), 0), ((Str.ofString "numbers"), 1), ((Str.ofString "place"), 2), ((Str.ofString "number"), 3), ((Str.ofString "rest"), 4), ((Str.ofString "typed"), 5), ((Str.ofString "kinds"), 6), ((Str.ofString "texts"), 7), ((Str.ofString "drawn"), 8), ((Str.ofString "k"), 9), ((Str.ofString "symbols"), 10), ((Str.ofString "symbol"), 11), ((Str.ofString "turn"), 12), ((Str.ofString "first"), 13), ((Str.ofString "share"), 14), ((Str.ofString "begin"), 15), ((Str.ofString "columns"), 16), ((Str.ofString "judge"), 17), ((Str.ofString "keys"), 18), ((Str.ofString "signs"), 19), ((Str.ofString "orders"), 20), ((Str.ofString "empty"), 21), ((Str.ofString "book"), 22), ((Str.ofString "row"), 23), ((Str.ofString "falls"), 24), ((Str.ofString "more"), 25), ((Str.ofString "turns"), 26), ((Str.ofString "due"), 27), ((Str.ofString "mix"), 28), ((Str.ofString "met"), 29), ((Str.ofString "light"), 30), ((Str.ofString "still"), 31), ((Str.ofString "high"), 32), ((Str.ofString "hue"), 33), ((Str.ofString "both"), 34), ((Str.ofString "told"), 35)], ownNames (stNames (b02 68)), 36, none⟩
noncomputable def F_law_0 : Sig → Option (Fl × Sig) := (setL 1 (olL [(cc (.int 168)), (cc (.int 2648884))]))
theorem es_law_0 {C : Wd} (h : KOk C) (d : Nat) : ESw C (d + 3) D_law ((stBody (b02 68)).getD 0 dummyS) F_law_0 := by
  constructor
  unfold F_law_0
  exact (ES.assignL 1 (by kernel_rfl) (by kernel_rfl) (EL.list (EVs.cons EV.int (by intros; rfl) (EVs.cons EV.int (by intros; rfl) EVs.nil))) (fun env he => (swapsWith_env he _ _ _).trans (by kernel_rfl)))
noncomputable def F_law_1 : Sig → Option (Fl × Sig) := (loopF (enumF (sl2 (vv 0) noO (ptO (cc (.int 60))))) (tupK [2, 3]) (seqF (augO .Add 1 (b2 .Mod (vv 2) (cc (.int 2))) (vv 3)) nextF))
theorem es_law_1 {C : Wd} (h : KOk C) (d : Nat) : ESw C (d + 3) D_law ((stBody (b02 68)).getD 1 dummyS) F_law_1 := by
  constructor
  unfold F_law_1
  exact (ES.forS (EI.enum (EV.slice (EV.var 0) PT.no' (PT.at' EV.int)) (by kernel_rfl) (g_enumerate h)) (AT.tuple (Names.cons (i := 2) (by kernel_rfl) (by kernel_rfl) (Names.cons (i := 3) (by kernel_rfl) (by kernel_rfl) Names.nil)) true) (EX.cons (ES.augitem 1 (by kernel_rfl) (EV.var 3) (EV.bin (EV.var 2) EV.int) (by kernel_rfl) (by kernel_rfl)) EX.nil))
noncomputable def F_law_2 : Sig → Option (Fl × Sig) := (setF 4 (callO sumΦ [(vv 1)]))
theorem es_law_2 {C : Wd} (h : KOk C) (d : Nat) : ESw C (d + 3) D_law ((stBody (b02 68)).getD 2 dummyS) F_law_2 := by
  constructor
  unfold F_law_2
  exact (ES.assign 4 (by kernel_rfl) (by kernel_rfl) (EV.callB (by kernel_rfl) (g_sum h) (by kernel_rfl) (by decide) (by kernel_rfl) sum_ok (EVs.cons (EV.var 1) (by intros; rfl) EVs.nil)) (fun env he => (swapsWith_env he _ _ _).trans (by kernel_rfl)))
noncomputable def F_law_3 : Sig → Option (Fl × Sig) := (setF 5 (methO "str" splitΦ (cc (.str (Str.ofString "( ) [ ] : , ; + - * / | & < > = . % { } == != <= >= ~ ^ << >> ** += -= *= /= %= &= |= ^= <<= >>= **= // //= @ @= -> ... := !"))) [(cc (.str (Str.ofString " ")))]))
theorem es_law_3 {C : Wd} (h : KOk C) (d : Nat) : ESw C (d + 3) D_law ((stBody (b02 68)).getD 3 dummyS) F_law_3 := by
  constructor
  unfold F_law_3
  exact (ES.assign 5 (by kernel_rfl) (by kernel_rfl) (EV.meth EV.str (EVs.cons EV.str (by intros; rfl) EVs.nil) split_ok F.plainAttrs_str F.slot_str_split F.type_str_split) (fun env he => (swapsWith_env he _ _ _).trans (by kernel_rfl)))
noncomputable def F_law_4 : Sig → Option (Fl × Sig) := (setF 6 (lstO [(b2 .Add (cc (.int 7)) (b2 .Mod (vv 4) (cc (.int 48)))), (b2 .Add (cc (.int 7)) (b2 .Mod (b2 .Add (b2 .Add (vv 4) (cc (.int 1))) (b2 .Mod (b2 .FloorDiv (vv 4) (cc (.int 48))) (cc (.int 47)))) (cc (.int 48)))), (b2 .Add (cc (.int 256)) (b2 .Mod (b2 .FloorDiv (vv 4) (cc (.int 2256))) (cc (.int 26))))]))
theorem es_law_4 {C : Wd} (h : KOk C) (d : Nat) : ESw C (d + 3) D_law ((stBody (b02 68)).getD 4 dummyS) F_law_4 := by
  constructor
  unfold F_law_4
  exact (ES.assign 6 (by kernel_rfl) (by kernel_rfl) (EV.list (EVs.cons (EV.bin EV.int (EV.bin (EV.var 4) EV.int)) (by intros; rfl) (EVs.cons (EV.bin EV.int (EV.bin (EV.bin (EV.bin (EV.var 4) EV.int) (EV.bin (EV.bin (EV.var 4) EV.int) EV.int)) EV.int)) (by intros; rfl) (EVs.cons (EV.bin EV.int (EV.bin (EV.bin (EV.var 4) EV.int) EV.int)) (by intros; rfl) EVs.nil)))) (fun env he => (swapsWith_env he _ _ _).trans (by kernel_rfl)))
noncomputable def F_law_5 : Sig → Option (Fl × Sig) := (setF 7 (lstO [(i2 (vv 5) (b2 .Sub (i2 (vv 6) (cc (.int 0))) (cc (.int 7)))), (i2 (vv 5) (b2 .Sub (i2 (vv 6) (cc (.int 1))) (cc (.int 7)))), (callO chrΦ [(b2 .Sub (i2 (vv 6) (cc (.int 2))) (cc (.int 159)))])]))
theorem es_law_5 {C : Wd} (h : KOk C) (d : Nat) : ESw C (d + 3) D_law ((stBody (b02 68)).getD 5 dummyS) F_law_5 := by
  constructor
  unfold F_law_5
  exact (ES.assign 7 (by kernel_rfl) (by kernel_rfl) (EV.list (EVs.cons (EV.item (EV.var 5) (EV.bin (EV.item (EV.var 6) EV.int) EV.int)) (by intros; rfl) (EVs.cons (EV.item (EV.var 5) (EV.bin (EV.item (EV.var 6) EV.int) EV.int)) (by intros; rfl) (EVs.cons (EV.callB (by kernel_rfl) (g_chr h) (by kernel_rfl) (by decide) (by kernel_rfl) chr_ok (EVs.cons (EV.bin (EV.item (EV.var 6) EV.int) EV.int) (by intros; rfl) EVs.nil)) (by intros; rfl) EVs.nil)))) (fun env he => (swapsWith_env he _ _ _).trans (by kernel_rfl)))
noncomputable def F_law_6 : Sig → Option (Fl × Sig) := (setF 8 (compO .lst (setK 37) [37] yesT (oneO (b2 .Mod (b2 .FloorDiv (i2 (vv 1) (cc (.int 0))) (b2 .Pow (cc (.int 3)) (vv 37))) (cc (.int 3)))) 36 (itF (callO rangeΦ [(cc (.int 6))]))))
theorem es_law_6 {C : Wd} (h : KOk C) (d : Nat) : ESw C (d + 3) D_law ((stBody (b02 68)).getD 6 dummyS) F_law_6 := by
  constructor
  unfold F_law_6
  exact (ES.assign 8 (by kernel_rfl) (by kernel_rfl) (EV.comp (is := [37]) (by kernel_rfl) (EI.ofEV (EV.callT (by kernel_rfl) (g_range h) (by kernel_rfl) (by decide) (by kernel_rfl) range_ok (EVs.cons EV.int (by intros; rfl) EVs.nil))) (AT.name 37 (by kernel_rfl) (by kernel_rfl)) (setK_out 37) TsOK.nil (EV.bin (EV.bin (EV.item (EV.var 1) EV.int) (EV.bin EV.int (EV.var 37))) EV.int)) (fun env he => (swapsWith_env he _ _ _).trans (by kernel_rfl)))
noncomputable def F_law_7 : Sig → Option (Fl × Sig) := (setF 10 (callO Φ_law_cut [(methO "str" joinΦ (cc (.str (Str.ofString " "))) [(compO .lst (setK 37) [37] yesT (oneO (i2 (vv 7) (vv 37))) 36 (itF (vv 8)))])]))
theorem es_law_7 {C : Wd} (h : KOk C) (d : Nat) : ESw C (d + 3) D_law ((stBody (b02 68)).getD 7 dummyS) F_law_7 := by
  constructor
  unfold F_law_7
  exact (ES.assign 10 (by kernel_rfl) (by kernel_rfl) (EV.call (ok_law_cut h (d + 2)) (g_law_cut h) (keep_of (f_law_cut h) ok0_law_cut).1 (EVs.cons (EV.meth EV.str (EVs.cons (EV.comp (is := [37]) (by kernel_rfl) (EI.ofEV (EV.var 8)) (AT.name 37 (by kernel_rfl) (by kernel_rfl)) (setK_out 37) TsOK.nil (EV.item (EV.var 7) (EV.var 37))) (by intros; rfl) EVs.nil) join_ok F.plainAttrs_str F.slot_str_join F.type_str_join) (by intros; rfl) EVs.nil) (by kernel_rfl) (by kernel_rfl)) (fun env he => (swapsWith_env he _ _ _).trans (by kernel_rfl)))
noncomputable def F_law_8 : Sig → Option (Fl × Sig) := (ifF (c2 .NotEq (vv 10) (b2 .Add (compO .lst (setK 37) [37] yesT (oneO (i2 (vv 6) (vv 37))) 36 (itF (vv 8))) (lstO [(cc (.int 0))]))) (seqF (retF (cc (.bool false))) nextF) nextF)
theorem es_law_8 {C : Wd} (h : KOk C) (d : Nat) : ESw C (d + 3) D_law ((stBody (b02 68)).getD 8 dummyS) F_law_8 := by
  constructor
  unfold F_law_8
  exact (ES.ifS (IT.cmp (EV.var 10) (EV.bin (EV.comp (is := [37]) (by kernel_rfl) (EI.ofEV (EV.var 8)) (AT.name 37 (by kernel_rfl) (by kernel_rfl)) (setK_out 37) TsOK.nil (EV.item (EV.var 6) (EV.var 37))) (EV.list (EVs.cons EV.int (by intros; rfl) EVs.nil)))) (EX.cons (ES.ret EV.boolC) EX.nil) EX.nil)
noncomputable def F_law_9 : Sig → Option (Fl × Sig) := (loopF (itF (b2 .Add (vv 10) (lstO [(cc (.int 255)), (negF (cc (.int 1)))]))) (setK 11) (seqF (ifF (c2 .NotEq (tupO [(ofB (c2 .Is (callO Φ_ISTERMINAL [(vv 11)]) (ofB (c2 .Lt (vv 11) (cc (.int 256)))))), (ofB (c2 .Is (callO Φ_ISNONTERMINAL [(vv 11)]) (ofB (c2 .Gt (vv 11) (cc (.int 255)))))), (ofB (c2 .Is (callO Φ_ISEOF [(vv 11)]) (ofB (c2 .Eq (vv 11) (cc (.int 0))))))]) (tupO [(cc (.bool true)), (cc (.bool true)), (cc (.bool true))])) (seqF (retF (cc (.bool false))) nextF) nextF) nextF))
theorem es_law_9 {C : Wd} (h : KOk C) (d : Nat) : ESw C (d + 3) D_law ((stBody (b02 68)).getD 9 dummyS) F_law_9 := by
  constructor
  unfold F_law_9
  exact (ES.forS (EI.ofEV (EV.bin (EV.var 10) (EV.list (EVs.cons EV.int (by intros; rfl) (EVs.cons (EV.neg EV.int) (by intros; rfl) EVs.nil))))) (AT.name 11 (by kernel_rfl) (by kernel_rfl)) (EX.cons (ES.ifS (IT.cmp (EV.tuple (EVs.cons (EV.cmp (EV.call (ok_ISTERMINAL h (d + 2)) (g_ISTERMINAL h) (keep_of (f_ISTERMINAL h) ok0_ISTERMINAL).1 (EVs.cons (EV.var 11) (by intros; rfl) EVs.nil) (by kernel_rfl) (by kernel_rfl)) (EV.cmp (EV.var 11) EV.int)) (by intros; rfl) (EVs.cons (EV.cmp (EV.call (ok_ISNONTERMINAL h (d + 2)) (g_ISNONTERMINAL h) (keep_of (f_ISNONTERMINAL h) ok0_ISNONTERMINAL).1 (EVs.cons (EV.var 11) (by intros; rfl) EVs.nil) (by kernel_rfl) (by kernel_rfl)) (EV.cmp (EV.var 11) EV.int)) (by intros; rfl) (EVs.cons (EV.cmp (EV.call (ok_ISEOF h (d + 2)) (g_ISEOF h) (keep_of (f_ISEOF h) ok0_ISEOF).1 (EVs.cons (EV.var 11) (by intros; rfl) EVs.nil) (by kernel_rfl) (by kernel_rfl)) (EV.cmp (EV.var 11) EV.int)) (by intros; rfl) EVs.nil)))) (EV.tuple (EVs.cons EV.boolC (by intros; rfl) (EVs.cons EV.boolC (by intros; rfl) (EVs.cons EV.boolC (by intros; rfl) EVs.nil))))) (EX.cons (ES.ret EV.boolC) EX.nil) EX.nil) EX.nil))
noncomputable def F_law_10 : Sig → Option (Fl × Sig) := (setF 12 (compO .lst (setK 37) [37] yesT (oneO (b2 .Sub (cc (.int 1)) (b2 .Mult (cc (.int 2)) (b2 .Mod (b2 .FloorDiv (b2 .FloorDiv (vv 4) (cc (.int 58656))) (b2 .Pow (cc (.int 2)) (vv 37))) (cc (.int 2)))))) 36 (itF (callO rangeΦ [(cc (.int 3))]))))
theorem es_law_10 {C : Wd} (h : KOk C) (d : Nat) : ESw C (d + 3) D_law ((stBody (b02 68)).getD 10 dummyS) F_law_10 := by
  constructor
  unfold F_law_10
  exact (ES.assign 12 (by kernel_rfl) (by kernel_rfl) (EV.comp (is := [37]) (by kernel_rfl) (EI.ofEV (EV.callT (by kernel_rfl) (g_range h) (by kernel_rfl) (by decide) (by kernel_rfl) range_ok (EVs.cons EV.int (by intros; rfl) EVs.nil))) (AT.name 37 (by kernel_rfl) (by kernel_rfl)) (setK_out 37) TsOK.nil (EV.bin EV.int (EV.bin EV.int (EV.bin (EV.bin (EV.bin (EV.var 4) EV.int) (EV.bin EV.int (EV.var 37))) EV.int)))) (fun env he => (swapsWith_env he _ _ _).trans (by kernel_rfl)))
noncomputable def F_law_11 : Sig → Option (Fl × Sig) := (tupF [13, 14, 15] [(pvL (b2 .Mod (b2 .FloorDiv (vv 4) (cc (.int 469248))) (cc (.int 2)))), (pvL (b2 .Add (cc (.int 1)) (b2 .Mod (b2 .FloorDiv (vv 4) (cc (.int 938496))) (cc (.int 4))))), (pvL (b2 .Mod (b2 .Mult (cc (.int 5)) (vv 4)) (cc (.int 48))))])
theorem es_law_11 {C : Wd} (h : KOk C) (d : Nat) : ESw C (d + 3) D_law ((stBody (b02 68)).getD 11 dummyS) F_law_11 := by
  constructor
  unfold F_law_11
  exact (ES.tupL (Names.cons (i := 13) (by kernel_rfl) (by kernel_rfl) (Names.cons (i := 14) (by kernel_rfl) (by kernel_rfl) (Names.cons (i := 15) (by kernel_rfl) (by kernel_rfl) Names.nil))) (ELs.cons (EL.pure (EV.bin (EV.bin (EV.var 4) EV.int) EV.int)) (by intros; rfl) (ELs.cons (EL.pure (EV.bin EV.int (EV.bin (EV.bin (EV.var 4) EV.int) EV.int))) (by intros; rfl) (ELs.cons (EL.pure (EV.bin (EV.bin EV.int (EV.var 4)) EV.int)) (by intros; rfl) ELs.nil))) (by decide) (by kernel_rfl) (by kernel_rfl))
noncomputable def F_law_12 : Sig → Option (Fl × Sig) := (setF 16 (compO .lst (setK 37) [37] yesT (oneO (tupO [(callO lenΦ [(i2 (vv 7) (vv 37))]), (b2 .Mod (i2 (vv 6) (vv 37)) (cc (.int 4))), (i2 (vv 6) (vv 37))])) 36 (itF (callO rangeΦ [(cc (.int 3))]))))
theorem es_law_12 {C : Wd} (h : KOk C) (d : Nat) : ESw C (d + 3) D_law ((stBody (b02 68)).getD 12 dummyS) F_law_12 := by
  constructor
  unfold F_law_12
  exact (ES.assign 16 (by kernel_rfl) (by kernel_rfl) (EV.comp (is := [37]) (by kernel_rfl) (EI.ofEV (EV.callT (by kernel_rfl) (g_range h) (by kernel_rfl) (by decide) (by kernel_rfl) range_ok (EVs.cons EV.int (by intros; rfl) EVs.nil))) (AT.name 37 (by kernel_rfl) (by kernel_rfl)) (setK_out 37) TsOK.nil (EV.tuple (EVs.cons (EV.callB (by kernel_rfl) (g_len h) (by kernel_rfl) (by decide) (by kernel_rfl) len_ok (EVs.cons (EV.item (EV.var 7) (EV.var 37)) (by intros; rfl) EVs.nil)) (by intros; rfl) (EVs.cons (EV.bin (EV.item (EV.var 6) (EV.var 37)) EV.int) (by intros; rfl) (EVs.cons (EV.item (EV.var 6) (EV.var 37)) (by intros; rfl) EVs.nil))))) (fun env he => (swapsWith_env he _ _ _).trans (by kernel_rfl)))
noncomputable def F_law_13 : Sig → Option (Fl × Sig) := (setF 17 (callO (newΦ 59) [(tupO [(tupO [(vv 13), (i2 (vv 12) (cc (.int 0)))]), (tupO [(b2 .Sub (cc (.int 1)) (vv 13)), (i2 (vv 12) (cc (.int 1)))]), (tupO [(cc (.int 2)), (i2 (vv 12) (cc (.int 2)))])])]))
theorem es_law_13 {C : Wd} (h : KOk C) (d : Nat) : ESw C (d + 3) D_law ((stBody (b02 68)).getD 13 dummyS) F_law_13 := by
  constructor
  unfold F_law_13
  exact (ES.assign 17 (by kernel_rfl) (by kernel_rfl) (EV.call (ok_TupleComp h (d + 2)) (g_TupleComp h) (keepT h) (EVs.cons (EV.tuple (EVs.cons (EV.tuple (EVs.cons (EV.var 13) (by intros; rfl) (EVs.cons (EV.item (EV.var 12) EV.int) (by intros; rfl) EVs.nil))) (by intros; rfl) (EVs.cons (EV.tuple (EVs.cons (EV.bin EV.int (EV.var 13)) (by intros; rfl) (EVs.cons (EV.item (EV.var 12) EV.int) (by intros; rfl) EVs.nil))) (by intros; rfl) (EVs.cons (EV.tuple (EVs.cons EV.int (by intros; rfl) (EVs.cons (EV.item (EV.var 12) EV.int) (by intros; rfl) EVs.nil))) (by intros; rfl) EVs.nil)))) (by intros; rfl) EVs.nil) (by kernel_rfl) (by kernel_rfl)) (fun env he => (swapsWith_env he _ _ _).trans (by kernel_rfl)))
noncomputable def F_law_14 : Sig → Option (Fl × Sig) := (setF 18 (compO .lst (setK 37) [37] yesT (oneO (tupO [(b2 .Mult (i2 (vv 12) (cc (.int 0))) (i2 (vv 37) (vv 13))), (b2 .Mult (i2 (vv 12) (cc (.int 1))) (i2 (vv 37) (b2 .Sub (cc (.int 1)) (vv 13)))), (b2 .Mult (i2 (vv 12) (cc (.int 2))) (i2 (vv 37) (cc (.int 2))))])) 36 (itF (vv 16))))
theorem es_law_14 {C : Wd} (h : KOk C) (d : Nat) : ESw C (d + 3) D_law ((stBody (b02 68)).getD 14 dummyS) F_law_14 := by
  constructor
  unfold F_law_14
  exact (ES.assign 18 (by kernel_rfl) (by kernel_rfl) (EV.comp (is := [37]) (by kernel_rfl) (EI.ofEV (EV.var 16)) (AT.name 37 (by kernel_rfl) (by kernel_rfl)) (setK_out 37) TsOK.nil (EV.tuple (EVs.cons (EV.bin (EV.item (EV.var 12) EV.int) (EV.item (EV.var 37) (EV.var 13))) (by intros; rfl) (EVs.cons (EV.bin (EV.item (EV.var 12) EV.int) (EV.item (EV.var 37) (EV.bin EV.int (EV.var 13)))) (by intros; rfl) (EVs.cons (EV.bin (EV.item (EV.var 12) EV.int) (EV.item (EV.var 37) EV.int)) (by intros; rfl) EVs.nil))))) (fun env he => (swapsWith_env he _ _ _).trans (by kernel_rfl)))
noncomputable def F_law_15 : Sig → Option (Fl × Sig) := (setF 19 (compO .lst (setK 37) [37] yesT (oneO (compO .lst (setK 39) [39] yesT (oneO (callO strΦ [(instO 59 Φ_compare (vv 17) [(vv 37), (vv 39)])])) 38 (itF (vv 16)))) 36 (itF (vv 16))))
theorem es_law_15 {C : Wd} (h : KOk C) (d : Nat) : ESw C (d + 3) D_law ((stBody (b02 68)).getD 15 dummyS) F_law_15 := by
  constructor
  unfold F_law_15
  exact (ES.assignU 19 (by kernel_rfl) (by kernel_rfl) (EVU.comp (is := [37]) (by kernel_rfl) (EI.ofEV (EV.var 16)) (AT.name 37 (by kernel_rfl) (by kernel_rfl)) (setK_out 37) TsOK.nil (EV.comp (is := [39]) (by kernel_rfl) (EI.ofEV (EV.var 16)) (AT.name 39 (by kernel_rfl) (by kernel_rfl)) (setK_out 39) TsOK.nil (EV.callT (by kernel_rfl) (g_str h) (by kernel_rfl) (by decide) (by kernel_rfl) str_ok (EVs.cons (EV.compare (tc02 h) (keep_of (f_compare h) ok0_compare).1 (EV.var 17) (EVs.cons (EV.var 37) (by intros; rfl) (EVs.cons (EV.var 39) (by intros; rfl) EVs.nil)) (ok_compare h (d + 2))) (by intros; rfl) EVs.nil)))) (fun env he => (swapsWith_env he _ _ _).trans (by kernel_rfl)))
noncomputable def F_law_16 : Sig → Option (Fl × Sig) := (ifF (c2 .NotEq (vv 19) (compO .lst (setK 37) [37] yesT (oneO (compO .lst (setK 39) [39] yesT (oneO (iteO (c2 .Eq (vv 37) (vv 39)) (cc (.str (Str.ofString "0"))) (iteO (ltT (vv 37) (vv 39)) (cc (.str (Str.ofString "-1"))) (cc (.str (Str.ofString "1")))))) 38 (itF (vv 18)))) 36 (itF (vv 18)))) (seqF (retF (cc (.bool false))) nextF) nextF)
theorem es_law_16 {C : Wd} (h : KOk C) (d : Nat) : ESw C (d + 3) D_law ((stBody (b02 68)).getD 16 dummyS) F_law_16 := by
  constructor
  unfold F_law_16
  exact (ES.ifS (IT.cmp (EV.var 19) (EV.comp (is := [37]) (by kernel_rfl) (EI.ofEV (EV.var 18)) (AT.name 37 (by kernel_rfl) (by kernel_rfl)) (setK_out 37) TsOK.nil (EV.comp (is := [39]) (by kernel_rfl) (EI.ofEV (EV.var 18)) (AT.name 39 (by kernel_rfl) (by kernel_rfl)) (setK_out 39) TsOK.nil (EV.ite (IT.cmp (EV.var 37) (EV.var 39)) EV.str (EV.ite (IT.ltT (EV.var 37) (EV.var 39)) EV.str EV.str))))) (EX.cons (ES.ret EV.boolC) EX.nil) EX.nil)
noncomputable def F_law_17 : Sig → Option (Fl × Sig) := (tupR [20, 21] [(pvL (callO Φ_law_orders [(compO .lst (setK 37) [37] yesT (oneO (methO "list" lcntΦ (vv 8) [(vv 37)])) 36 (itF (callO rangeΦ [(cc (.int 3))]))), (vv 19)])), (pvL (cc (.dct [])))])
theorem es_law_17 {C : Wd} (h : KOk C) (d : Nat) : ESw C (d + 3) D_law ((stBody (b02 68)).getD 17 dummyS) F_law_17 := by
  constructor
  unfold F_law_17
  exact (ES.tupS (Names.cons (i := 20) (by kernel_rfl) (by kernel_rfl) (Names.cons (i := 21) (by kernel_rfl) (by kernel_rfl) Names.nil)) (ELs.cons (EL.pure (EV.call (ok_law_orders h (d + 2)) (g_law_orders h) (keep_of (f_law_orders h) ok0_law_orders).1 (EVs.cons (EV.comp (is := [37]) (by kernel_rfl) (EI.ofEV (EV.callT (by kernel_rfl) (g_range h) (by kernel_rfl) (by decide) (by kernel_rfl) range_ok (EVs.cons EV.int (by intros; rfl) EVs.nil))) (AT.name 37 (by kernel_rfl) (by kernel_rfl)) (setK_out 37) TsOK.nil (EV.meth (EV.var 8) (EVs.cons (EV.var 37) (by intros; rfl) EVs.nil) count_list_ok F.plainAttrs_list F.slot_list_count F.type_list_count)) (by intros; rfl) (EVs.cons (EV.var 19) (by intros; rfl) EVs.nil)) (by kernel_rfl) (by kernel_rfl))) (by intros; rfl) (ELs.cons (EL.pure EV.dict0) (by intros; rfl) ELs.nil)) (by decide) rfl (hw := (by kernel_rfl)) (hs := (by kernel_rfl)))
noncomputable def F_law_18 : Sig → Option (Fl × Sig) := (setF 22 (vv 21))
theorem es_law_18 {C : Wd} (h : KOk C) (d : Nat) : ESw C (d + 3) D_law ((stBody (b02 68)).getD 18 dummyS) F_law_18 := by
  constructor
  unfold F_law_18
  exact (ES.assign 22 (by kernel_rfl) (by kernel_rfl) (EV.var 21) (fun env he => (swapsWith_env he _ _ _).trans (by kernel_rfl)))
noncomputable def F_law_19 : Sig → Option (Fl × Sig) := (loopF (itF (vv 20)) (tupK [23, 24]) (seqF (setF 25 (dct1O (b2 .Mod (vv 24) (cc (.int 6))) (cc (.int 1)))) (seqF (setF 22 (callO Φ_add_callers [(vv 22), (vv 25)])) (seqF (ifF (c2 .NotEq (lstO [(vv 21), (vv 25)]) (lstO [(cc (.dct [])), (dct1O (b2 .Mod (vv 24) (cc (.int 6))) (cc (.int 1)))])) (seqF (retF (cc (.bool false))) nextF) nextF) nextF))))
theorem es_law_19 {C : Wd} (h : KOk C) (d : Nat) : ESw C (d + 3) D_law ((stBody (b02 68)).getD 19 dummyS) F_law_19 := by
  constructor
  unfold F_law_19
  exact (ES.forS (EI.ofEV (EV.var 20)) (AT.tuple (Names.cons (i := 23) (by kernel_rfl) (by kernel_rfl) (Names.cons (i := 24) (by kernel_rfl) (by kernel_rfl) Names.nil)) false) (EX.cons (ES.assign 25 (by kernel_rfl) (by kernel_rfl) (EV.dict1 (EV.bin (EV.var 24) EV.int) EV.int) (fun env he => (swapsWith_env he _ _ _).trans (by kernel_rfl))) (EX.cons (ES.assign 22 (by kernel_rfl) (by kernel_rfl) (EV.call (ok_add_callers h (d + 2)) (g_add_callers h) (keep_of (f_add_callers h) ok0_add_callers).1 (EVs.cons (EV.var 22) (by intros; rfl) (EVs.cons (EV.var 25) (by intros; rfl) EVs.nil)) (by kernel_rfl) (by kernel_rfl)) (fun env he => (swapsWith_env he _ _ _).trans (by kernel_rfl))) (EX.cons (ES.ifS (IT.cmp (EV.list (EVs.cons (EV.var 21) (by intros; rfl) (EVs.cons (EV.var 25) (by intros; rfl) EVs.nil))) (EV.list (EVs.cons EV.dict0 (by intros; rfl) (EVs.cons (EV.dict1 (EV.bin (EV.var 24) EV.int) EV.int) (by intros; rfl) EVs.nil)))) (EX.cons (ES.ret EV.boolC) EX.nil) EX.nil) EX.nil))))
noncomputable def F_law_20 : Sig → Option (Fl × Sig) := (setF 26 (compO .lst (tupK [37, 38]) [37, 38] yesT (oneO (b2 .FloorDiv (cc (.int 6)) (i2 (compO .lst (setK 40) [40] (c2 .Eq (b2 .Add (slT (vv 37) (ptO (vv 40)) noO) (slT (vv 37) noO (ptO (vv 40)))) (vv 37)) (oneO (vv 40)) 39 (itF (tupO [(cc (.int 1)), (cc (.int 2)), (cc (.int 3)), (cc (.int 6))]))) (cc (.int 0))))) 36 (itF (vv 20))))
theorem es_law_20 {C : Wd} (h : KOk C) (d : Nat) : ESw C (d + 3) D_law ((stBody (b02 68)).getD 20 dummyS) F_law_20 := by
  constructor
  unfold F_law_20
  exact (ES.assign 26 (by kernel_rfl) (by kernel_rfl) (EV.comp (is := [37, 38]) (by kernel_rfl) (EI.ofEV (EV.var 20)) (AT.tuple (Names.cons (i := 37) (by kernel_rfl) (by kernel_rfl) (Names.cons (i := 38) (by kernel_rfl) (by kernel_rfl) Names.nil)) false) (tupK_out [37, 38]) TsOK.nil (EV.bin EV.int (EV.item (EV.comp (is := [40]) (by kernel_rfl) (EI.ofEV (EV.tuple (EVs.cons EV.int (by intros; rfl) (EVs.cons EV.int (by intros; rfl) (EVs.cons EV.int (by intros; rfl) (EVs.cons EV.int (by intros; rfl) EVs.nil)))))) (AT.name 40 (by kernel_rfl) (by kernel_rfl)) (setK_out 40) (TsOK.one (IT.cmp (EV.bin (EV.sliceT (EV.var 37) (PT.at' (EV.var 40)) PT.no') (EV.sliceT (EV.var 37) PT.no' (PT.at' (EV.var 40)))) (EV.var 37))) (EV.var 40)) EV.int))) (fun env he => (swapsWith_env he _ _ _).trans (by kernel_rfl)))
noncomputable def F_law_21 : Sig → Option (Fl × Sig) := (setF 27 (compO .lst (setK 37) [37] yesT (oneO (b2 .FloorDiv (callO sumΦ [(compO .lst (setK 39) [39] (c2 .Eq (b2 .Mod (vv 37) (vv 39)) (cc (.int 0))) (oneO (b2 .Mult (methO "list" lcntΦ (vv 26) [(vv 39)]) (vv 39))) 38 (itF (tupO [(cc (.int 1)), (cc (.int 2)), (cc (.int 3)), (cc (.int 6))])))]) (cc (.int 6)))) 36 (itF (callO rangeΦ [(cc (.int 6))]))))
theorem es_law_21 {C : Wd} (h : KOk C) (d : Nat) : ESw C (d + 3) D_law ((stBody (b02 68)).getD 21 dummyS) F_law_21 := by
  constructor
  unfold F_law_21
  exact (ES.assign 27 (by kernel_rfl) (by kernel_rfl) (EV.comp (is := [37]) (by kernel_rfl) (EI.ofEV (EV.callT (by kernel_rfl) (g_range h) (by kernel_rfl) (by decide) (by kernel_rfl) range_ok (EVs.cons EV.int (by intros; rfl) EVs.nil))) (AT.name 37 (by kernel_rfl) (by kernel_rfl)) (setK_out 37) TsOK.nil (EV.bin (EV.callB (by kernel_rfl) (g_sum h) (by kernel_rfl) (by decide) (by kernel_rfl) sum_ok (EVs.cons (EV.comp (is := [39]) (by kernel_rfl) (EI.ofEV (EV.tuple (EVs.cons EV.int (by intros; rfl) (EVs.cons EV.int (by intros; rfl) (EVs.cons EV.int (by intros; rfl) (EVs.cons EV.int (by intros; rfl) EVs.nil)))))) (AT.name 39 (by kernel_rfl) (by kernel_rfl)) (setK_out 39) (TsOK.one (IT.cmp (EV.bin (EV.var 37) (EV.var 39)) EV.int)) (EV.bin (EV.meth (EV.var 26) (EVs.cons (EV.var 39) (by intros; rfl) EVs.nil) count_list_ok F.plainAttrs_list F.slot_list_count F.type_list_count) (EV.var 39))) (by intros; rfl) EVs.nil)) EV.int)) (fun env he => (swapsWith_env he _ _ _).trans (by kernel_rfl)))
noncomputable def F_law_22 : Sig → Option (Fl × Sig) := (ifF (orO (c2 .NotEq (vv 22) (compO dctP (setK 37) [37] (c2 .Gt (i2 (vv 27) (vv 37)) (cc (.int 0))) (kvO (vv 37) (i2 (vv 27) (vv 37))) 36 (itF (callO rangeΦ [(cc (.int 6))])))) (c2 .NotEq (callO Φ_count_calls [(vv 22)]) (callO lenΦ [(vv 20)]))) (seqF (retF (cc (.bool false))) nextF) nextF)
theorem es_law_22 {C : Wd} (h : KOk C) (d : Nat) : ESw C (d + 3) D_law ((stBody (b02 68)).getD 22 dummyS) F_law_22 := by
  constructor
  unfold F_law_22
  exact (ES.ifS (IT.or (IT.cmp (EV.var 22) (EV.dcomp (is := [37]) (by kernel_rfl) (EI.ofEV (EV.callT (by kernel_rfl) (g_range h) (by kernel_rfl) (by decide) (by kernel_rfl) range_ok (EVs.cons EV.int (by intros; rfl) EVs.nil))) (AT.name 37 (by kernel_rfl) (by kernel_rfl)) (setK_out 37) (TsOK.one (IT.cmp (EV.item (EV.var 27) (EV.var 37)) EV.int)) (EV.var 37) (EV.item (EV.var 27) (EV.var 37)))) (IT.cmp (EV.call (ok_count_calls h (d + 2)) (g_count_calls h) (keep_of (f_count_calls h) ok0_count_calls).1 (EVs.cons (EV.var 22) (by intros; rfl) EVs.nil) (by kernel_rfl) (by kernel_rfl)) (EV.callB (by kernel_rfl) (g_len h) (by kernel_rfl) (by decide) (by kernel_rfl) len_ok (EVs.cons (EV.var 20) (by intros; rfl) EVs.nil)))) (EX.cons (ES.ret EV.boolC) EX.nil) EX.nil)
noncomputable def F_law_23 : Sig → Option (Fl × Sig) := (loopF (itF (callO rangeΦ [(cc (.int 6))])) (setK 9) (seqF (tupF [28, 29] [(pvL (tupO [(cc (.int 0)), (cc (.int 0)), (cc (.int 0)), (cc (.int 0)), (cc (.dct []))])), (pvL (compO .lst (setK 37) [37] yesT (oneO (compO .lst (setK 39) [39] (andO (c2 .Eq (b2 .Mod (b2 .Mult (vv 39) (vv 9)) (cc (.int 6))) (vv 37)) (c2 .Gt (i2 (vv 27) (vv 39)) (cc (.int 0)))) (oneO (i2 (vv 27) (vv 39))) 38 (itF (callO rangeΦ [(cc (.int 6))])))) 36 (itF (callO rangeΦ [(cc (.int 6))]))))]) (seqF (loopF (itF (vv 22)) (setK 2) (seqF (setF 30 (callO Φ_hsv_to_rgb [(b2 .Div (b2 .Add (b2 .Mult (b2 .Mult (cc (.int 8)) (vv 2)) (vv 9)) (vv 15)) (cc (.int 48))), (b2 .Div (vv 14) (cc (.int 4))), (i2 (vv 22) (vv 2))])) (seqF (setF 28 (callO Φ_add_func_stats [(vv 28), (b2 .Add (vv 30) (tupO [(i2 (vv 22) (vv 2)), (dct1O (b2 .Mod (b2 .Mult (vv 2) (vv 9)) (cc (.int 6))) (tupO [(i2 (vv 22) (vv 2)), (cc (.int 1))]))]))])) nextF))) (seqF (ifF (c2 .NotEq (slT (vv 28) (ptO (cc (.int 3))) noO) (tupO [(callO lenΦ [(vv 20)]), (compO dctP (setK 37) [37] (c2 .NotEq (i2 (vv 29) (vv 37)) (lstO [])) (kvO (vv 37) (tupO [(callO sumΦ [(i2 (vv 29) (vv 37))]), (callO lenΦ [(i2 (vv 29) (vv 37))])])) 36 (itF (callO rangeΦ [(cc (.int 6))])))])) (seqF (retF (cc (.bool false))) nextF) nextF) (seqF (setF 31 (b2 .Mult (b2 .Mult (cc (.int 8)) (vv 14)) (callO sumΦ [(compO .lst (setK 37) [37] (c2 .Eq (b2 .Mod (b2 .Mult (vv 9) (vv 37)) (cc (.int 6))) (cc (.int 0))) (oneO (methO "list" lcntΦ (vv 26) [(vv 37)])) 36 (itF (tupO [(cc (.int 1)), (cc (.int 2)), (cc (.int 3)), (cc (.int 6))])))]))) (seqF (setF 32 (callO maxΦ [(compO .lst (setK 37) [37] yesT (oneO (callO sumΦ [(compO .lst (setK 39) [39] yesT (oneO (b2 .Mult (i2 (vv 27) (vv 39)) (callO Φ_law_part [(b2 .Sub (b2 .Add (b2 .Mult (b2 .Mult (cc (.int 8)) (vv 39)) (vv 9)) (vv 15)) (vv 37)), (vv 14)]))) 38 (itF (callO rangeΦ [(cc (.int 6))])))])) 36 (itF (tupO [(cc (.int 0)), (cc (.int 16)), (cc (.int 32))])))])) (seqF (tupR [33, 34] [(pvL (iteO (c2 .Gt (vv 31) (cc (.int 0))) (b2 .Div (vv 15) (cc (.int 48))) (cc (.int 0)))), (pvL (b2 .Sub (b2 .Mult (cc (.int 2)) (vv 32)) (vv 31)))]) (seqF (setF 35 (tupO [(callO Φ_rgb_to_hsv [(i2 (vv 28) (cc (.int 0))), (i2 (vv 28) (cc (.int 1))), (i2 (vv 28) (cc (.int 2)))]), (callO Φ_rgb_to_hls [(b2 .Div (i2 (vv 28) (cc (.int 0))) (cc (.int 128))), (b2 .Div (i2 (vv 28) (cc (.int 1))) (cc (.int 128))), (b2 .Div (i2 (vv 28) (cc (.int 2))) (cc (.int 128)))])])) (seqF (ifF (c2 .NotEq (vv 35) (tupO [(tupO [(vv 33), (b2 .Div (vv 31) (vv 32)), (b2 .Div (vv 32) (cc (.int 32)))]), (tupO [(vv 33), (b2 .Div (vv 34) (cc (.int 8192))), (b2 .Div (vv 31) (callO minΦ [(vv 34), (b2 .Sub (cc (.int 8192)) (vv 34))]))])])) (seqF (retF (cc (.bool false))) nextF) nextF) nextF)))))))))
theorem es_law_23 {C : Wd} (h : KOk C) (d : Nat) : ESw C (d + 3) D_law ((stBody (b02 68)).getD 23 dummyS) F_law_23 := by
  constructor
  unfold F_law_23
  exact (ES.forS (EI.ofEV (EV.callT (by kernel_rfl) (g_range h) (by kernel_rfl) (by decide) (by kernel_rfl) range_ok (EVs.cons EV.int (by intros; rfl) EVs.nil))) (AT.name 9 (by kernel_rfl) (by kernel_rfl)) (EX.cons (ES.tupL (Names.cons (i := 28) (by kernel_rfl) (by kernel_rfl) (Names.cons (i := 29) (by kernel_rfl) (by kernel_rfl) Names.nil)) (ELs.cons (EL.pure (EV.tuple (EVs.cons EV.int (by intros; rfl) (EVs.cons EV.int (by intros; rfl) (EVs.cons EV.int (by intros; rfl) (EVs.cons EV.int (by intros; rfl) (EVs.cons EV.dict0 (by intros; rfl) EVs.nil))))))) (by intros; rfl) (ELs.cons (EL.pure (EV.comp (is := [37]) (by kernel_rfl) (EI.ofEV (EV.callT (by kernel_rfl) (g_range h) (by kernel_rfl) (by decide) (by kernel_rfl) range_ok (EVs.cons EV.int (by intros; rfl) EVs.nil))) (AT.name 37 (by kernel_rfl) (by kernel_rfl)) (setK_out 37) TsOK.nil (EV.comp (is := [39]) (by kernel_rfl) (EI.ofEV (EV.callT (by kernel_rfl) (g_range h) (by kernel_rfl) (by decide) (by kernel_rfl) range_ok (EVs.cons EV.int (by intros; rfl) EVs.nil))) (AT.name 39 (by kernel_rfl) (by kernel_rfl)) (setK_out 39) (TsOK.one (IT.and (IT.cmp (EV.bin (EV.bin (EV.var 39) (EV.var 9)) EV.int) (EV.var 37)) (IT.cmp (EV.item (EV.var 27) (EV.var 39)) EV.int))) (EV.item (EV.var 27) (EV.var 39))))) (by intros; rfl) ELs.nil)) (by decide) (by kernel_rfl) (by kernel_rfl)) (EX.cons (ES.forS (EI.ofEV (EV.var 22)) (AT.name 2 (by kernel_rfl) (by kernel_rfl)) (EX.cons (ES.assign 30 (by kernel_rfl) (by kernel_rfl) (EV.call (ok_hsv_to_rgb h (d + 2)) (g_hsv_to_rgb h) (keep_of (f_hsv_to_rgb h) ok0_hsv_to_rgb).1 (EVs.cons (EV.bin (EV.bin (EV.bin (EV.bin EV.int (EV.var 2)) (EV.var 9)) (EV.var 15)) EV.int) (by intros; rfl) (EVs.cons (EV.bin (EV.var 14) EV.int) (by intros; rfl) (EVs.cons (EV.item (EV.var 22) (EV.var 2)) (by intros; rfl) EVs.nil))) (by kernel_rfl) (by kernel_rfl)) (fun env he => (swapsWith_env he _ _ _).trans (by kernel_rfl))) (EX.cons (ES.assign 28 (by kernel_rfl) (by kernel_rfl) (EV.call (ok_add_func_stats h (d + 1)) (g_add_func_stats h) (keep_of (f_add_func_stats h) ok0_add_func_stats).1 (EVs.cons (EV.var 28) (by intros; rfl) (EVs.cons (EV.bin (EV.var 30) (EV.tuple (EVs.cons (EV.item (EV.var 22) (EV.var 2)) (by intros; rfl) (EVs.cons (EV.dict1 (EV.bin (EV.bin (EV.var 2) (EV.var 9)) EV.int) (EV.tuple (EVs.cons (EV.item (EV.var 22) (EV.var 2)) (by intros; rfl) (EVs.cons EV.int (by intros; rfl) EVs.nil)))) (by intros; rfl) EVs.nil)))) (by intros; rfl) EVs.nil)) (by kernel_rfl) (by kernel_rfl)) (fun env he => (swapsWith_env he _ _ _).trans (by kernel_rfl))) EX.nil))) (EX.cons (ES.ifS (IT.cmp (EV.sliceT (EV.var 28) (PT.at' EV.int) PT.no') (EV.tuple (EVs.cons (EV.callB (by kernel_rfl) (g_len h) (by kernel_rfl) (by decide) (by kernel_rfl) len_ok (EVs.cons (EV.var 20) (by intros; rfl) EVs.nil)) (by intros; rfl) (EVs.cons (EV.dcomp (is := [37]) (by kernel_rfl) (EI.ofEV (EV.callT (by kernel_rfl) (g_range h) (by kernel_rfl) (by decide) (by kernel_rfl) range_ok (EVs.cons EV.int (by intros; rfl) EVs.nil))) (AT.name 37 (by kernel_rfl) (by kernel_rfl)) (setK_out 37) (TsOK.one (IT.cmp (EV.item (EV.var 29) (EV.var 37)) (EV.list EVs.nil))) (EV.var 37) (EV.tuple (EVs.cons (EV.callB (by kernel_rfl) (g_sum h) (by kernel_rfl) (by decide) (by kernel_rfl) sum_ok (EVs.cons (EV.item (EV.var 29) (EV.var 37)) (by intros; rfl) EVs.nil)) (by intros; rfl) (EVs.cons (EV.callB (by kernel_rfl) (g_len h) (by kernel_rfl) (by decide) (by kernel_rfl) len_ok (EVs.cons (EV.item (EV.var 29) (EV.var 37)) (by intros; rfl) EVs.nil)) (by intros; rfl) EVs.nil)))) (by intros; rfl) EVs.nil)))) (EX.cons (ES.ret EV.boolC) EX.nil) EX.nil) (EX.cons (ES.assign 31 (by kernel_rfl) (by kernel_rfl) (EV.bin (EV.bin EV.int (EV.var 14)) (EV.callB (by kernel_rfl) (g_sum h) (by kernel_rfl) (by decide) (by kernel_rfl) sum_ok (EVs.cons (EV.comp (is := [37]) (by kernel_rfl) (EI.ofEV (EV.tuple (EVs.cons EV.int (by intros; rfl) (EVs.cons EV.int (by intros; rfl) (EVs.cons EV.int (by intros; rfl) (EVs.cons EV.int (by intros; rfl) EVs.nil)))))) (AT.name 37 (by kernel_rfl) (by kernel_rfl)) (setK_out 37) (TsOK.one (IT.cmp (EV.bin (EV.bin (EV.var 9) (EV.var 37)) EV.int) EV.int)) (EV.meth (EV.var 26) (EVs.cons (EV.var 37) (by intros; rfl) EVs.nil) count_list_ok F.plainAttrs_list F.slot_list_count F.type_list_count)) (by intros; rfl) EVs.nil))) (fun env he => (swapsWith_env he _ _ _).trans (by kernel_rfl))) (EX.cons (ES.assign 32 (by kernel_rfl) (by kernel_rfl) (EV.callB (by kernel_rfl) (g_max h) (by kernel_rfl) (by decide) (by kernel_rfl) max_ok (EVs.cons (EV.comp (is := [37]) (by kernel_rfl) (EI.ofEV (EV.tuple (EVs.cons EV.int (by intros; rfl) (EVs.cons EV.int (by intros; rfl) (EVs.cons EV.int (by intros; rfl) EVs.nil))))) (AT.name 37 (by kernel_rfl) (by kernel_rfl)) (setK_out 37) TsOK.nil (EV.callB (by kernel_rfl) (g_sum h) (by kernel_rfl) (by decide) (by kernel_rfl) sum_ok (EVs.cons (EV.comp (is := [39]) (by kernel_rfl) (EI.ofEV (EV.callT (by kernel_rfl) (g_range h) (by kernel_rfl) (by decide) (by kernel_rfl) range_ok (EVs.cons EV.int (by intros; rfl) EVs.nil))) (AT.name 39 (by kernel_rfl) (by kernel_rfl)) (setK_out 39) TsOK.nil (EV.bin (EV.item (EV.var 27) (EV.var 39)) (EV.call (ok_law_part h (d + 2)) (g_law_part h) (keep_of (f_law_part h) ok0_law_part).1 (EVs.cons (EV.bin (EV.bin (EV.bin (EV.bin EV.int (EV.var 39)) (EV.var 9)) (EV.var 15)) (EV.var 37)) (by intros; rfl) (EVs.cons (EV.var 14) (by intros; rfl) EVs.nil)) (by kernel_rfl) (by kernel_rfl)))) (by intros; rfl) EVs.nil))) (by intros; rfl) EVs.nil)) (fun env he => (swapsWith_env he _ _ _).trans (by kernel_rfl))) (EX.cons (ES.tupS (Names.cons (i := 33) (by kernel_rfl) (by kernel_rfl) (Names.cons (i := 34) (by kernel_rfl) (by kernel_rfl) Names.nil)) (ELs.cons (EL.pure (EV.ite (IT.cmp (EV.var 31) EV.int) (EV.bin (EV.var 15) EV.int) EV.int)) (by intros; rfl) (ELs.cons (EL.pure (EV.bin (EV.bin EV.int (EV.var 32)) (EV.var 31))) (by intros; rfl) ELs.nil)) (by decide) rfl (hw := (by kernel_rfl)) (hs := (by kernel_rfl))) (EX.cons (ES.assign 35 (by kernel_rfl) (by kernel_rfl) (EV.tuple (EVs.cons (EV.call (ok_rgb_to_hsv h (d + 2)) (g_rgb_to_hsv h) (keep_of (f_rgb_to_hsv h) ok0_rgb_to_hsv).1 (EVs.cons (EV.item (EV.var 28) EV.int) (by intros; rfl) (EVs.cons (EV.item (EV.var 28) EV.int) (by intros; rfl) (EVs.cons (EV.item (EV.var 28) EV.int) (by intros; rfl) EVs.nil))) (by kernel_rfl) (by kernel_rfl)) (by intros; rfl) (EVs.cons (EV.call (ok_rgb_to_hls h (d + 2)) (g_rgb_to_hls h) (keep_of (f_rgb_to_hls h) ok0_rgb_to_hls).1 (EVs.cons (EV.bin (EV.item (EV.var 28) EV.int) EV.int) (by intros; rfl) (EVs.cons (EV.bin (EV.item (EV.var 28) EV.int) EV.int) (by intros; rfl) (EVs.cons (EV.bin (EV.item (EV.var 28) EV.int) EV.int) (by intros; rfl) EVs.nil))) (by kernel_rfl) (by kernel_rfl)) (by intros; rfl) EVs.nil))) (fun env he => (swapsWith_env he _ _ _).trans (by kernel_rfl))) (EX.cons (ES.ifS (IT.cmp (EV.var 35) (EV.tuple (EVs.cons (EV.tuple (EVs.cons (EV.var 33) (by intros; rfl) (EVs.cons (EV.bin (EV.var 31) (EV.var 32)) (by intros; rfl) (EVs.cons (EV.bin (EV.var 32) EV.int) (by intros; rfl) EVs.nil)))) (by intros; rfl) (EVs.cons (EV.tuple (EVs.cons (EV.var 33) (by intros; rfl) (EVs.cons (EV.bin (EV.var 34) EV.int) (by intros; rfl) (EVs.cons (EV.bin (EV.var 31) (EV.callB (by kernel_rfl) (g_min h) (by kernel_rfl) (by decide) (by kernel_rfl) min_ok (EVs.cons (EV.var 34) (by intros; rfl) (EVs.cons (EV.bin EV.int (EV.var 34)) (by intros; rfl) EVs.nil)))) (by intros; rfl) EVs.nil)))) (by intros; rfl) EVs.nil)))) (EX.cons (ES.ret EV.boolC) EX.nil) EX.nil) EX.nil)))))))))
noncomputable def F_law_24 : Sig → Option (Fl × Sig) := (retF (cc (.bool true)))
theorem es_law_24 {C : Wd} (h : KOk C) (d : Nat) : ESw C (d + 3) D_law ((stBody (b02 68)).getD 24 dummyS) F_law_24 := by
  constructor
  unfold F_law_24
  exact (ES.ret EV.boolC)
theorem body_law : stBody (b02 68) = [(stBody (b02 68)).getD 0 dummyS, (stBody (b02 68)).getD 1 dummyS, (stBody (b02 68)).getD 2 dummyS, (stBody (b02 68)).getD 3 dummyS, (stBody (b02 68)).getD 4 dummyS, (stBody (b02 68)).getD 5 dummyS, (stBody (b02 68)).getD 6 dummyS, (stBody (b02 68)).getD 7 dummyS, (stBody (b02 68)).getD 8 dummyS, (stBody (b02 68)).getD 9 dummyS, (stBody (b02 68)).getD 10 dummyS, (stBody (b02 68)).getD 11 dummyS, (stBody (b02 68)).getD 12 dummyS, (stBody (b02 68)).getD 13 dummyS, (stBody (b02 68)).getD 14 dummyS, (stBody (b02 68)).getD 15 dummyS, (stBody (b02 68)).getD 16 dummyS, (stBody (b02 68)).getD 17 dummyS, (stBody (b02 68)).getD 18 dummyS, (stBody (b02 68)).getD 19 dummyS, (stBody (b02 68)).getD 20 dummyS, (stBody (b02 68)).getD 21 dummyS, (stBody (b02 68)).getD 22 dummyS, (stBody (b02 68)).getD 23 dummyS, (stBody (b02 68)).getD 24 dummyS] := by kernel_rfl
noncomputable def F_law : Sig → Option (Fl × Sig) := (seqF F_law_0 (seqF F_law_1 (frz 1 (seqF F_law_2 (seqF F_law_3 (seqF F_law_4 (seqF F_law_5 (seqF F_law_6 (seqF F_law_7 (seqF F_law_8 (seqF F_law_9 (seqF F_law_10 (seqF F_law_11 (seqF F_law_12 (seqF F_law_13 (seqF F_law_14 (seqF F_law_15 (seqF F_law_16 (seqF F_law_17 (seqF F_law_18 (seqF F_law_19 (seqF F_law_20 (seqF F_law_21 (seqF F_law_22 (seqF F_law_23 (seqF F_law_24 nextF))))))))))))))))))))))))))
noncomputable def Φ_law : List PV → Option PV := runF 1 F_law
theorem ok0_law : stOk [(Str.ofString "script")] (b02 68) = true := by decide +kernel
theorem ex_law {C : Wd} (h : KOk C) (d : Nat) : EXw C (d + 3) D_law (stBody (b02 68)) F_law := by
  refine EXw.body body_law ?_
  unfold F_law
  refine EXw.cons (es_law_0 h d) ?_
  refine EXw.cons (es_law_1 h d) ?_
  refine EXw.freeze (Str.ofString "numbers") 1 (by kernel_rfl) ?_
  refine EXw.cons (es_law_2 h d) ?_
  refine EXw.cons (es_law_3 h d) ?_
  refine EXw.cons (es_law_4 h d) ?_
  refine EXw.cons (es_law_5 h d) ?_
  refine EXw.cons (es_law_6 h d) ?_
  refine EXw.cons (es_law_7 h d) ?_
  refine EXw.cons (es_law_8 h d) ?_
  refine EXw.cons (es_law_9 h d) ?_
  refine EXw.cons (es_law_10 h d) ?_
  refine EXw.cons (es_law_11 h d) ?_
  refine EXw.cons (es_law_12 h d) ?_
  refine EXw.cons (es_law_13 h d) ?_
  refine EXw.cons (es_law_14 h d) ?_
  refine EXw.cons (es_law_15 h d) ?_
  refine EXw.cons (es_law_16 h d) ?_
  refine EXw.cons (es_law_17 h d) ?_
  refine EXw.cons (es_law_18 h d) ?_
  refine EXw.cons (es_law_19 h d) ?_
  refine EXw.cons (es_law_20 h d) ?_
  refine EXw.cons (es_law_21 h d) ?_
  refine EXw.cons (es_law_22 h d) ?_
  refine EXw.cons (es_law_23 h d) ?_
  refine EXw.cons (es_law_24 h d) ?_
  exact EXw.nil
theorem ok_law {C : Wd} (h : KOk C) (d : Nat) : CallOK C (d + 4) (.ref 130) Φ_law :=
  fn_okw (D := D_law) (d := d + 3) [(Str.ofString "script")] (f_law h) ok0_law rfl (by decide +kernel) (by decide +kernel) (by decide +kernel) (by decide +kernel) (by decide +kernel) (ex_law h d)
end
end Mine
namespace Mine
open PySem PySem.W
section
theorem all3 {p : Nat → Prop} (h0 : p 0) (h1 : p 1) (h2 : p 2) : ∀ i, i < 3 → p i
  | 0, _ => h0
  | 1, _ => h1
  | 2, _ => h2
theorem seqF_next {F H : Sig → Option (Fl × Sig)} {σ σ₁ : Sig} (h : F σ = some (.next, σ₁)) : seqF F H σ = H σ₁ := by unfold seqF; rw [h]; rfl
theorem seq_to {F H : Sig → Option (Fl × Sig)} {σ σ₁ : Sig} {r : Option (Fl × Sig)} (h : F σ = some (.next, σ₁)) (k : H σ₁ = r) : seqF F H σ = r := (seqF_next h).trans k
theorem seqF_ret {F H : Sig → Option (Fl × Sig)} {σ σ₁ : Sig} {p : PV} (h : F σ = some (.ret p, σ₁)) : seqF F H σ = some (.ret p, σ₁) := by unfold seqF; rw [h]; rfl
theorem ifF_true {t : Sig → Option Bool} {F H : Sig → Option (Fl × Sig)} {σ : Sig} (h : t σ = some true) : ifF t F H σ = F σ := by unfold ifF; rw [h]; rfl
theorem ifF_false {t : Sig → Option Bool} {F H : Sig → Option (Fl × Sig)} {σ : Sig} (h : t σ = some false) : ifF t F H σ = H σ := by unfold ifF; rw [h]; rfl
theorem runF_of {n : Nat} {F : Sig → Option (Fl × Sig)} {ps : List PV} {p : PV} {σ' : Sig} (hl : ps.length = n) (h : F (argSig ps) = some (.ret p, σ')) : runF n F ps = some p := by
  unfold runF
  rw [if_pos hl, h]
  rfl
noncomputable def Ends (F : Sig → Option (Fl × Sig)) (σ : Sig) (p : PV) : Prop := ∃ τ, F σ = some (.ret p, τ)
theorem Ends.step {F H : Sig → Option (Fl × Sig)} {σ σ₁ : Sig} {p : PV} (h : F σ = some (.next, σ₁)) (k : Ends H σ₁ p) : Ends (seqF F H) σ p := k.imp fun ž1 k => seq_to h k
theorem Ends.last {F H : Sig → Option (Fl × Sig)} {σ σ₁ : Sig} {p : PV} (h : F σ = some (.ret p, σ₁)) : Ends (seqF F H) σ p := ⟨σ₁, seqF_ret h⟩
theorem runF_ends {n : Nat} {F : Sig → Option (Fl × Sig)} {ps : List PV} {p : PV} (hl : ps.length = n) (h : Ends F (argSig ps) p) : runF n F ps = some p := h.elim fun ž1 h => runF_of hl h
section
variable {f g h k : Sig → Option PV} {a b c e : PV} {σ : Sig} {fs : List (Sig → Option PV)} {ps : List PV}
theorem seq_nil : seqO [] σ = some [] := rfl
theorem seq_cons (hf : f σ = some a) (hs : seqO fs σ = some ps) : seqO (f :: fs) σ = some (a :: ps) := by unfold seqO; rw [hf, hs]; rfl
theorem seq1 (hf : f σ = some a) : seqO [f] σ = some [a] := seq_cons hf seq_nil
theorem seq2 (hf : f σ = some a) (hg : g σ = some b) : seqO [f, g] σ = some [a, b] := seq_cons hf (seq1 hg)
theorem seq3 (hf : f σ = some a) (hg : g σ = some b) (hh : h σ = some c) : seqO [f, g, h] σ = some [a, b, c] := seq_cons hf (seq2 hg hh)
theorem tup_of (h : seqO fs σ = some ps) (hl : ps.length ≤ 65536 := by exact Nat.le_of_ble_eq_true rfl) : tupO fs σ = some (.tup ps) := by unfold tupO; rw [h, Option.bind_some, if_pos hl]
theorem tup2 (hf : f σ = some a) (hg : g σ = some b) : tupO [f, g] σ = some (.tup [a, b]) := tup_of (seq2 hf hg)
theorem tup3 (hf : f σ = some a) (hg : g σ = some b) (hh : h σ = some c) : tupO [f, g, h] σ = some (.tup [a, b, c]) := tup_of (seq3 hf hg hh)
theorem call_of {Φ : List PV → Option PV} (h : seqO fs σ = some ps) : callO Φ fs σ = Φ ps := by unfold callO; rw [h]; rfl
theorem call1 {Φ : List PV → Option PV} (hf : f σ = some a) : callO Φ [f] σ = Φ [a] := call_of (seq1 hf)
theorem call2 {Φ : List PV → Option PV} (hf : f σ = some a) (hg : g σ = some b) : callO Φ [f, g] σ = Φ [a, b] := call_of (seq2 hf hg)
theorem call3 {Φ : List PV → Option PV} (hf : f σ = some a) (hg : g σ = some b) (hh : h σ = some c) : callO Φ [f, g, h] σ = Φ [a, b, c] := call_of (seq3 hf hg hh)
theorem b2_of {op : Operator} (hf : f σ = some a) (hg : g σ = some b) : b2 op f g σ = PV.bin op a b := by unfold b2; rw [hf, Option.bind_some, hg, Option.bind_some]
theorem c2_of {op : CmpOp} (hf : f σ = some a) (hg : g σ = some b) : c2 op f g σ = cmpO op a b := by unfold c2; rw [hf, Option.bind_some, hg, Option.bind_some]
theorem i2_of (hf : f σ = some a) (hg : g σ = some b) : i2 f g σ = itemO a b := by unfold i2; rw [hf, Option.bind_some, hg, Option.bind_some]
theorem b2_eq {op : Operator} (hf : f σ = some a) (hg : g σ = some b) (hr : PV.bin op a b = some c) : b2 op f g σ = some c := (b2_of hf hg).trans hr
theorem c2_eq {op : CmpOp} {t : Bool} (hf : f σ = some a) (hg : g σ = some b) (hr : cmpO op a b = some t) : c2 op f g σ = some t := (c2_of hf hg).trans hr
theorem vv_of {i : Nat} (h : σ i = some (.pv a)) : vv i σ = some a := by unfold vv; rw [h]
theorem setF_of {i : Nat} (hf : f σ = some a) : setF i f σ = some (.next, σ.set i (.pv a)) := by unfold setF; rw [hf]; rfl
theorem retF_of (hf : f σ = some a) : retF f σ = some (.ret a, σ) := by unfold retF; rw [hf]; rfl
theorem unF_of {is : List Nat} {p : PV} {τ : Sig} (hf : f σ = some p) (hk : tupK is p σ = some τ) : unF is f σ = some (.next, τ) := by unfold unF; rw [hf, Option.bind_some, hk]; rfl
end
end
end Mine
namespace Mine
open PySem PySem.Float64
section
noncomputable def uN : Nat := Classical.choose (⟨_, rfl⟩ : ∃ u : Nat, u = 2 ^ 1058)
theorem uN_eq : uN = 2 ^ 1058 := Classical.choose_spec (⟨_, rfl⟩ : ∃ u : Nat, u = 2 ^ 1058)
theorem uN_pos : 0 < uN := by rw [uN_eq]; exact Nat.two_pow_pos _
theorem uN_16 : (2 : Nat) ^ 1074 = 65536 * uN := by
  rw [uN_eq, show (65536 : Nat) = 2 ^ 16 by decide, ← Nat.pow_add]
noncomputable def Is (x : UInt64) (w : Int) : Prop := ∃ neg t, x = pack neg t ∧ t < infMag ∧ sgn neg (V t) = w * (uN : Int)
theorem Is.dec {x : UInt64} {w : Int} (h : Is x w) : ∃ a m e, decode x = .fin a m e ∧ (m = 0 ↔ w = 0) := by
  (refine k2_3 h fun neg t ž3 => ?_; subst ž3; intro ht hv)
  refine k2_2 (decode_pack neg ht) fun m e hd hm => ?_
  refine ⟨neg, m, e, hd, ?_⟩
  have hu := uN_pos
  have h2 := Nat.two_pow_pos (e + 1074).toNat
  rw [← hm] at hv
  constructor
  · rintro rfl
    rw [Nat.zero_mul] at hv
    have : (0 : Int) = w * (uN : Int) := by rw [← hv]; unfold sgn; cases neg <;> simp
    refine Or.elim (Int.mul_eq_zero.mp this.symm) (fun h => ?_) fun h => ?_
    · exact h
    · lia
  · rintro rfl
    rw [Int.zero_mul] at hv
    have h3 : (sgn neg (m * 2 ^ (e + 1074).toNat)).natAbs = 0 := by rw [hv]; rfl
    rw [sgn_natAbs] at h3
    refine Or.elim (Nat.mul_eq_zero.mp h3) (fun h => ?_) fun h => ?_
    · exact h
    · lia
theorem Is.val {x : UInt64} {w : Int} (h : Is x w) : val x = w * (uN : Int) := by
  (refine k2_3 h fun neg t ž3 => ?_; subst ž3; intro ht hv)
  rw [val_pack neg ht, hv]
theorem V_inj {t t' : Nat} (h : V t = V t') : t = t' := by
  refine Or.elim (Nat.lt_trichotomy t t') (fun q => ?_) fun ž => Or.elim ž (fun q => ?_) fun q => ?_
  · have := V_lt q; lia
  · exact q
  · have := V_lt q; lia
theorem exact_V {n : Nat} (h0 : n < 2 ^ 53) : ∃ t, t < infMag ∧ V t = n * uN := by
  by_cases hn : n = 0
  · exact ⟨0, by decide, by rw [hn, V_zero, Nat.zero_mul]⟩
  · have h1 := Nat.log2_self_le hn
    have h2 := @Nat.lt_log2_self n
    generalize n.log2 = L at h1 h2
    have hL : L ≤ 52 := by
      by_cases q : L ≤ 52
      · exact q
      · have : 2 ^ 53 ≤ 2 ^ L := Nat.pow_le_pow_right (by decide) (by lia)
        lia
    have q1 : 2 ^ 52 ≤ n * 2 ^ (52 - L) := by
      have : 2 ^ L * 2 ^ (52 - L) ≤ n * 2 ^ (52 - L) := Nat.mul_le_mul_right _ h1
      rw [← Nat.pow_add, show L + (52 - L) = 52 by lia] at this
      exact this
    have q2 : n * 2 ^ (52 - L) < 2 ^ 53 := by
      have : n * 2 ^ (52 - L) < 2 ^ (L + 1) * 2 ^ (52 - L) := Nat.mul_lt_mul_of_pos_right h2 (Nat.two_pow_pos _)
      rw [← Nat.pow_add, show L + 1 + (52 - L) = 53 by lia] at this
      exact this
    refine ⟨(1006 + L) * 2 ^ 52 + n * 2 ^ (52 - L), ?_, ?_⟩
    · have hi : infMag = 2047 * 2 ^ 52 := rfl
      lia
    · rw [V_at (Nat.le_of_lt q2) (.inl q1), Nat.mul_assoc, ← Nat.pow_add, show 52 - L + (1006 + L) = 1058 by lia, uN_eq]
theorem V_max {t : Nat} (h : t < infMag) : V t ≤ (2 ^ 53 - 1) * 2 ^ 2045 := by
  have hA : V (infMag - 1) = (2 ^ 53 - 1) * 2 ^ 2045 := by
    have e : infMag - 1 = 2045 * 2 ^ 52 + (2 ^ 53 - 1) := by unfold infMag; lia
    rw [e]
    exact V_at (k := 2045) (q := 2 ^ 53 - 1) (by lia) (.inl (by lia))
  rw [← hA]
  exact V_mono (by lia)
theorem Is.of_right {r : UInt64} {neg : Bool} {W D : Nat} {w : Int} (h : Right r neg W D) (hD : 0 < D) (hw : w.natAbs < 2 ^ 53) (hW : W = D * (w.natAbs * uN)) (hn : w ≠ 0 → neg = decide (w < 0)) : Is r w := by
  refine k1_2 (exact_V hw) fun t0 h0 hV => ?_
  (refine k1_4 h fun t ž2 => ?_; subst ž2; intro ht hi hnear)
  have hlt : t < infMag := by
    refine Nat.lt_of_le_of_ne ht fun e => ?_
    have h1 := hi.mp e
    have h2 := V_max h0
    rw [hV] at h2
    rw [hW] at h1
    have hK : 0 < (2 : Nat) ^ 2045 := Nat.two_pow_pos _
    generalize (2 : Nat) ^ 2045 = K at *
    have h3 : D * (w.natAbs * uN) ≤ D * ((2 ^ 53 - 1) * K) := Nat.mul_le_mul_left D h2
    have h4 : 0 < D * K := Nat.mul_pos hD hK
    have e1 : D * ((2 ^ 54 - 1) * K) = (2 ^ 54 - 1) * (D * K) := by ac_rfl
    have e2 : D * ((2 ^ 53 - 1) * K) = (2 ^ 53 - 1) * (D * K) := by ac_rfl
    lia
  have hne := (hnear hlt t0).1
  rw [hW, ← hV] at hne
  have e0 : dist (D * V t0) (D * V t0) = 0 := by unfold dist; lia
  rw [e0] at hne
  have e1 : D * V t0 = D * V t := by unfold dist at hne; lia
  have e2 : V t0 = V t := Nat.eq_of_mul_eq_mul_left hD e1
  refine ⟨neg, t, rfl, hlt, ?_⟩
  rw [← e2, hV, sgn_mul]
  congr 1
  by_cases hz : w = 0
  · subst hz; unfold sgn; cases neg <;> rfl
  · rw [hn hz]
    unfold sgn
    by_cases q : w < 0
    · simp only [q, decide_true, if_true]; lia
    · simp only [q, decide_false, Bool.false_eq_true, if_false]; lia
theorem Is.inj {x y : UInt64} {w : Int} (h : Is x w) (k : Is y w) (hw : w ≠ 0) : x = y := by
  (refine k2_3 h fun n1 t1 ž3 => ?_; subst ž3; intro _ h1)
  (refine k2_3 k fun n2 t2 ž3 => ?_; subst ž3; intro _ h2)
  have hu := uN_pos
  have hp : w * (uN : Int) ≠ 0 := fun e => by
    refine Or.elim (Int.mul_eq_zero.mp e) (fun q => ?_) fun q => ?_
    · exact hw q
    · lia
  have e := h1.trans h2.symm
  have ea : V t1 = V t2 := by
    have := congrArg Int.natAbs e
    rwa [sgn_natAbs, sgn_natAbs] at this
  have et := V_inj ea
  subst et
  have hv : V t1 ≠ 0 := fun q => hp (by rw [← h1, q]; unfold sgn; cases n1 <;> rfl)
  have : n1 = n2 := by
    unfold sgn at e
    cases n1 <;> cases n2
    · rfl
    · simp at e; lia
    · simp at e; lia
    · rfl
  rw [this]
theorem Right.uniq {r r' : UInt64} {neg : Bool} {W D : Nat} (h : Right r neg W D) (k : Right r' neg W D) (hD : 0 < D) : r = r' := by
  (refine k1_4 h fun t ž2 => ?_; subst ž2; intro ht hi hn)
  (refine k1_4 k fun t' ž2 => ?_; subst ž2; intro ht' hi' hn')
  by_cases e : t = infMag
  · have := hi'.mpr (hi.mp e)
    rw [e, this]
  · have e' : t' ≠ infMag := fun q => e (hi.mpr (hi'.mp q))
    have hlt : t < infMag := by omega
    have hlt' : t' < infMag := by omega
    by_cases q : t = t'
    · rw [q]
    · exfalso
      have main : ∀ a b : Nat, a < b → a < infMag → b < infMag → (∀ c, dist W (D * V a) ≤ dist W (D * V c) ∧ (V c ≠ V a → dist W (D * V a) = dist W (D * V c) → a % 2 = 0)) → (∀ c, dist W (D * V b) ≤ dist W (D * V c) ∧ (V c ≠ V b → dist W (D * V b) = dist W (D * V c) → b % 2 = 0)) → False := by
        intro a b hab _ _ ha hb
        have hV := V_lt hab
        have eq : dist W (D * V a) = dist W (D * V b) := Nat.le_antisymm (ha b).1 (hb a).1
        have pa := (ha b).2 (Nat.ne_of_gt hV) eq
        have pb := (hb a).2 (Nat.ne_of_lt hV) eq.symm
        have hs : a + 1 < b := by omega
        have h1 := V_lt (show a < a + 1 by omega)
        have h2 := V_lt hs
        have m1 : D * V a < D * V (a + 1) := Nat.mul_lt_mul_of_pos_left h1 hD
        have m2 : D * V (a + 1) < D * V b := Nat.mul_lt_mul_of_pos_left h2 hD
        have h3 := (ha (a + 1)).1
        have h4 := (hb (a + 1)).1
        unfold dist at eq h3 h4
        omega
      refine Or.elim (Nat.lt_or_gt_of_ne q) (fun g => ?_) fun g => ?_
      · exact main t t' g hlt hlt' (hn hlt) (hn' hlt')
      · exact main t' t g hlt' hlt (hn' hlt') (hn hlt)
theorem Is.zero (b : Bool) : Is (zero b) 0 := ⟨b, 0, rfl, by decide, by rw [V_zero, Int.zero_mul]; unfold sgn; cases b <;> rfl⟩
theorem abs_uN (u : Int) : (u * (uN : Int)).natAbs = u.natAbs * uN := by (rewrite [Int.natAbs_mul, Int.natAbs_natCast]; try (with_reducible rfl))
theorem neg_uN (u : Int) : decide (u * (uN : Int) < 0) = decide (u < 0) := by
  apply decide_eq_decide.mpr
  have hu : (0 : Int) < (uN : Int) := by have := uN_pos; lia
  constructor
  · intro h
    by_cases q : u < 0
    · exact q
    · have := Int.mul_nonneg (show 0 ≤ u by lia) (Int.le_of_lt hu); lia
  · exact fun h => Int.mul_neg_of_neg_of_pos h hu
theorem Is.add {x y : UInt64} {u v : Int} (hx : Is x u) (hy : Is y v) (hb : (u + v).natAbs < 2 ^ 53) : Is (add x y) (u + v) := by
  refine k3_2 hx.dec fun a m e d1 _ => ?_
  refine k3_2 hy.dec fun b k f d2 _ => ?_
  have hs : Float64.val x + Float64.val y = (u + v) * (uN : Int) := by rw [hx.val, hy.val, Int.add_mul]
  have hr := add_right d1 d2
  rw [hs] at hr
  by_cases q : u + v = 0
  · rw [hr.1 (by rw [q, Int.zero_mul]), q]; exact Is.zero _
  · have hne : (u + v) * (uN : Int) ≠ 0 := fun e => by
      refine Or.elim (Int.mul_eq_zero.mp e) (fun q' => ?_) fun q' => ?_
      · exact q q'
      · have := uN_pos; lia
    exact Is.of_right (hr.2 hne) (by decide) hb (by rw [abs_uN, Nat.one_mul]) fun ž1 => neg_uN _
theorem Is.sub {x y : UInt64} {u v : Int} (hx : Is x u) (hy : Is y v) (hb : (u - v).natAbs < 2 ^ 53) : Is (sub x y) (u - v) := by
  refine k3_2 hx.dec fun a m e d1 _ => ?_
  refine k3_2 hy.dec fun b k f d2 _ => ?_
  have hs : Float64.val x - Float64.val y = (u - v) * (uN : Int) := by rw [hx.val, hy.val, Int.sub_mul]
  have hr := sub_right d1 d2
  rw [hs] at hr
  by_cases q : u - v = 0
  · rw [hr.1 (by rw [q, Int.zero_mul]), q]; exact Is.zero _
  · have hne : (u - v) * (uN : Int) ≠ 0 := fun e => by
      refine Or.elim (Int.mul_eq_zero.mp e) (fun q' => ?_) fun q' => ?_
      · exact q q'
      · have := uN_pos; omega
    exact Is.of_right (hr.2 hne) (by decide) hb (by rw [abs_uN, Nat.one_mul]) fun ž1 => neg_uN _
theorem Is.sign {x : UInt64} {u : Int} {a : Bool} {m : Nat} {e : Int} (hx : Is x u) (hd : decode x = .fin a m e) (hu : 0 < u) : a = false := by
  have h1 := hx.val
  rw [val_eq hd] at h1
  have : 0 < u * (uN : Int) := Int.mul_pos hu (by have := uN_pos; lia)
  rw [← h1] at this
  unfold sgn at this
  cases a
  · rfl
  · simp only [if_true] at this; lia
theorem Is.mul {x y : UInt64} {u v w : Int} (hx : Is x u) (hy : Is y v) (h0 : 0 ≤ u) (h1 : 0 ≤ v) (hw : u * v = w * 65536) (hb : w.natAbs < 2 ^ 53) : Is (mul x y) w := by
  refine k3_2 hx.dec fun a m e d1 _ => ?_
  refine k3_2 hy.dec fun b k f d2 _ => ?_
  have hr := mul_right d1 d2
  rw [hx.val, hy.val, abs_uN, abs_uN] at hr
  refine Is.of_right hr (Nat.two_pow_pos _) hb ?_ fun hne => ?_
  · have e1 : u.natAbs * v.natAbs = w.natAbs * 65536 := by rw [← Int.natAbs_mul, hw, Int.natAbs_mul]; rfl
    rw [uN_16]
    calc u.natAbs * uN * (v.natAbs * uN) = (u.natAbs * v.natAbs) * (uN * uN) := by ac_rfl
      _ = 65536 * uN * (w.natAbs * uN) := by rw [e1]; ac_rfl
  · have hu : u ≠ 0 := fun q => hne (by rw [q, Int.zero_mul] at hw; lia)
    have hv : v ≠ 0 := fun q => hne (by rw [q, Int.mul_zero] at hw; lia)
    rw [hx.sign d1 (by lia), hy.sign d2 (by lia)]
    have : 0 ≤ u * v := Int.mul_nonneg h0 h1
    rw [hw] at this
    exact (decide_eq_false (by lia)).symm
theorem div_frac {x y : UInt64} {u v : Int} (hx : Is x u) (hy : Is y v) (h0 : 0 < u) (h1 : 0 < v) : div x y = ofFrac false u.natAbs v.natAbs := by
  refine k3_2 hx.dec fun a m e d1 _ => ?_
  refine k3_2 hy.dec fun b k f d2 z2 => ?_
  have hr := div_right d1 d2 (fun q => by have := z2.mp q; omega)
  rw [hx.val, hy.val, abs_uN, abs_uN, hx.sign d1 h0, hy.sign d2 h1] at hr
  have hpos : 0 < v.natAbs * uN := Nat.mul_pos (by omega) uN_pos
  refine Right.uniq hr (ofFrac_right (by omega) ?_ hpos) hpos
  generalize (2 : Nat) ^ 1074 = K
  ac_rfl
theorem Is.div {x y : UInt64} {u v w : Int} (hx : Is x u) (hy : Is y v) (h0 : 0 ≤ u) (h1 : 0 < v) (hw : u * 65536 = w * v) (hb : w.natAbs < 2 ^ 53) : Is (div x y) w := by
  refine k3_2 hx.dec fun a m e d1 _ => ?_
  refine k3_2 hy.dec fun b k f d2 z2 => ?_
  have hr := div_right d1 d2 (fun q => by have := z2.mp q; lia)
  rw [hx.val, hy.val, abs_uN, abs_uN] at hr
  refine Is.of_right hr (Nat.mul_pos (by lia) uN_pos) hb ?_ fun hne => ?_
  · have e1 : u.natAbs * 65536 = w.natAbs * v.natAbs := by
      have := congrArg Int.natAbs hw
      rw [Int.natAbs_mul, Int.natAbs_mul] at this
      exact this
    rw [uN_16]
    calc u.natAbs * uN * (65536 * uN) = (u.natAbs * 65536) * (uN * uN) := by ac_rfl
      _ = v.natAbs * uN * (w.natAbs * uN) := by rw [e1]; ac_rfl
  · have hu : u ≠ 0 := fun q => hne (by
      rw [q, Int.zero_mul] at hw
      refine Or.elim (Int.mul_eq_zero.mp hw.symm) (fun h => ?_) fun h => ?_
      · exact h
      · lia)
    rw [hx.sign d1 (by lia), hy.sign d2 (by lia)]
    have h2 : 0 < w * v := by rw [← hw]; lia
    have h3 : 0 ≤ w := by
      by_cases q : 0 ≤ w
      · exact q
      · have := Int.mul_le_mul_of_nonneg_right (show w ≤ 0 by lia) (show 0 ≤ v by lia)
        rw [Int.zero_mul] at this; lia
    exact (decide_eq_false (by lia)).symm
theorem Is.ofFrac {n d : Nat} {w : Int} (hd : 0 < d) (h0 : 0 ≤ w) (hw : n * 65536 = w.natAbs * d) (hb : w.natAbs < 2 ^ 53) : Is (ofFrac false n d) w := by
  refine Is.of_right (W := w.natAbs * uN) (D := 1) (ofFrac_right hd ?_ (by decide)) (by decide) hb (by rw [Nat.one_mul]) fun ž1 => (decide_eq_false (by omega)).symm
  rw [uN_16, Nat.mul_one]
  calc n * (65536 * uN) = n * 65536 * uN := by ac_rfl
    _ = w.natAbs * uN * d := by rw [hw]; ac_rfl
theorem Is.ofInt {i : Int} (hb : i.natAbs < 2 ^ 37) : Is (ofInt i) (i * 65536) := by
  have e : (i * 65536).natAbs = i.natAbs * 65536 := by rw [Int.natAbs_mul]; rfl
  refine Is.of_right (ofInt_right i) (by decide) (by rw [e]; omega) ?_ fun ž1 => ?_
  · rw [e, uN_16, Nat.one_mul]; ac_rfl
  · apply decide_eq_decide.mpr; omega
theorem cmp_uN (u v : Int) : compare (u * (uN : Int)) (v * (uN : Int)) = compare u v := by
  have hu : (0 : Int) < (uN : Int) := by have := uN_pos; lia
  refine Or.elim (Int.lt_trichotomy u v) (fun h => ?_) fun ž => Or.elim ž (fun h => ?_) fun h => ?_
  · rw [Int.compare_eq_lt.mpr h, Int.compare_eq_lt.mpr (Int.mul_lt_mul_of_pos_right h hu)]
  · subst h; simp
  · rw [Int.compare_eq_gt.mpr h, Int.compare_eq_gt.mpr (Int.mul_lt_mul_of_pos_right h hu)]
theorem Is.cmp {x y : UInt64} {u v : Int} (hx : Is x u) (hy : Is y v) : cmp x y = some (compare u v) := by
  refine k3_2 hx.dec fun a m e d1 _ => ?_
  refine k3_2 hy.dec fun b k f d2 _ => ?_
  rw [cmp_right d1 d2, hx.val, hy.val, cmp_uN]
theorem Is.cmpInt {x : UInt64} {u : Int} (hx : Is x u) (i : Int) : cmpInt x i = some (compare u (i * 65536)) := by
  refine k3_2 hx.dec fun a m e d1 _ => ?_
  (rewrite [cmpInt_right d1, hx.val]; try (with_reducible rfl))
  have : i * 2 ^ 1074 = i * 65536 * (uN : Int) := by
    have h := congrArg (fun n : Nat => (n : Int)) uN_16
    simp only [Int.natCast_pow, Int.natCast_mul] at h
    rw [show ((2 : Nat) : Int) = 2 from rfl, show ((65536 : Nat) : Int) = 65536 from rfl] at h
    (rewrite [h, Int.mul_assoc]; try (with_reducible rfl))
  (rewrite [this, cmp_uN]; try (with_reducible rfl))
theorem Is.nz {x : UInt64} {u : Int} (hx : Is x u) (h : u ≠ 0) : isZero x = false := by
  refine k3_2 hx.dec fun a m e d1 z => ?_
  unfold isZero
  rw [d1]
  cases m with
  | zero => exact absurd (z.mp rfl) h
  | succ m => rfl
theorem Is.notNaN {x : UInt64} {u : Int} (hx : Is x u) : isNaN x = false := by
  refine k3_2 hx.dec fun a m e d1 z => ?_
  unfold isNaN; rw [d1]
theorem Is.notInf {x : UInt64} {u : Int} (hx : Is x u) : isInf x = false := by
  refine k3_2 hx.dec fun a m e d1 z => ?_
  unfold isInf; rw [d1]
end
end Mine
namespace Mine
open PySem PySem.W PySem.Float64
section
noncomputable def Nm (p : PV) (w : Int) : Prop := w.natAbs < 2 ^ 52 ∧ match p with
  | .int n => w = n * 65536
  | .flt x => Is x w
  | _ => False
theorem Nm.int {n : Int} (h : n.natAbs < 2 ^ 36) : Nm (.int n) (n * 65536) := ⟨by lia, rfl⟩
theorem Nm.flt {x : UInt64} {w : Int} (h : Is x w) (hb : w.natAbs < 2 ^ 52) : Nm (.flt x) w := ⟨hb, h⟩
noncomputable def fl : PV → UInt64
  | .int n => ofInt n
  | .flt x => x
  | _ => 0
theorem Nm.fl {p : PV} {w : Int} (h : Nm p w) : Is (fl p) w := by
  refine k0_2 h fun hb h => ?_
  cases p with
  | int n => have h : w = n * 65536 := h; subst h; exact Is.ofInt (by omega)
  | flt x => exact h
  | _ => exact h.elim
theorem Nm.two {p : PV} {w : Int} (h : Nm p w) : (∃ n : Int, p = .int n ∧ w = n * 65536) ∨ ∃ x, p = .flt x ∧ Is x w := by
  refine k0_2 h fun hb h => ?_
  cases p with
  | int n => exact .inl ⟨n, rfl, h⟩
  | flt x => exact .inr ⟨x, rfl, h⟩
  | _ => exact h.elim
theorem Nm.num {p : PV} {w : Int} (h : Nm p w) : numP p = true := by
  rcases h.two with ⟨n, rfl, _⟩ | ⟨x, rfl, _⟩ <;> rfl
theorem cmp_lt (u v : Int) : ((some (compare u v) : Option Ordering) == some .lt) = decide (u < v) := by
  refine Or.elim (Int.lt_trichotomy u v) (fun h => ?_) fun ž => Or.elim ž (fun h => ?_) fun h => ?_
  · rw [Int.compare_eq_lt.mpr h, decide_eq_true h]; rfl
  · subst h; rw [decide_eq_false (by lia)]; simp
  · rw [Int.compare_eq_gt.mpr h, decide_eq_false (by lia)]; rfl
theorem cmp_gt (u v : Int) : ((some (compare u v) : Option Ordering) == some .gt) = decide (v < u) := by
  refine Or.elim (Int.lt_trichotomy u v) (fun h => ?_) fun ž => Or.elim ž (fun h => ?_) fun h => ?_
  · rw [Int.compare_eq_lt.mpr h, decide_eq_false (by lia)]; rfl
  · subst h; rw [decide_eq_false (by lia)]; simp
  · rw [Int.compare_eq_gt.mpr h, decide_eq_true h]; rfl
theorem cmp_eq (u v : Int) : ((some (compare u v) : Option Ordering) == some .eq) = decide (u = v) := by
  refine Or.elim (Int.lt_trichotomy u v) (fun h => ?_) fun ž => Or.elim ž (fun h => ?_) fun h => ?_
  · rw [Int.compare_eq_lt.mpr h, decide_eq_false (by lia)]; rfl
  · subst h; rw [decide_eq_true rfl]; simp
  · rw [Int.compare_eq_gt.mpr h, decide_eq_false (by lia)]; rfl
section
variable {p q : PV} {u v : Int}
theorem Nm.lt (h : Nm p u) (k : Nm q v) : ltO p q = some (decide (u < v)) := by
  rcases h.two with ⟨n, rfl, e⟩ | ⟨x, rfl, h'⟩ <;> rcases k.two with ⟨m, rfl, e'⟩ | ⟨y, rfl, k'⟩
  · show some _ = _; congr 1; apply decide_eq_decide.mpr; omega
  · show some _ = _; rw [k'.cmpInt, cmp_gt, e]
  · show some _ = _; rw [h'.cmpInt, cmp_lt, e']
  · show some _ = _; rw [h'.cmp k', cmp_lt]
theorem Nm.le (h : Nm p u) (k : Nm q v) : leO p q = some (decide (u ≤ v)) := by
  have e2 : ∀ a b : Int, (decide (a < b) || decide (a = b)) = decide (a ≤ b) := fun a b => by rw [← Bool.decide_or]; apply decide_eq_decide.mpr; omega
  have e3 : ∀ a b : Int, (decide (a < b) || decide (b = a)) = decide (a ≤ b) := fun a b => by rw [← Bool.decide_or]; apply decide_eq_decide.mpr; omega
  rcases h.two with ⟨n, rfl, e⟩ | ⟨x, rfl, h'⟩ <;> rcases k.two with ⟨m, rfl, e'⟩ | ⟨y, rfl, k'⟩
  · show some _ = _; congr 1; apply decide_eq_decide.mpr; omega
  · show some _ = _; rw [k'.cmpInt, cmp_gt, cmp_eq, e, e3]
  · show some _ = _; rw [h'.cmpInt, cmp_lt, cmp_eq, e', e2]
  · show some _ = _; rw [h'.cmp k', cmp_lt, cmp_eq, e2]
theorem eqq_lst_def (n : Nat) (xs ys : List PV) : eqq (n + 1) (.lst xs) (.lst ys) = if xs.length = ys.length then allO (List.zipWith (eqq n) xs ys) else some false := rfl
theorem eqq_tup_def (n : Nat) (xs ys : List PV) : eqq (n + 1) (.tup xs) (.tup ys) = if xs.length = ys.length then allO (List.zipWith (eqq n) xs ys) else none := rfl
theorem eqq_dct_def (n : Nat) (es fs : List (DK × PV)) : eqq (n + 1) (.dct es) (.dct fs) = if ((es.all fun e => e.1.isI) && (fs.all fun e => e.1.isI)) = true then if es.length = fs.length then allO (es.map fun e => match lookD fs e.1 with
      | none => some false
      | some y => eqq n e.2 y) else some false else none := rfl
theorem ne_of_eqq {a b : PV} {r : Bool} (h : eqq 8 a b = some r) : cmpO .NotEq a b = some (!r) := by show (eqq 8 a b).map _ = _; rw [h]; rfl
theorem eqq_zero_ii (n : Nat) (a b : Int) : eqq n (.int a) (.int b) = some (a == b) := by cases n <;> rfl
theorem eqq_fi (n : Nat) (a : UInt64) (b : Int) : eqq n (.flt a) (.int b) = some (Float64.cmpInt a b == some .eq) := by cases n <;> rfl
theorem eqq_if (n : Nat) (a : UInt64) (b : Int) : eqq n (.int b) (.flt a) = some (Float64.cmpInt a b == some .eq) := by cases n <;> rfl
theorem eqq_ff (n : Nat) (a b : UInt64) : eqq n (.flt a) (.flt b) = if Float64.isNaN a = true then none else some (Float64.cmp a b == some .eq) := by cases n <;> rfl
theorem Nm.eq (n : Nat) (h : Nm p u) (k : Nm q v) : eqq n p q = some (decide (u = v)) := by
  rcases h.two with ⟨a, rfl, e⟩ | ⟨x, rfl, h'⟩ <;> rcases k.two with ⟨m, rfl, e'⟩ | ⟨y, rfl, k'⟩
  · rw [eqq_zero_ii]; congr 1; rw [Bool.eq_iff_iff, beq_iff_eq, decide_eq_true_iff]; lia
  · rw [eqq_if, k'.cmpInt, cmp_eq, e]; congr 1; apply decide_eq_decide.mpr; lia
  · rw [eqq_fi, h'.cmpInt, cmp_eq, e']
  · rw [eqq_ff, h'.notNaN, if_neg (by simp), h'.cmp k', cmp_eq]
theorem inf_ofInt (h : Nm (.int n) u) : Float64.isInf (ofInt n) = false := h.fl.notInf
theorem Nm.add (h : Nm p u) (k : Nm q v) (hb : (u + v).natAbs < 2 ^ 52) : ∃ r, PV.bin .Add p q = some r ∧ Nm r (u + v) := by
  have hf := h.fl.add k.fl (by lia)
  rcases h.two with ⟨a, rfl, e⟩ | ⟨x, rfl, h'⟩ <;> rcases k.two with ⟨m, rfl, e'⟩ | ⟨y, rfl, k'⟩
  · exact ⟨_, rfl, hb, by show u + v = (a + m) * 65536; lia⟩
  · exact ⟨_, by show (if _ then _ else _) = _; rw [inf_ofInt h, if_neg (by simp)], hb, hf⟩
  · exact ⟨_, by show (if _ then _ else _) = _; rw [inf_ofInt k, if_neg (by simp)], hb, hf⟩
  · exact ⟨_, rfl, hb, hf⟩
theorem Nm.sub (h : Nm p u) (k : Nm q v) (hb : (u - v).natAbs < 2 ^ 52) : ∃ r, PV.bin .Sub p q = some r ∧ Nm r (u - v) := by
  have hf := h.fl.sub k.fl (by lia)
  rcases h.two with ⟨a, rfl, e⟩ | ⟨x, rfl, h'⟩ <;> rcases k.two with ⟨m, rfl, e'⟩ | ⟨y, rfl, k'⟩
  · exact ⟨_, rfl, hb, by show u - v = (a - m) * 65536; lia⟩
  · exact ⟨_, by show (if _ then _ else _) = _; rw [inf_ofInt h, if_neg (by simp)], hb, hf⟩
  · exact ⟨_, by show (if _ then _ else _) = _; rw [inf_ofInt k, if_neg (by simp)], hb, hf⟩
  · exact ⟨_, rfl, hb, hf⟩
theorem Nm.mul (h : Nm p u) (k : Nm q v) (h0 : 0 ≤ u) (h1 : 0 ≤ v) {w : Int} (hw : u * v = w * 65536) (hb : w.natAbs < 2 ^ 52) : ∃ r, PV.bin .Mult p q = some r ∧ Nm r w := by
  have hf := h.fl.mul k.fl h0 h1 hw (by lia)
  have hh := h.1
  rcases h.two with ⟨a, rfl, e⟩ | ⟨x, rfl, h'⟩ <;> rcases k.two with ⟨m, rfl, e'⟩ | ⟨y, rfl, k'⟩
  · refine ⟨_, by show (if _ then _ else _) = _; rw [if_pos (.inl (by lia))], hb, ?_⟩
    show w = a * m * 65536
    rw [e, e'] at hw
    have : a * 65536 * (m * 65536) = a * m * 65536 * 65536 := by ac_rfl
    lia
  · exact ⟨_, by show (if _ then _ else _) = _; rw [inf_ofInt h, if_neg (by simp)], hb, hf⟩
  · exact ⟨_, by show (if _ then _ else _) = _; rw [inf_ofInt k, if_neg (by simp)], hb, hf⟩
  · exact ⟨_, rfl, hb, hf⟩
theorem frac_fin {n d : Nat} (hd : 0 < d) (hn : n ≤ 2 ^ 60) : Float64.isInf (ofFrac false n d) = false := by
  have hlt : roundMag n d < infMag := by
    refine Nat.lt_of_le_of_ne (by rw [roundMag_min]; exact Nat.min_le_left _ _) fun e => ?_
    have h1 := (roundMag_over hd).mp e
    have h2 : 1 * ((2 ^ 54 - 1) * 2 ^ 2045) ≤ d * ((2 ^ 54 - 1) * 2 ^ 2045) := Nat.mul_le_mul_right _ hd
    have h3 : n * 2 ^ 1074 ≤ 2 ^ 60 * 2 ^ 1074 := Nat.mul_le_mul_right _ hn
    have h4 : (2 : Nat) ^ 2045 = 2 ^ 900 * (2 ^ 71 * 2 ^ 1074) := by rw [← Nat.pow_add, ← Nat.pow_add]
    have h5 : 0 < (2 : Nat) ^ 900 := Nat.two_pow_pos _
    have h6 : 0 < (2 : Nat) ^ 1074 := Nat.two_pow_pos _
    rw [h4] at h1 h2
    generalize (2 : Nat) ^ 900 = a at *
    generalize (2 : Nat) ^ 1074 = b at *
    have h7 : 1 * (2 ^ 71 * b) ≤ a * (2 ^ 71 * b) := Nat.mul_le_mul_right _ h5
    generalize a * (2 ^ 71 * b) = c at *
    lia
  refine k2_2 (decode_pack false hlt) fun m e hd' _ => ?_
  unfold Float64.isInf ofFrac
  rw [hd']
theorem frac_same {n d n' d' : Nat} (hd : 0 < d) (hd' : 0 < d') (h : n * d' = n' * d) : ofFrac false n d = ofFrac false n' d' := by
  refine Right.uniq (ofFrac_right (W := n' * 2 ^ 1074) (D := d') hd ?_ hd') (ofFrac_right hd' rfl hd') hd'
  generalize (2 : Nat) ^ 1074 = K
  calc n * K * d' = n * d' * K := by ac_rfl
    _ = n' * K * d := by rw [h]; ac_rfl
theorem Nm.div (h : Nm p u) (k : Nm q v) (h0 : 0 < u) (h1 : 0 < v) : PV.bin .Div p q = some (.flt (ofFrac false u.natAbs v.natAbs)) := by
  have hf := div_frac h.fl k.fl h0 h1
  have nz := k.fl.nz (by omega)
  have hh := h.1
  rcases h.two with ⟨a, rfl, e⟩ | ⟨x, rfl, h'⟩ <;> rcases k.two with ⟨m, rfl, e'⟩ | ⟨y, rfl, k'⟩
  · show (if _ then _ else if _ then _ else _) = _
    have ea : decide (a < 0) = false := decide_eq_false (by omega)
    have em : decide (m < 0) = false := decide_eq_false (by omega)
    (rewrite [ea, em, if_neg (by omega)]; try (with_reducible rfl))
    show (if Float64.isInf (ofFrac false _ _) = true then _ else some (PV.flt (ofFrac false _ _))) = _
    (rewrite [frac_fin (by omega) (by omega), if_neg (by simp), frac_same (n' := u.natAbs) (d' := v.natAbs) (by omega) (by omega) ?_]; try (with_reducible rfl))
    have e1 : u.natAbs = a.natAbs * 65536 := by (rewrite [e, Int.natAbs_mul]; try (with_reducible rfl)); rfl
    have e2 : v.natAbs = m.natAbs * 65536 := by (rewrite [e', Int.natAbs_mul]; try (with_reducible rfl)); rfl
    (rewrite [e1, e2]; try (with_reducible rfl)); ac_rfl
  · show (if _ then _ else if _ then _ else _) = _
    (rewrite [inf_ofInt h, if_neg (by simp)]; try (with_reducible rfl))
    have nz : isZero y = false := nz
    (rewrite [nz, if_neg (by simp)]; try (with_reducible rfl))
    exact congrArg (fun z => some (PV.flt z)) hf
  · show (if _ then _ else if _ then _ else _) = _
    (rewrite [inf_ofInt k, if_neg (by simp)]; try (with_reducible rfl))
    have nz : isZero (ofInt m) = false := nz
    (rewrite [nz, if_neg (by simp)]; try (with_reducible rfl))
    exact congrArg (fun z => some (PV.flt z)) hf
  · show (if _ then _ else _) = _
    have nz : isZero y = false := nz
    (rewrite [nz, if_neg (by simp)]; try (with_reducible rfl))
    exact congrArg (fun z => some (PV.flt z)) hf
theorem Nm.divE (h : Nm p u) (k : Nm q v) (h0 : 0 ≤ u) (h1 : 0 < v) {w : Int} (hw : u * 65536 = w * v) (hb : w.natAbs < 2 ^ 52) : ∃ r, PV.bin .Div p q = some r ∧ Nm r w := by
  have hf := h.fl.div k.fl h0 h1 hw (by lia)
  have nz := k.fl.nz (by lia)
  have hh := h.1
  rcases h.two with ⟨a, rfl, e⟩ | ⟨x, rfl, h'⟩ <;> rcases k.two with ⟨m, rfl, e'⟩ | ⟨y, rfl, k'⟩
  · refine ⟨PV.flt (ofFrac false a.natAbs m.natAbs), ?_, ?_⟩
    · show (if _ then _ else if _ then _ else _) = _
      have ea : decide (a < 0) = false := decide_eq_false (by lia)
      have em : decide (m < 0) = false := decide_eq_false (by lia)
      rw [ea, em, if_neg (by lia)]
      show (if Float64.isInf (ofFrac false _ _) = true then _ else some (PV.flt (ofFrac false _ _))) = _
      rw [frac_fin (by lia) (by lia), if_neg (by simp)]
    · have hw0 : 0 ≤ w := by
        by_cases q : 0 ≤ w
        · exact q
        · have := Int.mul_lt_mul_of_pos_right (show w < 0 by lia) h1
          rw [Int.zero_mul] at this; lia
      refine Nm.flt (Is.ofFrac (by lia) hw0 ?_ (by lia)) hb
      have e1 := congrArg Int.natAbs hw
      rw [e, e'] at e1
      simp only [Int.natAbs_mul] at e1
      rw [show (65536 : Int).natAbs = 65536 from rfl, ← Nat.mul_assoc] at e1
      exact Nat.eq_of_mul_eq_mul_right (show 0 < 65536 by decide) e1
  · refine ⟨_, ?_, Nm.flt hf hb⟩
    show (if _ then _ else if _ then _ else _) = _
    rw [inf_ofInt h, if_neg (by simp)]
    have nz : isZero y = false := nz
    rw [nz, if_neg (by simp)]
    rfl
  · refine ⟨_, ?_, Nm.flt hf hb⟩
    show (if _ then _ else if _ then _ else _) = _
    rw [inf_ofInt k, if_neg (by simp)]
    have nz : isZero (ofInt m) = false := nz
    rw [nz, if_neg (by simp)]
    rfl
  · refine ⟨_, ?_, Nm.flt hf hb⟩
    show (if _ then _ else _) = _
    have nz : isZero y = false := nz
    rw [nz, if_neg (by simp)]
    rfl
theorem Nm.ltP (h : Nm p u) (k : Nm q v) : ltP p q = decide (u < v) := by unfold Mine.ltP; rw [h.lt k]; rfl
theorem max3 {r : PV} {w : Int} (h : Nm p u) (k : Nm q v) (l : Nm r w) : ∃ m, maxΦ [p, q, r] = some m ∧ Nm m (max (max u v) w) ∧ (m = p ∨ m = q ∨ m = r) := by
  rw [show maxΦ [p, q, r] = if numP p ∧ numP q ∧ numP r then bestMax [p, q, r] else none from (by rcases h.two with ⟨n, rfl, _⟩ | ⟨x, rfl, _⟩ <;> rfl), if_pos ⟨h.num, k.num, l.num⟩]
  unfold bestMax
  simp only [List.length_cons, List.length_nil, Nat.reduceAdd, Nat.reduceSub, argBest, List.getD_cons_zero, List.getD_cons_succ, h.ltP k]
  by_cases c1 : u < v
  · simp only [c1, decide_true, if_true, List.getD_cons_zero, List.getD_cons_succ, k.ltP l]
    by_cases c2 : v < w
    · simp only [c2, decide_true, if_true]; exact ⟨r, rfl, by rw [show max (max u v) w = w by lia]; exact l, .inr (.inr rfl)⟩
    · simp only [c2, decide_false, Bool.false_eq_true, if_false]; exact ⟨q, rfl, by rw [show max (max u v) w = v by lia]; exact k, .inr (.inl rfl)⟩
  · simp only [c1, decide_false, Bool.false_eq_true, if_false, List.getD_cons_zero, List.getD_cons_succ, h.ltP l]
    by_cases c2 : u < w
    · simp only [c2, decide_true, if_true]; exact ⟨r, rfl, by rw [show max (max u v) w = w by lia]; exact l, .inr (.inr rfl)⟩
    · simp only [c2, decide_false, Bool.false_eq_true, if_false]; exact ⟨p, rfl, by rw [show max (max u v) w = u by lia]; exact h, .inl rfl⟩
theorem min3 {r : PV} {w : Int} (h : Nm p u) (k : Nm q v) (l : Nm r w) : ∃ m, minΦ [p, q, r] = some m ∧ Nm m (min (min u v) w) := by
  rw [show minΦ [p, q, r] = if numP p ∧ numP q ∧ numP r then bestMin [p, q, r] else none from (by rcases h.two with ⟨n, rfl, _⟩ | ⟨x, rfl, _⟩ <;> rfl), if_pos ⟨h.num, k.num, l.num⟩]
  unfold bestMin
  simp only [List.length_cons, List.length_nil, Nat.reduceAdd, Nat.reduceSub, argBest, List.getD_cons_zero, List.getD_cons_succ, k.ltP h]
  by_cases c1 : v < u
  · simp only [c1, decide_true, if_true, List.getD_cons_zero, List.getD_cons_succ, l.ltP k]
    by_cases c2 : w < v
    · simp only [c2, decide_true, if_true]; exact ⟨r, rfl, by rw [show min (min u v) w = w by lia]; exact l⟩
    · simp only [c2, decide_false, Bool.false_eq_true, if_false]; exact ⟨q, rfl, by rw [show min (min u v) w = v by lia]; exact k⟩
  · simp only [c1, decide_false, Bool.false_eq_true, if_false, List.getD_cons_zero, List.getD_cons_succ, l.ltP h]
    by_cases c2 : w < u
    · simp only [c2, decide_true, if_true]; exact ⟨r, rfl, by rw [show min (min u v) w = w by lia]; exact l⟩
    · simp only [c2, decide_false, Bool.false_eq_true, if_false]; exact ⟨p, rfl, by rw [show min (min u v) w = u by lia]; exact h⟩
end
end
section
theorem eq_int (a b : Int) : cmpO .Eq (.int a) (.int b) = some (decide (a = b)) := eqq_zero_ii 8 a b
theorem mod6 (i : Int) : PV.bin .Mod (.int i) (.int 6) = some (.int (i.fmod 6)) := rfl
theorem eqF_int {σ : Sig} {i : Nat} {j k : Int} (v : σ i = some (.pv (.int j))) : c2 .Eq (vv i) (cc (.int k)) σ = some (decide (j = k)) := c2_eq (vv_of v) rfl (eq_int j k)
theorem arm_no {σ : Sig} {i : Nat} {j k : Int} {F : Sig → Option (Fl × Sig)} (v : σ i = some (.pv (.int j))) (h : j ≠ k) : ifF (c2 .Eq (vv i) (cc (.int k))) F nextF σ = some (.next, σ) := (ifF_false ((eqF_int v).trans (congrArg some (decide_eq_false h)))).trans rfl
theorem arm_yes {σ : Sig} {i : Nat} {j : Int} {fs : List (Sig → Option PV)} {ps : List PV} (v : σ i = some (.pv (.int j))) (h : seqO fs σ = some ps) (hl : ps.length ≤ 65536 := by exact Nat.le_of_ble_eq_true rfl) : ifF (c2 .Eq (vv i) (cc (.int j))) (seqF (retF (tupO fs)) nextF) nextF σ = some (.ret (.tup ps), σ) := (ifF_true ((eqF_int v).trans (congrArg some (decide_eq_true rfl)))).trans (seqF_ret (retF_of (tup_of h hl)))
noncomputable def hsvEnd : Sig → Option (Fl × Sig) := seqF F_hsv_to_rgb_7 (seqF F_hsv_to_rgb_8 (seqF F_hsv_to_rgb_9 (seqF F_hsv_to_rgb_10 (seqF F_hsv_to_rgb_11 (seqF F_hsv_to_rgb_12 nextF)))))
theorem hsv_gen {h s v x f p q t b c d e o r : PV} {i : Int} (e0 : cmpO .Eq s (.flt 0) = some false) (e1 : PV.bin .Mult h (.flt 0x4018000000000000) = some x) (e2 : intΦ [x] = some (.int i)) (e3 : PV.bin .Sub x (.int i) = some f)
    (p1 : PV.bin .Sub (.flt 0x3ff0000000000000) s = some b) (p2 : PV.bin .Mult v b = some p) (q1 : PV.bin .Mult s f = some c) (q2 : PV.bin .Sub (.flt 0x3ff0000000000000) c = some d) (q3 : PV.bin .Mult v d = some q)
    (t1 : PV.bin .Sub (.flt 0x3ff0000000000000) f = some e) (t2 : PV.bin .Mult s e = some o) (t3 : PV.bin .Sub (.flt 0x3ff0000000000000) o = some r) (t4 : PV.bin .Mult v r = some t) {ans : PV}
    (hk : ∀ σ : Sig, σ 2 = some (.pv v) → σ 3 = some (.pv (.int (i.fmod 6))) → σ 5 = some (.pv p) → σ 6 = some (.pv q) → σ 7 = some (.pv t) → ∃ τ, hsvEnd σ = some (.ret ans, τ)) : Φ_hsv_to_rgb [h, s, v] = some ans := by
  refine k1_1 (hk (((((((argSig [h, s, v]).set 3 (.pv (.int i))).set 4 (.pv f)).set 5 (.pv p)).set 6 (.pv q)).set 7 (.pv t)).set 3 (.pv (.int (i.fmod 6)))) rfl rfl rfl rfl rfl) fun τ hτ => ?_
  have v0 : argSig [h, s, v] 0 = some (.pv h) := rfl
  have v1 : argSig [h, s, v] 1 = some (.pv s) := rfl
  have v2 : argSig [h, s, v] 2 = some (.pv v) := rfl
  refine runF_of rfl (σ' := τ) ?_
  generalize argSig [h, s, v] = σ at *
  refine seq_to (ifF_false (c2_eq (vv_of v1) rfl e0)) ?_
  refine seq_to (setF_of ((call1 (b2_eq (vv_of v0) rfl e1)).trans e2)) ?_
  refine seq_to (setF_of (b2_eq (b2_eq (vv_of v0) rfl e1) (vv_of rfl) e3)) ?_
  refine seq_to (setF_of (b2_eq (vv_of v2) (b2_eq rfl (vv_of v1) p1) p2)) ?_
  refine seq_to (setF_of (b2_eq (vv_of v2) (b2_eq rfl (b2_eq (vv_of v1) (vv_of rfl) q1) q2) q3)) ?_
  refine seq_to (setF_of (b2_eq (vv_of v2) (b2_eq rfl (b2_eq (vv_of v1) (b2_eq rfl (vv_of rfl) t1) t2) t3) t4)) ?_
  refine seq_to (setF_of (b2_eq (vv_of rfl) rfl (mod6 i))) hτ
noncomputable def pick6 (j : Int) (v p q t : PV) : List PV := if j = 0 then [v, t, p] else if j = 1 then [q, v, p] else if j = 2 then [p, v, t] else if j = 3 then [p, q, v] else if j = 4 then [t, p, v] else [v, p, q]
theorem hsv_end {v p q t : PV} {j : Int} (hj : j = 0 ∨ j = 1 ∨ j = 2 ∨ j = 3 ∨ j = 4 ∨ j = 5) {σ : Sig} (v2 : σ 2 = some (.pv v)) (v3 : σ 3 = some (.pv (.int j))) (v5 : σ 5 = some (.pv p)) (v6 : σ 6 = some (.pv q)) (v7 : σ 7 = some (.pv t)) : hsvEnd σ = some (.ret (.tup (pick6 j v p q t)), σ) := by
  have w2 := vv_of v2
  have w5 := vv_of v5
  have w6 := vv_of v6
  have w7 := vv_of v7
  rcases hj with rfl | rfl | rfl | rfl | rfl | rfl
  · exact seqF_ret (arm_yes v3 (seq3 w2 w7 w5))
  · exact seq_to (arm_no v3 (by decide)) (seqF_ret (arm_yes v3 (seq3 w6 w2 w5)))
  · exact seq_to (arm_no v3 (by decide)) (seq_to (arm_no v3 (by decide)) (seqF_ret (arm_yes v3 (seq3 w5 w2 w7))))
  · exact seq_to (arm_no v3 (by decide)) (seq_to (arm_no v3 (by decide)) (seq_to (arm_no v3 (by decide)) (seqF_ret (arm_yes v3 (seq3 w5 w6 w2)))))
  · exact seq_to (arm_no v3 (by decide)) (seq_to (arm_no v3 (by decide)) (seq_to (arm_no v3 (by decide)) (seq_to (arm_no v3 (by decide)) (seqF_ret (arm_yes v3 (seq3 w7 w5 w2))))))
  · exact seq_to (arm_no v3 (by decide)) (seq_to (arm_no v3 (by decide)) (seq_to (arm_no v3 (by decide)) (seq_to (arm_no v3 (by decide)) (seq_to (arm_no v3 (by decide)) (seqF_ret (arm_yes v3 (seq3 w2 w5 w6)))))))
end
section
noncomputable def tt (x : Int) : Int := min (max ((((x + 24) % 48 - 24).natAbs : Int) - 8) 0) 8
noncomputable def hueAt (m : Nat) : Bool := (mul (ofFrac false m 48) 0x4018000000000000 == ofFrac false m 8) && (match intΦ [.flt (ofFrac false m 8)] with
  | some (.int i) => decide (i = ((m / 8 : Nat) : Int))
  | _ => false)
theorem hue_at : ((List.range 248).all hueAt) = true := by decide +kernel
theorem one_lit : (0x3ff0000000000000 : UInt64) = ofFrac false 1 1 := by decide +kernel
theorem zero_lit : (0x0000000000000000 : UInt64) = zero false := by decide +kernel
theorem Nm.zero : Nm (.flt 0) 0 := Nm.flt (zero_lit ▸ Is.zero false) (by decide)
theorem Nm.one : Nm (.flt 0x3ff0000000000000) 65536 := Nm.flt (by rw [one_lit]; exact Is.ofFrac (by decide) (by decide) (by decide) (by decide)) (by decide)
theorem frac_8 (m : Nat) (h : m < 248) : Is (ofFrac false m 8) (m * 8192) := Is.ofFrac (by decide) (by lia) (by lia) (by lia)
noncomputable def tri6 (j r : Int) : Int × Int × Int := if j = 0 then (0, 8 - r, 8) else if j = 1 then (r, 0, 8) else if j = 2 then (8, 0, 8 - r) else if j = 3 then (8, r, 0) else if j = 4 then (8 - r, 8, 0) else (0, 8, r)
theorem tt_tri : ((List.range 248).all fun m => decide ((tt m, tt (m - 16), tt (m - 32)) = tri6 (((m / 8 : Nat) : Int).fmod 6) ((m % 8 : Nat) : Int))) = true := by decide +kernel
theorem sext : ((List.range 248).all fun m => decide (((m / 8 : Nat) : Int).fmod 6 = 0 ∨ ((m / 8 : Nat) : Int).fmod 6 = 1 ∨ ((m / 8 : Nat) : Int).fmod 6 = 2 ∨ ((m / 8 : Nat) : Int).fmod 6 = 3 ∨ ((m / 8 : Nat) : Int).fmod 6 = 4 ∨ ((m / 8 : Nat) : Int).fmod 6 = 5)) = true := by decide +kernel
noncomputable def lampW (v share j : Int) : Int := v * (32 - share * j) * 2048
theorem lamp_part {v share j : Int} (hs : 1 ≤ share ∧ share ≤ 4) (hv : 0 ≤ v ∧ v ≤ 1000) (j0 : 0 ≤ j) (j8 : j ≤ 8) {c : PV} (hc : Nm c (65536 - share * j * 2048)) : ∃ p, PV.bin .Mult (.int v) c = some p ∧ Nm p (lampW v share j) := by
  have e1 : 0 ≤ share * j := Int.mul_nonneg (Int.le_trans (by decide) hs.1) j0
  have e2 : share * j ≤ 4 * 8 := Int.mul_le_mul hs.2 j8 j0 (by decide)
  have e3 : (65536 : Int) - share * j * 2048 = (32 - share * j) * 2048 := by clear hc e1 e2; lia
  rw [e3] at hc
  have e6 : 0 ≤ 32 - share * j ∧ 32 - share * j ≤ 32 := by clear hc e3; lia
  generalize hx : 32 - share * j = x at *
  have e4 : 0 ≤ v * x := Int.mul_nonneg hv.1 e6.1
  have e5 : v * x ≤ 1000 * 32 := Int.mul_le_mul hv.2 e6.2 e6.1 (by decide)
  have nv : Nm (.int v) (v * 65536) := Nm.int (by clear hc e3 e4 e5 hx e6; lia)
  unfold lampW
  rw [hx]
  refine nv.mul hc (by clear hc e3 hx; lia) (by clear hc e3 hx; lia) (by ac_rfl) ?_
  clear hc e3 hx nv e1 e2
  generalize v * x = y at *
  lia
theorem small_mul {a b : Int} (ha : 1 ≤ a ∧ a ≤ 4) (hb : 0 ≤ b ∧ b ≤ 8) : 0 ≤ a * b * 2048 ∧ a * b * 2048 ≤ 65536 := by
  have e1 : 0 ≤ a * b := Int.mul_nonneg (Int.le_trans (by decide) ha.1) hb.1
  have e2 : a * b ≤ 4 * 8 := Int.mul_le_mul ha.2 hb.2 hb.1 (by decide)
  generalize a * b = y at *
  lia
theorem hsv_one {share : Int} (hs : 1 ≤ share ∧ share ≤ 4) {r : Int} (hr : 0 ≤ r ∧ r ≤ 8) {s f : PV} (ns : Nm s (share * 16384)) (nf : Nm f (r * 8192)) :
    ∃ c d, PV.bin .Mult s f = some c ∧ PV.bin .Sub (.flt 0x3ff0000000000000) c = some d ∧ Nm d (65536 - share * r * 2048) := by
  refine k0_2 (small_mul hs hr) fun k1 k2 => ?_
  refine k1_2 (ns.mul nf (Int.mul_nonneg (Int.le_trans (by decide) hs.1) (by decide)) (Int.mul_nonneg hr.1 (by decide)) (w := share * r * 2048) (by rw [show share * 16384 * (r * 8192) = share * r * (16384 * 8192) by ac_rfl, Int.mul_assoc (share * r) 2048]; rfl) (by clear ns nf; lia)) fun c ec nc => ?_
  refine k1_2 (Nm.one.sub nc (by clear ns nf nc; lia)) fun d ed nd => ?_
  exact ⟨c, d, ec, ed, nd⟩
noncomputable def LampOk (m : Nat) (share v : Int) (s : PV) : Prop := ∃ r g b, Φ_hsv_to_rgb [.flt (ofFrac false m 48), s, .int v] = some (.tup [r, g, b]) ∧ Nm r (v * (32 - share * tt m) * 2048) ∧ Nm g (v * (32 - share * tt (m - 16)) * 2048) ∧ Nm b (v * (32 - share * tt (m - 32)) * 2048)
set_option tactic.hygienic true in
theorem hsv_law {m : Nat} (hm : m < 248) {share : Int} (hs : 1 ≤ share ∧ share ≤ 4) {v : Int} (hv : 0 ≤ v ∧ v ≤ 1000) {s : PV} (ns : Nm s (share * 16384)) : LampOk m share v s := by
  have hat := List.all_eq_true.mp hue_at m (List.mem_range.mpr hm)
  unfold hueAt at hat
  rw [Bool.and_eq_true, beq_iff_eq] at hat
  refine k0_2 hat fun hx hi => ?_
  have hi : intΦ [.flt (ofFrac false m 8)] = some (.int ((m / 8 : Nat) : Int)) := by
    split at hi
    · rename_i i e; (rewrite [e, of_decide_eq_true hi]; try (with_reducible rfl))
    · exact nv4 hi
  have htri := of_decide_eq_true (List.all_eq_true.mp tt_tri m (List.mem_range.mpr hm))
  have nx : Nm (.flt (ofFrac false m 8)) (m * 8192) := Nm.flt (frac_8 m hm) (by clear hx hi htri ns; lia)
  have ni : Nm (.int ((m / 8 : Nat) : Int)) (((m / 8 : Nat) : Int) * 65536) := Nm.int (by clear hx hi htri nx ns; lia)
  have nv : Nm (.int v) (v * 65536) := Nm.int (by clear hx hi htri nx ni ns; lia)
  refine k1_2 (nx.sub ni (by clear hx hi htri nx ni ns nv; lia)) fun f ef nf => ?_
  have nf : Nm f (((m % 8 : Nat) : Int) * 8192) := by
    have : (m : Int) * 8192 - ((m / 8 : Nat) : Int) * 65536 = ((m % 8 : Nat) : Int) * 8192 := by clear hx hi htri nx ni ns nv nf; lia
    (rewrite [← this]; try (with_reducible rfl)); exact nf
  have hr8 : 0 ≤ ((m % 8 : Nat) : Int) ∧ ((m % 8 : Nat) : Int) ≤ 8 := by clear hx hi htri nx ni ns nv nf; lia
  have hj := of_decide_eq_true (List.all_eq_true.mp sext m (List.mem_range.mpr hm))
  generalize ((m % 8 : Nat) : Int) = r at *
  refine k1_2 (Nm.one.sub ns (by clear hx hi htri nx ni ns nv nf ef hj; lia)) fun a1 ea1 na1 => ?_
  refine k1_2 (lamp_part hs hv (c := a1) (j := 8) (by decide) (by decide) (by (rewrite [show share * 8 * 2048 = share * 16384 from Int.mul_assoc ..]; try (with_reducible rfl)); exact na1)) fun p ep np => ?_
  refine k2_3 (hsv_one hs hr8 ns nf) fun c d q1 q2 nd => ?_
  refine k1_2 (lamp_part hs hv hr8.1 hr8.2 nd) fun q q3 nq => ?_
  have hr8' : 0 ≤ 8 - r ∧ 8 - r ≤ 8 := by clear hx hi htri nx ni ns nv nf ef hj na1 np nd nq; lia
  refine k1_2 (Nm.one.sub nf (by clear hx hi htri nx ni ns nv nf ef hj na1 np nd nq; lia)) fun e t1 ne => ?_
  have ne : Nm e ((8 - r) * 8192) := by (rewrite [Int.sub_mul]; try (with_reducible rfl)); exact ne
  refine k2_3 (hsv_one hs hr8' ns ne) fun o u t2 t3 nu => ?_
  refine k1_2 (lamp_part hs hv hr8'.1 hr8'.2 nu) fun t t4 nt => ?_
  have e0 : cmpO .Eq s (.flt 0) = some false := by
    show eqq 8 s (.flt 0) = _
    (rewrite [ns.eq 8 Nm.zero, decide_eq_false (by clear hx hi htri nx ni ns nv nf ef hj na1 np nd nq ne nu nt; lia)]; try (with_reducible rfl))
  have emul : PV.bin .Mult (.flt (ofFrac false m 48)) (.flt 0x4018000000000000) = some (.flt (ofFrac false m 8)) := congrArg (fun x => some (PV.flt x)) hx
  have nv0 : Nm (.int v) (lampW v share 0) := by unfold lampW; (rewrite [Int.mul_zero, Int.mul_assoc]; try (with_reducible rfl)); exact nv
  generalize hj' : ((m / 8 : Nat) : Int).fmod 6 = j at hj htri
  have hΦ := hsv_gen (v := .int v) e0 emul hi ef ea1 ep q1 q2 q3 t1 t2 t3 t4 (ans := .tup (pick6 j (.int v) p q t)) fun σ s2 s3 s5 s6 s7 => ⟨σ, hsv_end hj s2 (hj' ▸ s3) s5 s6 s7⟩
  have g1 : tt m = (tri6 j r).1 := congrArg (·.1) htri
  have g2 : tt (m - 16) = (tri6 j r).2.1 := congrArg (·.2.1) htri
  have g3 : tt (m - 32) = (tri6 j r).2.2 := congrArg (·.2.2) htri
  unfold LampOk
  (rewrite [hΦ]; try (with_reducible rfl))
  clear hΦ hx hi htri nx ni ns nv nf ef na1 nd ne nu e0 emul hj' t1 t2 t3 t4 q1 q2 q3
  show ∃ r g b, _ ∧ Nm r (lampW v share (tt m)) ∧ Nm g (lampW v share (tt (m - 16))) ∧ Nm b (lampW v share (tt (m - 32)))
  (rewrite [g1, g2, g3]; try (with_reducible rfl))
  rcases hj with rfl | rfl | rfl | rfl | rfl | rfl
  · exact ⟨_, _, _, rfl, nv0, nt, np⟩
  · exact ⟨_, _, _, rfl, nq, nv0, np⟩
  · exact ⟨_, _, _, rfl, np, nv0, nt⟩
  · exact ⟨_, _, _, rfl, np, nq, nv0⟩
  · exact ⟨_, _, _, rfl, nt, np, nv0⟩
  · exact ⟨_, _, _, rfl, nv0, np, nq⟩
end
section
noncomputable def hOf (b : Int) : Int := if tt b = 0 then tt (b - 32) - tt (b - 16) else if tt (b - 16) = 0 then 16 + tt b - tt (b - 32) else 32 + tt (b - 16) - tt b
noncomputable abbrev six : UInt64 := 0x4018000000000000
noncomputable abbrev one : UInt64 := 0x3ff0000000000000
noncomputable def turnOf (x : UInt64) : UInt64 := (divmod (div x six) one).2
noncomputable def sameHue (x : UInt64) (b : Nat) : Bool := !isNaN (turnOf x) && (cmp (turnOf x) (ofFrac false b 48) == some .eq)
noncomputable def hueBack (b : Nat) : Bool := decide (-8 ≤ hOf b ∧ hOf b ≤ 47) && (if hOf b = 0 then sameHue (zero false) b && sameHue (zero true) b else sameHue (ofFrac (decide (hOf b < 0)) (hOf b).natAbs 8) b)
theorem hue_back : ((List.range 48).all hueBack) = true := by decide +kernel
theorem two_lit : (0x4000000000000000 : UInt64) = ofFrac false 2 1 := by decide +kernel
theorem four_lit : (0x4010000000000000 : UInt64) = ofFrac false 4 1 := by decide +kernel
theorem is_two : Is 0x4000000000000000 131072 := by rw [two_lit]; exact Is.ofFrac (by decide) (by decide) (by decide) (by decide)
theorem is_four : Is 0x4010000000000000 262144 := by rw [four_lit]; exact Is.ofFrac (by decide) (by decide) (by decide) (by decide)
theorem Is.ofFracS {n d : Nat} {w : Int} (hd : 0 < d) (hw : n * 65536 = w.natAbs * d) (hb : w.natAbs < 2 ^ 53) : Is (Float64.ofFrac (decide (w < 0)) n d) w := by
  refine Is.of_right (W := w.natAbs * uN) (D := 1) (ofFrac_right hd ?_ (by decide)) (by decide) hb (by rw [Nat.one_mul]) fun ž1 => rfl
  rw [uN_16, Nat.mul_one]
  calc n * (65536 * uN) = n * 65536 * uN := by ac_rfl
    _ = w.natAbs * uN * d := by rw [hw]; ac_rfl
theorem Is.zero_of {x : UInt64} (h : Is x 0) : ∃ b, x = Float64.zero b := by
  (refine k2_3 h fun b t ž3 => ?_; subst ž3; intro ht hv)
  refine ⟨b, ?_⟩
  rw [Int.zero_mul] at hv
  have h2 : (sgn b (V t)).natAbs = 0 := by rw [hv]; rfl
  rw [sgn_natAbs] at h2
  have : t = 0 := V_inj (h2.trans V_zero.symm)
  rw [this]; rfl
theorem tt_le (x : Int) : 0 ≤ tt x ∧ tt x ≤ 8 := by unfold tt; omega
theorem same_hue {x : UInt64} {b : Nat} (hb : b < 48) (h : Is x (hOf b * 8192)) : sameHue x b = true := by
  have hc := List.all_eq_true.mp hue_back b (List.mem_range.mpr hb)
  unfold hueBack at hc
  rw [Bool.and_eq_true, decide_eq_true_iff] at hc
  obtain ⟨h1, hc⟩ := hc
  generalize hOf b = g at *
  by_cases q : g = 0
  · rw [if_pos q, Bool.and_eq_true] at hc
    subst q
    obtain ⟨s, rfl⟩ := Is.zero_of (x := x) h
    cases s
    · exact hc.1
    · exact hc.2
  · rw [if_neg q] at hc
    have e : decide (g * 8192 < 0) = decide (g < 0) := by apply decide_eq_decide.mpr; lia
    have hi := Is.ofFracS (n := g.natAbs) (d := 8) (w := g * 8192) (by decide) (by lia) (by lia)
    rw [e] at hi
    rw [Is.inj h hi (by lia)]
    exact hc
noncomputable def hueP (tr tg : Int) (rc gc bc : PV) : Option PV := if tr = 0 then PV.bin .Sub bc gc else if tg = 0 then (PV.bin .Add (.flt 0x4000000000000000) rc).bind fun x => PV.bin .Sub x bc else (PV.bin .Add (.flt 0x4010000000000000) gc).bind fun x => PV.bin .Sub x rc
theorem hue_told {b : Nat} (hb : b < 48) {x y z : UInt64} (hx : Is x (tt b * 8192)) (hy : Is y (tt (b - 16) * 8192)) (hz : Is z (tt (b - 32) * 8192)) :
    ∃ h u w, hueP (tt b) (tt (b - 16)) (.flt x) (.flt y) (.flt z) = some h ∧ PV.bin .Div h (.flt six) = some u ∧ PV.bin .Mod u (.flt one) = some (.flt w) ∧ ∀ n, eqq n (.flt w) (.flt (ofFrac false b 48)) = some true := by
  have l1 := tt_le b
  have l2 := tt_le (b - 16)
  have l3 := tt_le (b - 32)
  have key : ∃ v, hueP (tt b) (tt (b - 16)) (.flt x) (.flt y) (.flt z) = some (.flt v) ∧ Is v (hOf b * 8192) := by
    unfold hueP hOf
    by_cases c1 : tt b = 0
    · simp only [c1, if_true]
      refine ⟨_, rfl, ?_⟩
      have := hz.sub hy (by omega)
      rw [← Int.sub_mul] at this
      exact this
    · simp only [c1, if_false]
      by_cases c2 : tt (b - 16) = 0
      · simp only [c2, if_true]
        refine ⟨_, rfl, ?_⟩
        have := (is_two.add hx (by omega)).sub hz (by omega)
        rw [show (16 + tt b - tt (b - 32)) * 8192 = 131072 + tt b * 8192 - tt (b - 32) * 8192 by omega]
        exact this
      · simp only [c2, if_false]
        refine ⟨_, rfl, ?_⟩
        have := (is_four.add hy (by omega)).sub hx (by omega)
        rw [show (32 + tt (b - 16) - tt b) * 8192 = 262144 + tt (b - 16) * 8192 - tt b * 8192 by omega]
        exact this
  refine k1_2 key fun v e hv => ?_
  have hs := same_hue hb hv
  unfold sameHue at hs
  rw [Bool.and_eq_true, Bool.not_eq_true'] at hs
  refine ⟨.flt v, .flt (div v six), turnOf v, e, ?_, ?_, fun n => ?_⟩
  · show (if isZero six = true then none else some (PV.flt (div v six))) = _
    rw [if_neg (by decide +kernel)]
  · show (if isZero one = true then none else some (PV.flt (divmod (div v six) one).2)) = _
    rw [if_neg (by decide +kernel)]; rfl
  · rw [eqq_ff, hs.1, if_neg (by simp), hs.2]
section
variable {p q : PV} {u v : Int}
theorem Nm.divF (h : Nm p u) (k : Nm q v) (h0 : 0 ≤ u) (h1 : 0 < v) {w : Int} (hw : u * 65536 = w * v) (hb : w.natAbs < 2 ^ 52) : ∃ x, PV.bin .Div p q = some (.flt x) ∧ Is x w := by
  obtain ⟨r, e, hr⟩ := h.divE k h0 h1 hw hb
  rcases hr.two with ⟨n, rfl, _⟩ | ⟨x, rfl, hx⟩
  · exfalso
    rcases h.two with ⟨a, rfl, _⟩ | ⟨x, rfl, _⟩ <;> rcases k.two with ⟨m, rfl, _⟩ | ⟨y, rfl, _⟩
    · have e : (if _ then _ else if _ then _ else _) = some (PV.int n) := e
      split at e
      · cases e
      · split at e <;> cases e
    · have e : (if _ then _ else if _ then _ else _) = some (PV.int n) := e
      split at e
      · cases e
      · split at e <;> cases e
    · have e : (if _ then _ else if _ then _ else _) = some (PV.int n) := e
      split at e
      · cases e
      · split at e <;> cases e
    · have e : (if _ then _ else _) = some (PV.int n) := e
      split at e <;> cases e
  · exact ⟨x, e, hx⟩
end
end
section
theorem tt_fin : ((List.range 48).all fun b => decide ((tt b = 0 ∨ tt (b - 16) = 0 ∨ tt (b - 32) = 0) ∧ (tt b = 8 ∨ tt (b - 16) = 8 ∨ tt (b - 32) = 8))) = true := by decide +kernel
theorem tt_ends {b : Nat} (h : b < 48) : (tt b = 0 ∨ tt (b - 16) = 0 ∨ tt (b - 32) = 0) ∧ (tt b = 8 ∨ tt (b - 16) = 8 ∨ tt (b - 32) = 8) := of_decide_eq_true (List.all_eq_true.mp tt_fin b (List.mem_range.mpr h))
theorem max_zero {M A B C : Int} (hA : 0 ≤ A) (hB : 0 ≤ B) (hC : 0 ≤ C) (h : A = 0 ∨ B = 0 ∨ C = 0) : max (max (M - A) (M - B)) (M - C) = M := by
  refine Int.le_antisymm (Int.max_le.mpr ⟨Int.max_le.mpr ⟨Int.sub_le_self M hA, Int.sub_le_self M hB⟩, Int.sub_le_self M hC⟩) ?_
  have e : M ≤ M - 0 := Int.le_of_eq (Int.sub_zero M).symm
  rcases h with rfl | rfl | rfl
  · exact Int.le_trans e (Int.le_trans (Int.le_max_left _ _) (Int.le_max_left _ _))
  · exact Int.le_trans e (Int.le_trans (Int.le_max_right _ _) (Int.le_max_left _ _))
  · exact Int.le_trans e (Int.le_max_right _ _)
theorem min_top {M A B C T : Int} (hA : A ≤ T) (hB : B ≤ T) (hC : C ≤ T) (h : A = T ∨ B = T ∨ C = T) : min (min (M - A) (M - B)) (M - C) = M - T := by
  refine Int.le_antisymm ?_ (Int.le_min.mpr ⟨Int.le_min.mpr ⟨Int.sub_le_sub_left hA M, Int.sub_le_sub_left hB M⟩, Int.sub_le_sub_left hC M⟩)
  rcases h with rfl | rfl | rfl
  · exact Int.le_trans (Int.min_le_left _ _) (Int.min_le_left _ _)
  · exact Int.le_trans (Int.min_le_left _ _) (Int.min_le_right _ _)
  · exact Int.min_le_right _ _
theorem times {F t : Int} (hF : 0 < F) (h : 0 ≤ t ∧ t ≤ 8) : 0 ≤ F * t ∧ F * t ≤ 8 * F ∧ (F * t = 0 ↔ t = 0) ∧ (t = 8 → F * t = 8 * F) := by
  have h1 : F * t ≤ F * 8 := Int.mul_le_mul_of_nonneg_left h.2 (Int.le_of_lt hF)
  refine ⟨Int.mul_nonneg (Int.le_of_lt hF) h.1, Int.mul_comm F 8 ▸ h1, ⟨fun e => ?_, fun e => by rw [e, Int.mul_zero]⟩, fun e => by rw [e, Int.mul_comm]⟩
  exact (Int.mul_eq_zero.mp e).resolve_left (Int.ne_of_gt hF)
theorem eighths (F t : Int) : F * t * 65536 = t * 8192 * (8 * F) := by
  rw [show t * 8192 * (8 * F) = F * t * (8192 * 8) by ac_rfl]
  rfl
structure Light (b : Nat) (M F : Int) (r g l : PV) : Prop where
  r : Nm r (M - F * tt b)
  g : Nm g (M - F * tt (b - 16))
  l : Nm l (M - F * tt (b - 32))
structure Told (b : Nat) (M F : Int) (r g l mx mn rg dr dg dl : PV) (x y z : UInt64) : Prop where
  emx : maxΦ [r, g, l] = some mx
  nmx : Nm mx M
  emn : minΦ [r, g, l] = some mn
  nmn : Nm mn (M - 8 * F)
  erg : PV.bin .Sub mx mn = some rg
  nrg : Nm rg (8 * F)
  edr : PV.bin .Sub mx r = some dr
  edg : PV.bin .Sub mx g = some dg
  edl : PV.bin .Sub mx l = some dl
  ex : PV.bin .Div dr rg = some (.flt x)
  ey : PV.bin .Div dg rg = some (.flt y)
  ez : PV.bin .Div dl rg = some (.flt z)
  hx : Is x (tt b * 8192)
  hy : Is y (tt (b - 16) * 8192)
  hz : Is z (tt (b - 32) * 8192)
  c0 : cmpO .Eq mn mx = some false
  c1 : cmpO .Eq r mx = some (decide (tt b = 0))
  c2 : cmpO .Eq g mx = some (decide (tt (b - 16) = 0))
noncomputable def HasTold (b : Nat) (M F : Int) (r g l : PV) : Prop := ∃ mx mn rg dr dg dl x y z, Told b M F r g l mx mn rg dr dg dl x y z
theorem self_sub (M A : Int) : M - (M - A) = A := by lia
theorem part_eq {M F t : Int} (hF : 0 < F) (h : 0 ≤ t ∧ t ≤ 8) : (M - F * t = M) ↔ t = 0 := by
  rw [← (times hF h).2.2.1]
  generalize F * t = A
  lia
theorem one_part {M F t : Int} (hF : 0 < F) (ht : 0 ≤ t ∧ t ≤ 8) (hb : (8 * F).natAbs < 2 ^ 52) {mx rg r : PV} (nmx : Nm mx M) (nrg : Nm rg (8 * F)) (nr : Nm r (M - F * t)) : ∃ d x, PV.bin .Sub mx r = some d ∧ PV.bin .Div d rg = some (.flt x) ∧ Is x (t * 8192) := by
  (refine k0_3 (times hF ht) fun a0 a1 ž3 => ?_; obtain - := ž3)
  refine k1_2 (nmx.sub nr (by rw [self_sub]; clear nmx nrg nr; omega)) fun d ed nd => ?_
  rw [self_sub] at nd
  refine k1_2 (nd.divF nrg a0 (by clear nmx nrg nr nd; omega) (eighths F t) (by clear nmx nrg nr nd ed; omega)) fun x ex hx => ?_
  exact ⟨d, x, ed, ex, hx⟩
theorem told_core {b : Nat} (hb : b < 48) {M F : Int} (hF : 0 < F) (h8 : 8 * F ≤ M) (hM : M < 2 ^ 40) {r g l : PV} (L : Light b M F r g l) : HasTold b M F r g l := by
  refine k0_2 (tt_ends hb) fun z0 z8 => ?_
  have t1 := tt_le b
  have t2 := tt_le (b - 16)
  have t3 := tt_le (b - 32)
  refine k0_4 (times hF t1) fun a0 a1 a2 a3 => ?_
  refine k0_4 (times hF t2) fun b0 b1 b2' b3 => ?_
  refine k0_4 (times hF t3) fun c0 c1 c2' c3 => ?_
  refine k1_3 (max3 L.r L.g L.l) fun mx emx nmx _ => ?_
  refine k1_2 (min3 L.r L.g L.l) fun mn emn nmn => ?_
  rw [max_zero a0 b0 c0 (z0.imp a2.mpr fun z0 => z0.imp b2'.mpr c2'.mpr)] at nmx
  rw [min_top a1 b1 c1 (z8.imp a3 fun z8 => z8.imp b3 c3)] at nmn
  have hs : (8 * F).natAbs < 2 ^ 52 := by clear L nmx nmn a0 a1 a2 a3 b0 b1 b2' b3 c0 c1 c2' c3 t1 t2 t3 z0 z8 emx emn; lia
  refine k1_2 (nmx.sub nmn ((self_sub M (8 * F)).symm ▸ hs)) fun rg erg nrg => ?_
  rw [self_sub] at nrg
  refine k2_3 (one_part hF t1 hs nmx nrg L.r) fun dr x edr ex hx => ?_
  refine k2_3 (one_part hF t2 hs nmx nrg L.g) fun dg y edg ey hy => ?_
  refine k2_3 (one_part hF t3 hs nmx nrg L.l) fun dl z edl ez hz => ?_
  refine ⟨mx, mn, rg, dr, dg, dl, x, y, z, emx, nmx, emn, nmn, erg, nrg, edr, edg, edl, ex, ey, ez, hx, hy, hz, ?_, ?_, ?_⟩
  · refine (nmn.eq 8 nmx).trans (congrArg some (decide_eq_false ?_))
    clear L nmx nmn nrg a0 a1 a2 a3 b0 b1 b2' b3 c0 c1 c2' c3 t1 t2 t3 z0 z8 emx emn erg edr edg edl ex ey ez hx hy hz hs
    lia
  · exact (L.r.eq 8 nmx).trans (congrArg some (decide_eq_decide.mpr (part_eq hF t1)))
  · exact (L.g.eq 8 nmx).trans (congrArg some (decide_eq_decide.mpr (part_eq hF t2)))
noncomputable def hueF (m rc gc bc o : Nat) : Sig → Option (Fl × Sig) := ifF (c2 .Eq (vv 0) (vv m)) (seqF (setF o (b2 .Sub (vv bc) (vv gc))) nextF) (seqF (ifF (c2 .Eq (vv 1) (vv m)) (seqF (setF o (b2 .Sub (b2 .Add (cc (.flt 0x4000000000000000)) (vv rc)) (vv bc))) nextF) (seqF (setF o (b2 .Sub (b2 .Add (cc (.flt 0x4010000000000000)) (vv gc)) (vv rc))) nextF)) nextF)
theorem hueF_ok {m rc gc bc o : Nat} {tr tg : Int} {r g mx h a b c : PV} {σ : Sig} (v0 : σ 0 = some (.pv r)) (v1 : σ 1 = some (.pv g)) (vm : σ m = some (.pv mx)) (va : σ rc = some (.pv a)) (vb : σ gc = some (.pv b)) (vc : σ bc = some (.pv c))
    (c1 : cmpO .Eq r mx = some (decide (tr = 0))) (c2 : cmpO .Eq g mx = some (decide (tg = 0))) (eh : hueP tr tg a b c = some h) : hueF m rc gc bc o σ = some (.next, σ.set o (.pv h)) := by
  have c1 := c2_eq (vv_of v0) (vv_of vm) c1
  have c2 := c2_eq (vv_of v1) (vv_of vm) c2
  unfold hueP at eh
  by_cases k : tr = 0
  · rw [decide_eq_true k] at c1
    rw [if_pos k] at eh
    exact (ifF_true c1).trans (seq_to (setF_of (b2_eq (vv_of vc) (vv_of vb) eh)) rfl)
  · rw [decide_eq_false k] at c1
    rw [if_neg k] at eh
    refine (ifF_false c1).trans (seq_to (σ₁ := σ.set o (.pv h)) ?_ rfl)
    by_cases k : tg = 0
    · rw [decide_eq_true k] at c2
      rw [if_pos k] at eh
      refine k1_2 (bind_some eh) fun t et eh => ?_
      exact (ifF_true c2).trans (seq_to (setF_of (b2_eq (b2_eq rfl (vv_of va) et) (vv_of vc) eh)) rfl)
    · rw [decide_eq_false k] at c2
      rw [if_neg k] at eh
      refine k1_2 (bind_some eh) fun t et eh => ?_
      exact (ifF_false c2).trans (seq_to (setF_of (b2_eq (b2_eq rfl (vv_of vb) et) (vv_of va) eh)) rfl)
noncomputable def HsvTold (b : Nat) (M F : Int) (r g l : PV) : Prop := ∃ w mx, Φ_rgb_to_hsv [r, g, l] = some (.tup [.flt w, .flt (ofFrac false (8 * F).natAbs M.natAbs), mx]) ∧ (∀ n, eqq n (.flt w) (.flt (ofFrac false b 48)) = some true) ∧ Nm mx M
theorem hsv_told {b : Nat} (hb : b < 48) {M F : Int} (hF : 0 < F) (h8 : 8 * F ≤ M) (hM : M < 2 ^ 40) {r g l : PV} (L : Light b M F r g l) : HsvTold b M F r g l := by
  obtain ⟨mx, mn, rg, dr, dg, dl, x, y, z, K⟩ := told_core hb hF h8 hM L
  refine k3_4 (hue_told hb K.hx K.hy K.hz) fun h u w eh eu ew hw => ?_
  have es := K.nrg.div K.nmx (by clear L K eh eu ew hw; lia) (by clear L K eh eu ew hw; lia)
  refine ⟨w, mx, ?_, hw, K.nmx⟩
  have v0 : argSig [r, g, l] 0 = some (.pv r) := rfl
  have v1 : argSig [r, g, l] 1 = some (.pv g) := rfl
  have v2 : argSig [r, g, l] 2 = some (.pv l) := rfl
  refine runF_ends rfl ?_
  generalize ofFrac false (8 * F).natAbs M.natAbs = S at *
  generalize argSig [r, g, l] = σ at *
  refine Ends.step (setF_of ((call3 (vv_of v0) (vv_of v1) (vv_of v2)).trans K.emx)) ?_
  refine Ends.step (setF_of ((call3 (vv_of v0) (vv_of v1) (vv_of v2)).trans K.emn)) ?_
  refine Ends.step (setF_of (b2_eq (vv_of rfl) (vv_of rfl) K.erg)) ?_
  refine Ends.step (setF_of (vv_of rfl)) ?_
  refine Ends.step (ifF_false (c2_eq (vv_of rfl) (vv_of rfl) K.c0)) ?_
  refine Ends.step (setF_of (b2_eq (vv_of rfl) (vv_of rfl) es)) ?_
  refine Ends.step (setF_of (b2_eq (b2_eq (vv_of rfl) (vv_of v0) K.edr) (vv_of rfl) K.ex)) ?_
  refine Ends.step (setF_of (b2_eq (b2_eq (vv_of rfl) (vv_of v1) K.edg) (vv_of rfl) K.ey)) ?_
  refine Ends.step (setF_of (b2_eq (b2_eq (vv_of rfl) (vv_of v2) K.edl) (vv_of rfl) K.ez)) ?_
  refine Ends.step (hueF_ok (m := 3) (rc := 8) (gc := 9) (bc := 10) (o := 11) v0 v1 rfl rfl rfl rfl K.c1 K.c2 eh) ?_
  refine Ends.step (setF_of (b2_eq (b2_eq (vv_of rfl) rfl eu) rfl ew)) ?_
  exact Ends.last (retF_of (tup3 (vv_of rfl) (vv_of rfl) (vv_of rfl)))
noncomputable def HsvGrey (M : Int) (r g l : PV) : Prop := ∃ mx, Φ_rgb_to_hsv [r, g, l] = some (.tup [.flt 0, .flt 0, mx]) ∧ Nm mx M
theorem max_same (M : Int) : max (max M M) M = M := by rw [Int.max_self, Int.max_self]
theorem min_same (M : Int) : min (min M M) M = M := by rw [Int.min_self, Int.min_self]
theorem hsv_grey {M : Int} {r g l : PV} (h1 : Nm r M) (h2 : Nm g M) (h3 : Nm l M) : HsvGrey M r g l := by
  refine k1_3 (max3 h1 h2 h3) fun mx emx nmx _ => ?_
  refine k1_2 (min3 h1 h2 h3) fun mn emn nmn => ?_
  rw [max_same] at nmx
  rw [min_same] at nmn
  refine k1_2 (nmx.sub nmn (by rw [Int.sub_self]; decide)) fun rg erg nrg => ?_
  have c0 : cmpO .Eq mn mx = some true := (nmn.eq 8 nmx).trans (congrArg some (decide_eq_true rfl))
  refine ⟨mx, ?_, nmx⟩
  have v0 : argSig [r, g, l] 0 = some (.pv r) := rfl
  have v1 : argSig [r, g, l] 1 = some (.pv g) := rfl
  have v2 : argSig [r, g, l] 2 = some (.pv l) := rfl
  refine runF_ends rfl ?_
  generalize argSig [r, g, l] = σ at *
  refine Ends.step (setF_of ((call3 (vv_of v0) (vv_of v1) (vv_of v2)).trans emx)) ?_
  refine Ends.step (setF_of ((call3 (vv_of v0) (vv_of v1) (vv_of v2)).trans emn)) ?_
  refine Ends.step (setF_of (b2_eq (vv_of rfl) (vv_of rfl) erg)) ?_
  refine Ends.step (setF_of (vv_of rfl)) ?_
  exact Ends.last ((ifF_true (c2_eq (vv_of rfl) (vv_of rfl) c0)).trans (seqF_ret (retF_of (tup3 rfl rfl (vv_of rfl)))))
end
section
theorem half_lit : (0x3fe0000000000000 : UInt64) = ofFrac false 1 2 := by decide +kernel
theorem Nm.half : Nm (.flt 0x3fe0000000000000) 32768 := Nm.flt (by rw [half_lit]; exact Is.ofFrac (by decide) (by decide) (by decide) (by decide)) (by decide)
theorem Nm.two' : Nm (.flt 0x4000000000000000) 131072 := Nm.flt is_two (by decide)
noncomputable def HlsGrey (M : Int) (r g l : PV) : Prop := ∃ lv, Φ_rgb_to_hls [r, g, l] = some (.tup [.flt 0, lv, .flt 0]) ∧ Nm lv M
theorem twice_half {u w : Int} (h : u = 2 * w) : u * 65536 = w * 131072 := by rw [h, Int.mul_comm 2 w, Int.mul_assoc]; rfl
theorem hls_grey {M : Int} (hM : 0 ≤ M ∧ M < 2 ^ 40) {r g l : PV} (h1 : Nm r M) (h2 : Nm g M) (h3 : Nm l M) : HlsGrey M r g l := by
  refine k1_3 (max3 h1 h2 h3) fun mx emx nmx _ => ?_
  refine k1_2 (min3 h1 h2 h3) fun mn emn nmn => ?_
  rw [max_same] at nmx
  rw [min_same] at nmn
  refine k1_2 (nmx.sub nmn (by rw [Int.sub_self]; decide)) fun rg erg nrg => ?_
  refine k1_2 (nmx.add nmn (by clear nmx nmn nrg h1 h2 h3; lia)) fun sm esm nsm => ?_
  refine k1_2 (nsm.divE Nm.two' (Int.add_nonneg hM.1 hM.1) (by decide) (w := M) (twice_half (Int.two_mul M).symm) (by clear nmx nmn nrg h1 h2 h3 nsm esm; lia)) fun lv elv nlv => ?_
  have c0 : cmpO .Eq mn mx = some true := (nmn.eq 8 nmx).trans (congrArg some (decide_eq_true rfl))
  refine ⟨lv, ?_, nlv⟩
  have v0 : argSig [r, g, l] 0 = some (.pv r) := rfl
  have v1 : argSig [r, g, l] 1 = some (.pv g) := rfl
  have v2 : argSig [r, g, l] 2 = some (.pv l) := rfl
  refine runF_ends rfl ?_
  generalize argSig [r, g, l] = σ at *
  refine Ends.step (setF_of ((call3 (vv_of v0) (vv_of v1) (vv_of v2)).trans emx)) ?_
  refine Ends.step (setF_of ((call3 (vv_of v0) (vv_of v1) (vv_of v2)).trans emn)) ?_
  refine Ends.step (setF_of (b2_eq (vv_of rfl) (vv_of rfl) esm)) ?_
  refine Ends.step (setF_of (b2_eq (vv_of rfl) (vv_of rfl) erg)) ?_
  refine Ends.step (setF_of (b2_eq (vv_of rfl) rfl elv)) ?_
  exact Ends.last ((ifF_true (c2_eq (vv_of rfl) (vv_of rfl) c0)).trans (seqF_ret (retF_of (tup3 rfl (vv_of rfl) rfl))))
noncomputable def lowD (M F : Int) : Int := if M - 4 * F ≤ 32768 then 2 * M - 8 * F else 131072 - 2 * M + 8 * F
noncomputable def shareF : Sig → Option (Fl × Sig) := ifF (c2 .LtE (vv 7) (cc (.flt 0x3fe0000000000000))) (seqF (setF 8 (b2 .Div (vv 6) (vv 5))) nextF) (seqF (setF 8 (b2 .Div (vv 6) (b2 .Sub (b2 .Sub (cc (.flt 0x4000000000000000)) (vv 3)) (vv 4)))) nextF)
theorem share_ok {M F : Int} (hF : 0 < F) (h8 : 8 * F ≤ M) (hM : 2 * M - 8 * F < 131072) {mx mn sm rg lv : PV} (nmx : Nm mx M) (nmn : Nm mn (M - 8 * F)) (nsm : Nm sm (2 * M - 8 * F)) (nrg : Nm rg (8 * F)) (nlv : Nm lv (M - 4 * F)) {σ : Sig}
    (v3 : σ 3 = some (.pv mx)) (v4 : σ 4 = some (.pv mn)) (v5 : σ 5 = some (.pv sm)) (v6 : σ 6 = some (.pv rg)) (v7 : σ 7 = some (.pv lv)) : shareF σ = some (.next, σ.set 8 (.pv (.flt (ofFrac false (8 * F).natAbs (lowD M F).natAbs)))) := by
  have cl := c2_eq (op := .LtE) (vv_of v7) (show cc (.flt 0x3fe0000000000000) σ = _ from rfl) (nlv.le Nm.half)
  have p8 : 0 < 8 * F := Int.mul_pos (by decide) hF
  by_cases q : M - 4 * F ≤ 32768
  · rw [decide_eq_true q] at cl
    have es := nrg.div nsm p8 (by clear nmx nmn nsm nrg nlv cl; lia)
    rw [show lowD M F = 2 * M - 8 * F from if_pos q]
    exact (ifF_true cl).trans (seq_to (setF_of (b2_eq (vv_of v6) (vv_of v5) es)) rfl)
  · rw [decide_eq_false q] at cl
    refine k1_2 (Nm.two'.sub nmx (by clear nmx nmn nsm nrg nlv cl; lia)) fun d1 ed1 nd1 => ?_
    have e : 131072 - M - (M - 8 * F) = lowD M F := by rw [show lowD M F = _ from if_neg q]; clear nmx nmn nsm nrg nlv cl nd1 ed1; lia
    have hp : 0 < lowD M F ∧ lowD M F < 2 ^ 50 := by rw [← e]; clear nmx nmn nsm nrg nlv cl nd1 ed1 e; lia
    refine k1_2 (nd1.sub nmn (by rw [e]; clear nmx nmn nsm nrg nlv cl nd1 ed1 e; lia)) fun d2 ed2 nd2 => ?_
    rw [e] at nd2
    exact (ifF_false cl).trans (seq_to (setF_of (b2_eq (vv_of v6) (b2_eq (b2_eq rfl (vv_of v3) ed1) (vv_of v4) ed2) (nrg.div nd2 p8 hp.1))) rfl)
noncomputable def HlsTold (b : Nat) (M F : Int) (r g l : PV) : Prop := ∃ w lv, Φ_rgb_to_hls [r, g, l] = some (.tup [.flt w, lv, .flt (ofFrac false (8 * F).natAbs (lowD M F).natAbs)]) ∧ (∀ n, eqq n (.flt w) (.flt (ofFrac false b 48)) = some true) ∧ Nm lv (M - 4 * F)
theorem hls_told {b : Nat} (hb : b < 48) {M F : Int} (hF : 0 < F) (h8 : 8 * F ≤ M) (hM : 2 * M - 8 * F < 131072) {r g l : PV} (L : Light b M F r g l) : HlsTold b M F r g l := by
  have hM2 : M < 2 ^ 40 := by clear L; lia
  obtain ⟨mx, mn, rg, dr, dg, dl, x, y, z, K⟩ := told_core hb hF h8 hM2 L
  refine k3_4 (hue_told hb K.hx K.hy K.hz) fun h u w eh eu ew hw => ?_
  refine k1_2 (K.nmx.add K.nmn (by clear L K eh eu ew hw; lia)) fun sm esm nsm => ?_
  have e : M + (M - 8 * F) = 2 * M - 8 * F := by clear L K eh eu ew hw nsm esm; lia
  rw [e] at nsm
  refine k1_2 (nsm.divE Nm.two' (by clear L K eh eu ew hw nsm esm; lia) (by decide) (w := M - 4 * F) (twice_half (by clear L K eh eu ew hw nsm esm; lia)) (by clear L K eh eu ew hw nsm esm; lia)) fun lv elv nlv => ?_
  refine ⟨w, lv, ?_, hw, nlv⟩
  have v0 : argSig [r, g, l] 0 = some (.pv r) := rfl
  have v1 : argSig [r, g, l] 1 = some (.pv g) := rfl
  have v2 : argSig [r, g, l] 2 = some (.pv l) := rfl
  refine runF_ends rfl ?_
  generalize argSig [r, g, l] = σ at *
  refine Ends.step (setF_of ((call3 (vv_of v0) (vv_of v1) (vv_of v2)).trans K.emx)) ?_
  refine Ends.step (setF_of ((call3 (vv_of v0) (vv_of v1) (vv_of v2)).trans K.emn)) ?_
  refine Ends.step (setF_of (b2_eq (vv_of rfl) (vv_of rfl) esm)) ?_
  refine Ends.step (setF_of (b2_eq (vv_of rfl) (vv_of rfl) K.erg)) ?_
  refine Ends.step (setF_of (b2_eq (vv_of rfl) rfl elv)) ?_
  refine Ends.step (ifF_false (c2_eq (vv_of rfl) (vv_of rfl) K.c0)) ?_
  refine Ends.step (share_ok hF h8 hM K.nmx K.nmn nsm K.nrg nlv rfl rfl rfl rfl rfl) ?_
  generalize ofFrac false (8 * F).natAbs (lowD M F).natAbs = S at *
  refine Ends.step (setF_of (b2_eq (b2_eq (vv_of rfl) (vv_of v0) K.edr) (vv_of rfl) K.ex)) ?_
  refine Ends.step (setF_of (b2_eq (b2_eq (vv_of rfl) (vv_of v1) K.edg) (vv_of rfl) K.ey)) ?_
  refine Ends.step (setF_of (b2_eq (b2_eq (vv_of rfl) (vv_of v2) K.edl) (vv_of rfl) K.ez)) ?_
  refine Ends.step (hueF_ok (m := 3) (rc := 9) (gc := 10) (bc := 11) (o := 12) v0 v1 rfl rfl rfl rfl K.c1 K.c2 eh) ?_
  refine Ends.step (setF_of (b2_eq (b2_eq (vv_of rfl) rfl eu) rfl ew)) ?_
  exact Ends.last (retF_of (tup3 (vv_of rfl) (vv_of rfl) (vv_of rfl)))
end
end Mine
namespace Mine
open PySem PySem.W
section
theorem forF_cons {k : PV → Sig → Option Sig} {F : Sig → Option (Fl × Sig)} {p : PV} {ps : List PV} {σ σ₁ σ₂ : Sig} (hk : k p σ = some σ₁) (hF : F σ₁ = some (.next, σ₂)) : forF k F (p :: ps) σ = forF k F ps σ₂ := by
  show ((k p σ).bind fun σ₁ => (F σ₁).bind fun r => _) = _
  rw [hk, Option.bind_some, hF]
  rfl
theorem loopF_of {f : Sig → Option (List PV)} {k : PV → Sig → Option Sig} {F : Sig → Option (Fl × Sig)} {σ : Sig} {xs : List PV} {r : Fl × Sig} (h : f σ = some xs) (hf : forF k F xs σ = some r) : loopF f k F σ = some r := by unfold loopF; rw [h]; exact hf
theorem forF_inv {k : PV → Sig → Option Sig} {F : Sig → Option (Fl × Sig)} {α : Type} (ps : List α) (pv : α → PV) (I : List α → Sig → Prop)
    (step : ∀ done x rest σ, ps = done ++ x :: rest → I done σ → ∃ σ₁ σ₂, k (pv x) σ = some σ₁ ∧ F σ₁ = some (.next, σ₂) ∧ I (done ++ [x]) σ₂) {σ : Sig} (h0 : I [] σ) :
    ∃ σ', forF k F (ps.map pv) σ = some (.next, σ') ∧ I ps σ' := by
  suffices h : ∀ rest done σ, ps = done ++ rest → I done σ → ∃ σ', forF k F (rest.map pv) σ = some (.next, σ') ∧ I ps σ' from h ps [] σ rfl h0
  intro rest
  induction rest with
  | nil => intro done σ e h; rw [List.append_nil] at e; exact ⟨σ, rfl, e ▸ h⟩
  | cons x rest ih =>
    intro done σ e h
    refine k2_3 (step done x rest σ e h) fun σ₁ σ₂ h1 h2 h3 => ?_
    rw [List.map_cons, forF_cons h1 h2]
    exact ih (done ++ [x]) σ₂ (by rw [e, List.append_assoc]; rfl) h3
theorem clF_map {k : PV → Sig → Option Sig} {is : List Nat} {t : Sig → Option Bool} {inner : Sig → Option (List PV)} {σ : Sig} {α : Type} (pv : α → PV) (b : α → Bool) (o : α → List PV) :
    ∀ (ps : List α), (∀ x ∈ ps, ∃ σ₁, k (pv x) (σ.clear is) = some σ₁ ∧ t σ₁ = some (b x) ∧ (b x = true → inner σ₁ = some (o x))) → clF k is t inner σ (ps.map pv) = some ((ps.filter b).flatMap o)
  | [], _ => rfl
  | x :: ps, h => by
    refine k1_3 (h x (.head _)) fun σ₁ h1 h2 h3 => ?_
    rw [List.map_cons]
    show ((k (pv x) (σ.clear is)).bind fun σ₁ => (t σ₁).bind fun b => (if b then inner σ₁ else some []).bind fun o => (clF k is t inner σ (ps.map pv)).bind fun r => some (o ++ r)) = _
    rw [h1, Option.bind_some, h2, Option.bind_some, clF_map pv b o ps fun y hy => h y (.tail _ hy)]
    cases q : b x with
    | true => rw [if_pos rfl, h3 q, List.filter_cons_of_pos q]; rfl
    | false => rw [if_neg Bool.false_ne_true, List.filter_cons_of_neg (by rw [q]; exact Bool.false_ne_true)]; rfl
theorem filt_map {α β : Type} (o : α → β) : ∀ l : List α, (l.filter fun ž1 => true).flatMap (fun x => [o x]) = l.map o
  | [] => rfl
  | x :: l => by rw [List.filter_cons_of_pos rfl, List.flatMap_cons, filt_map o l]; rfl
theorem comp_map {k : PV → Sig → Option Sig} {is : List Nat} {f : Sig → Option PV} {n : Nat} {fi : Sig → Option (List PV)} {σ : Sig} {α : Type} (pv : α → PV) (o : α → PV) (ps : List α) (hi : fi σ = some (ps.map pv)) (hl : ps.length ≤ 65536)
    (h : ∀ x ∈ ps, ∃ σ₁, k (pv x) ((σ.below n).clear is) = some σ₁ ∧ f σ₁ = some (o x)) : compO .lst k is yesT (oneO f) n fi σ = some (.lst (ps.map o)) := by
  unfold compO
  rw [hi, Option.bind_some, clF_map pv (fun ž1 => true) (fun x => [o x]) ps fun x hx => by
    refine k1_2 (h x hx) fun σ₁ h1 h2 => ?_
    exact ⟨σ₁, h1, rfl, fun ž1 => by unfold oneO; rw [h2]; rfl⟩]
  rw [filt_map o ps, Option.bind_some, if_pos (by rw [List.length_map]; exact hl)]
noncomputable def Agr (S : List Nat) (σ τ : Sig) : Prop := ∀ i ∈ S, σ i = τ i
noncomputable def Dep {α : Type} (S : List Nat) (f : Sig → Option α) : Prop := ∀ σ τ, Agr S σ τ → f σ = f τ
inductive DepL (S : List Nat) : List (Sig → Option PV) → Prop
  | nil : DepL S []
  | cons {f : Sig → Option PV} {fs : List (Sig → Option PV)} : Dep S f → DepL S fs → DepL S (f :: fs)
section
variable {S : List Nat} {f g h : Sig → Option PV} {t u : Sig → Option Bool} {fs : List (Sig → Option PV)}
end
theorem intsO_map : ∀ ns : List Int, intsO (ns.map PV.int) = some ns
  | [] => rfl
  | n :: ns => by rw [List.map_cons]; unfold intsO; rw [intsO_map ns]; rfl
end
section
theorem flat_one {α β : Type} (o : α → β) : ∀ l : List α, l.flatMap (fun x => [o x]) = l.map o
  | [] => rfl
  | x :: l => by rw [List.flatMap_cons, flat_one o l]; rfl
theorem comp_filt {k : PV → Sig → Option Sig} {is : List Nat} {t : Sig → Option Bool} {f : Sig → Option PV} {n : Nat} {fi : Sig → Option (List PV)} {σ : Sig} {α : Type} (pv : α → PV) (b : α → Bool) (o : α → PV) (ps : List α) (hi : fi σ = some (ps.map pv)) (hl : ps.length ≤ 65536)
    (h : ∀ x ∈ ps, ∃ σ₁, k (pv x) ((σ.below n).clear is) = some σ₁ ∧ t σ₁ = some (b x) ∧ (b x = true → f σ₁ = some (o x))) : compO .lst k is t (oneO f) n fi σ = some (.lst ((ps.filter b).map o)) := by
  unfold compO
  rw [hi, Option.bind_some, clF_map pv b (fun x => [o x]) ps fun x hx => by
    refine k1_3 (h x hx) fun σ₁ h1 h2 h3 => ?_
    exact ⟨σ₁, h1, h2, fun hb => by unfold oneO; rw [h3 hb]; rfl⟩]
  rw [flat_one o, Option.bind_some, if_pos (by rw [List.length_map]; exact Nat.le_trans (List.length_filter_le _ _) hl)]
theorem add_i (a b : Int) : PV.bin .Add (.int a) (.int b) = some (.int (a + b)) := rfl
theorem sub_i (a b : Int) : PV.bin .Sub (.int a) (.int b) = some (.int (a - b)) := rfl
theorem mul_i (a b : Int) (h : a.natAbs < 2 ^ 60 ∨ b.natAbs < 2 ^ 60) : PV.bin .Mult (.int a) (.int b) = some (.int (a * b)) := by show (if _ then _ else _) = _; rw [if_pos h]
theorem fdv (a b : Int) (h : b ≠ 0 ∧ b.natAbs < 1073741824) : PV.bin .FloorDiv (.int a) (.int b) = some (.int (a.fdiv b)) := by show (if _ then _ else _) = _; rw [if_pos h]
theorem fmd (a b : Int) (h : b ≠ 0) : PV.bin .Mod (.int a) (.int b) = some (.int (a.fmod b)) := by show (if _ then _ else _) = _; rw [if_pos h]
noncomputable def ext1 (c : List Nat) (s : Nat → Nat → Bool) (n : Nat) (x : List Nat × Nat) : List (List Nat × Nat) := ([0, 1, 2].filter fun k => decide (x.1.count k < c.getD k 0)).map fun k => (x.1 ++ [k], x.2 + if (decide (0 < n) && s (x.1.getLastD 0) k) = true then n else 0)
noncomputable def ordM (c : List Nat) (s : Nat → Nat → Bool) : Nat → List (List Nat × Nat)
  | 0 => [([], 0)]
  | n + 1 => (ordM c s n).flatMap (ext1 c s n)
noncomputable def natP (k : Nat) : PV := .int (k : Int)
noncomputable def rowP (x : List Nat × Nat) : PV := .tup [.tup (x.1.map natP), natP x.2]
noncomputable def SignsOk (sg : PV) (s : Nat → Nat → Bool) : Prop := ∀ a b, a < 3 → b < 3 → ∃ ra z, itemO sg (natP a) = some ra ∧ itemO ra (natP b) = some z ∧ cmpO .Eq z (.str (Str.ofString "1")) = some (s a b)
theorem ints_nat (row : List Nat) : row.map natP = (row.map fun k : Nat => (k : Int)).map PV.int := by rw [List.map_map]; rfl
theorem count_cast (k : Nat) : ∀ row : List Nat, (row.map fun k : Nat => (k : Int)).count (k : Int) = row.count k
  | [] => rfl
  | a :: row => by
    rw [List.map_cons, List.count_cons, List.count_cons, count_cast k row]
    congr 1
    by_cases q : a = k
    · subst q; simp
    · have : (a : Int) ≠ (k : Int) := by lia
      simp [q, this]
theorem last_item (f : Nat → PV) (row : List Nat) (z : Nat) (h : row.length < 1000) : itemO (.tup ((row ++ [z]).map f)) (.int (-1)) = some (f z) := by
  show (if smallI (-1) = true then (seqIndex? (-1) ((row ++ [z]).map f).length).bind (((row ++ [z]).map f)[·]?) else none) = _
  rw [if_pos (by decide)]
  have e : seqIndex? (-1) ((row ++ [z]).map f).length = some row.length := by
    unfold seqIndex?
    rw [List.length_map, List.length_append]
    simp
    lia
  rw [e, Option.bind_some, List.getElem?_map, List.getElem?_append_right (by lia)]
  simp
theorem last_of {row : List Nat} (h : row ≠ []) : ∃ ys z, row = ys ++ [z] ∧ row.getLastD 0 = z := by
  obtain ⟨ys, z, e⟩ : ∃ ys z, row = ys ++ [z] := ⟨_, _, (List.dropLast_concat_getLast h).symm⟩
  subst e
  exact ⟨ys, z, rfl, by simp⟩
theorem item_nat (l : List Nat) {k : Nat} (h : k < l.length) (hz : l.length < 1000) : itemO (.lst (l.map natP)) (natP k) = some (natP (l.getD k 0)) := by
  show (if smallI (k : Int) = true then (seqIndex? (k : Int) (l.map natP).length).bind ((l.map natP)[·]?) else none) = _
  rw [if_pos (by unfold smallI; simp only [Bool.and_eq_true, decide_eq_true_eq]; lia)]
  have e : seqIndex? (k : Int) (l.map natP).length = some k := by
    unfold seqIndex?
    rw [List.length_map]
    simp
    lia
  rw [e, Option.bind_some, List.getElem?_map, List.getElem?_eq_getElem h, List.getD_eq_getElem?_getD, List.getElem?_eq_getElem h]
  rfl
noncomputable def fallE : Sig → Option PV := iteO (andO (c2 .Gt (vv 3) (cc (.int 0))) (c2 .Eq (i2 (i2 (vv 1) (i2 (vv 5) (negF (cc (.int 1))))) (vv 7)) (cc (.str (Str.ofString "1"))))) (vv 3) (cc (.int 0))
noncomputable def ordApp : Sig → Option (Fl × Sig) := seqF (appO 4 (tupO [(b2 .Add (vv 5) (tupO [(vv 7)])), (b2 .Add (vv 6) fallE)])) nextF
structure So (c : List Nat) (sg : PV) (σ : Sig) : Prop where
  v0 : σ 0 = some (.pv (.lst (c.map natP)))
  v1 : σ 1 = some (.pv sg)
theorem fall_ok {c : List Nat} {sg : PV} {s : Nat → Nat → Bool} (hsg : SignsOk sg s) {n k : Nat} {row : List Nat} (hr : ∀ a ∈ row, a < 3) (hn : 0 < n → row ≠ []) (hl : row.length < 1000) (hk : k < 3) {σ : Sig} (h : So c sg σ) (v3 : σ 3 = some (.pv (natP n))) (v5 : σ 5 = some (.pv (.tup (row.map natP)))) (v7 : σ 7 = some (.pv (natP k))) :
    fallE σ = some (natP (if (decide (0 < n) && s (row.getLastD 0) k) = true then n else 0)) := by
  have e3 : vv 3 σ = some (natP n) := by unfold vv; rw [v3]
  have e1 : vv 1 σ = some sg := by unfold vv; rw [h.v1]
  have e5 : vv 5 σ = some (.tup (row.map natP)) := by unfold vv; rw [v5]
  have e7 : vv 7 σ = some (natP k) := by unfold vv; rw [v7]
  have c1 : cmpO .Gt (natP n) (.int 0) = some (decide (0 < n)) := by
    show some (decide ((0 : Int) < (n : Int))) = _
    congr 1; apply decide_eq_decide.mpr; lia
  by_cases q : 0 < n
  · (refine k2_2 (last_of (hn q)) fun ys z ž3 => ?_; subst ž3; intro hz)
    rw [hz]
    have z3 : z < 3 := hr z (by simp)
    refine k2_3 (hsg z k z3 hk) fun ra w i1 i2' i3 => ?_
    have il := last_item natP ys z (by rw [List.length_append] at hl; lia)
    rw [decide_eq_true q] at c1 ⊢
    have eneg : negO (.int 1) = some (.int (-1)) := rfl
    simp only [fallE, iteO, andO, c2, i2, negF, cc, e1, e3, e5, e7, c1, eneg, il, i1, i2', i3, Option.bind_some, if_true, Bool.true_and]
    cases s z k <;> rfl
  · rw [decide_eq_false q] at c1 ⊢
    simp only [fallE, iteO, andO, c2, cc, e3, c1, Option.bind_some, Bool.false_and, Bool.false_eq_true, if_false]
    rfl
theorem add_row (row : List Nat) (k : Nat) (h : row.length < 1000) : PV.bin .Add (.tup (row.map natP)) (.tup [natP k]) = some (.tup ((row ++ [k]).map natP)) := by
  show (if _ then _ else _) = _
  rw [if_pos (by rw [List.length_map]; simp; lia), List.map_append]
  rfl
theorem ord_app {c : List Nat} {sg : PV} {s : Nat → Nat → Bool} (hsg : SignsOk sg s) {n f : Nat} {row : List Nat} (hr : ∀ a ∈ row, a < 3) (hn : 0 < n → row ≠ []) (hl : row.length < 1000) {L : List PV} (hL : L.length ≤ 60000) (ks : List Nat) (hks : ∀ k ∈ ks, k < 3) (hkl : ks.length ≤ 3)
    {σ : Sig} (h : So c sg σ) (v3 : σ 3 = some (.pv (natP n))) (v4 : σ 4 = some (.ol L)) (v5 : σ 5 = some (.pv (.tup (row.map natP)))) (v6 : σ 6 = some (.pv (natP f))) :
    ∃ τ, forF (setK 7) ordApp (ks.map natP) σ = some (.next, τ) ∧ So c sg τ ∧ τ 2 = σ 2 ∧ τ 3 = some (.pv (natP n)) ∧ τ 4 = some (.ol (L ++ ks.map fun k => rowP (row ++ [k], f + if (decide (0 < n) && s (row.getLastD 0) k) = true then n else 0))) := by
  obtain ⟨τ, h1, h2⟩ := forF_inv (k := setK 7) (F := ordApp) ks natP (fun done τ => So c sg τ ∧ τ 2 = σ 2 ∧ τ 3 = some (.pv (natP n)) ∧ τ 5 = some (.pv (.tup (row.map natP))) ∧ τ 6 = some (.pv (natP f)) ∧
      τ 4 = some (.ol (L ++ done.map fun k => rowP (row ++ [k], f + if (decide (0 < n) && s (row.getLastD 0) k) = true then n else 0)))) (fun done x rest τ e hI => by
    refine k0_6 hI fun g0 g2 g3 g5 g6 g4 => ?_
    have hx : x < 3 := hks x (by rw [e]; simp)
    have hdl : done.length ≤ 3 := by rw [e] at hkl; simp at hkl; lia
    generalize hρ : τ.set 7 (.pv (natP x)) = ρ
    have w0 : So c sg ρ := ⟨by rw [← hρ]; exact g0.v0, by rw [← hρ]; exact g0.v1⟩
    have w2 : ρ 2 = σ 2 := by rw [← hρ]; exact g2
    have w3 : ρ 3 = some (.pv (natP n)) := by rw [← hρ]; exact g3
    have w4 : ρ 4 = τ 4 := by rw [← hρ]; rfl
    rw [g4] at w4
    have w5 : ρ 5 = some (.pv (.tup (row.map natP))) := by rw [← hρ]; exact g5
    have w6 : ρ 6 = some (.pv (natP f)) := by rw [← hρ]; exact g6
    have w7 : ρ 7 = some (.pv (natP x)) := by rw [← hρ]; rfl
    have ef := fall_ok hsg hr hn hl hx w0 w3 w5 w7
    have ea := add_row row x hl
    generalize hz : (if (decide (0 < n) && s (row.getLastD 0) x) = true then n else 0) = z at ef
    refine ⟨ρ, ρ.set 4 (.ol ((L ++ done.map fun k => rowP (row ++ [k], f + if (decide (0 < n) && s (row.getLastD 0) k) = true then n else 0)) ++ [rowP (row ++ [x], f + z)])), by rw [← hρ]; rfl, ?_, ⟨w0.v0, w0.v1⟩, w2, w3, w5, w6, ?_⟩
    · unfold ordApp
      rw [seqF_next (σ₁ := ρ.set 4 (.ol ((L ++ done.map fun k => rowP (row ++ [k], f + if (decide (0 < n) && s (row.getLastD 0) k) = true then n else 0)) ++ [rowP (row ++ [x], f + z)])))]
      · rfl
      · have e7 : vv 7 ρ = some (natP x) := by unfold vv; rw [w7]
        have e6 : vv 6 ρ = some (natP f) := by unfold vv; rw [w6]
        have e5 : vv 5 ρ = some (.tup (row.map natP)) := by unfold vv; rw [w5]
        have et : tupO [(b2 .Add (vv 5) (tupO [(vv 7)])), (b2 .Add (vv 6) fallE)] ρ = some (rowP (row ++ [x], f + z)) := by
          have e8 : PV.bin .Add (natP f) (natP z) = some (natP (f + z)) := rfl
          simp (config := {decide := true, implicitDefEqProofs := false}) only [tupO, seqO, b2, e5, e6, e7, ef, ea, e8, Option.bind_some, List.length_cons, List.length_nil, if_true]
          rfl
        unfold appO
        rw [w4, Option.bind_some, et, Option.bind_some]
        show (if _ then _ else _) = _
        rw [if_pos (by rw [List.length_append, List.length_map]; lia)]
    · show some (LV.ol _) = _
      rw [List.map_append, ← List.append_assoc, hz.symm]
      rfl) (σ := σ) ⟨h, rfl, v3, v5, v6, by rw [List.map_nil, List.append_nil]; exact v4⟩
  exact ⟨τ, h1, h2.1, h2.2.1, h2.2.2.1, h2.2.2.2.2.2⟩
end
section
theorem r3 (σ : Sig) : itF (callO rangeΦ [(cc (.int 3))]) σ = some ([0, 1, 2].map natP) := by
  show (callO rangeΦ [cc (.int 3)] (fun ž1 => none)).bind iterO = _
  kernel_rfl
theorem r6 (σ : Sig) : itF (callO rangeΦ [(cc (.int 6))]) σ = some ((List.range 6).map natP) := by
  show (callO rangeΦ [cc (.int 6)] (fun ž1 => none)).bind iterO = _
  kernel_rfl
theorem lt_nat (a b : Nat) : cmpO .Lt (natP a) (natP b) = some (decide (a < b)) := by
  show some (decide ((a : Int) < (b : Int))) = _
  congr 1; apply decide_eq_decide.mpr; omega
noncomputable def kindsE : Sig → Option PV := compO .lst (setK 9) [9] (c2 .Lt (methO "tuple" tcntΦ (vv 5) [(vv 9)]) (i2 (vv 0) (vv 9))) (oneO (vv 9)) 8 (itF (callO rangeΦ [(cc (.int 3))]))
theorem kinds_ok {c : List Nat} (hc : c.length = 3) {row : List Nat} {σ : Sig} (v0 : σ 0 = some (.pv (.lst (c.map natP)))) (v5 : σ 5 = some (.pv (.tup (row.map natP)))) :
    kindsE σ = some (.lst (([0, 1, 2].filter fun k => decide (row.count k < c.getD k 0)).map natP)) := by
  refine comp_filt natP (fun k => decide (row.count k < c.getD k 0)) natP [0, 1, 2] (r3 σ) (by decide) fun k hk => ?_
  have hk3 : k < 3 := by simp at hk; lia
  refine ⟨_, rfl, ?_, fun ž1 => rfl⟩
  generalize hρ : ((σ.below 8).clear [9]).set 9 (.pv (natP k)) = ρ
  have e9 : vv 9 ρ = some (natP k) := by rw [← hρ]; rfl
  have e5 : vv 5 ρ = some (.tup (row.map natP)) := by
    have : ρ 5 = σ 5 := by rw [← hρ]; rfl
    unfold vv; rw [this, v5]
  have e0 : vv 0 ρ = some (.lst (c.map natP)) := by
    have : ρ 0 = σ 0 := by rw [← hρ]; rfl
    unfold vv; rw [this, v0]
  have ec : tcntΦ [.tup (row.map natP), natP k] = some (natP (row.count k)) := by
    show (intsO (row.map natP)).map _ = _
    rw [ints_nat, intsO_map]
    show some (PV.int ((row.map fun k : Nat => (k : Int)).count (k : Int) : Nat)) = _
    rw [count_cast]; rfl
  have ei := item_nat c (k := k) (by lia) (by lia)
  have et : tyP (.tup (row.map natP)) = some "tuple" := rfl
  simp (config := {decide := true, implicitDefEqProofs := false}) only [c2, methO, seqO, i2, e9, e5, e0, et, ec, ei, lt_nat, Option.bind_some, if_true]
noncomputable def ordMid : Sig → Option (Fl × Sig) := seqF (loopF (itF kindsE) (setK 7) ordApp) nextF
noncomputable def ordBody : Sig → Option (Fl × Sig) := seqF (setL 4 (olL [])) (seqF (loopF (itF (vv 2)) (tupK [5, 6]) ordMid) (frz 4 (seqF (setF 2 (vv 4)) nextF)))
theorem ord_eq : F_law_orders = seqF (setF 2 (lstO [(tupO [(tupO []), (cc (.int 0))])])) (seqF (loopF (itF (callO rangeΦ [(cc (.int 6))])) (setK 3) ordBody) (seqF (retF (vv 2)) nextF)) := rfl
theorem ext1_len (c : List Nat) (s : Nat → Nat → Bool) (n : Nat) (x : List Nat × Nat) : (ext1 c s n x).length ≤ 3 := by
  unfold ext1
  rw [List.length_map]
  exact Nat.le_trans (List.length_filter_le _ _) (by decide)
theorem flat_len {α β : Type} (f : α → List β) (m : Nat) (h : ∀ x, (f x).length ≤ m) : ∀ l : List α, (l.flatMap f).length ≤ m * l.length
  | [] => by simp
  | x :: l => by
    rw [List.flatMap_cons, List.length_append, List.length_cons, Nat.mul_add]
    have := flat_len f m h l
    have := h x
    lia
theorem ord_mid {c : List Nat} (hc : c.length = 3) {sg : PV} {s : Nat → Nat → Bool} (hsg : SignsOk sg s) {n : Nat} (hn : n < 100) (X : List (List Nat × Nat)) (hX : ∀ x ∈ X, (∀ a ∈ x.1, a < 3) ∧ x.1.length = n) (hXl : X.length ≤ 1000) {σ : Sig} (h : So c sg σ) (v3 : σ 3 = some (.pv (natP n))) (v4 : σ 4 = some (.ol [])) :
    ∃ τ, forF (tupK [5, 6]) ordMid (X.map rowP) σ = some (.next, τ) ∧ So c sg τ ∧ τ 3 = some (.pv (natP n)) ∧ τ 4 = some (.ol ((X.flatMap (ext1 c s n)).map rowP)) := by
  obtain ⟨τ, h1, h2⟩ := forF_inv (k := tupK [5, 6]) (F := ordMid) X rowP (fun done τ => So c sg τ ∧ τ 3 = some (.pv (natP n)) ∧ τ 4 = some (.ol ((done.flatMap (ext1 c s n)).map rowP))) (fun done x rest τ e hI => by
    refine k0_3 hI fun g0 g3 g4 => ?_
    refine k0_2 (hX x (by rw [e]; simp)) fun x3 xl => ?_
    have hdl : done.length ≤ 1000 := by rw [e] at hXl; simp at hXl; lia
    generalize hρ : (τ.set 5 (.pv (.tup (x.1.map natP)))).set 6 (.pv (natP x.2)) = ρ
    have w0 : So c sg ρ := ⟨by rw [← hρ]; exact g0.v0, by rw [← hρ]; exact g0.v1⟩
    have w3 : ρ 3 = some (.pv (natP n)) := by rw [← hρ]; exact g3
    have w4 : ρ 4 = τ 4 := by rw [← hρ]; rfl
    rw [g4] at w4
    have w5 : ρ 5 = some (.pv (.tup (x.1.map natP))) := by rw [← hρ]; rfl
    have w6 : ρ 6 = some (.pv (natP x.2)) := by rw [← hρ]; rfl
    have hL := flat_len (ext1 c s n) 3 (ext1_len c s n) done
    obtain ⟨ω, f1, f0, _, f3, f4⟩ := ord_app hsg (row := x.1) (f := x.2) x3 (fun hn0 he => by rw [he] at xl; simp at xl; lia) (by lia) (L := (done.flatMap (ext1 c s n)).map rowP) (by rw [List.length_map]; lia)
      ([0, 1, 2].filter fun k => decide (x.1.count k < c.getD k 0)) (fun k hk => by have := (List.mem_filter.mp hk).1; simp at this; lia) (Nat.le_trans (List.length_filter_le _ _) (by decide)) w0 w3 w4 w5 w6
    refine ⟨ρ, ω, by rw [← hρ]; rfl, ?_, f0, f3, ?_⟩
    · unfold ordMid
      have ek : itF kindsE ρ = some (([0, 1, 2].filter fun k => decide (x.1.count k < c.getD k 0)).map natP) := by
        unfold itF; rw [kinds_ok hc w0.v0 w5]; rfl
      rw [seqF_next (loopF_of ek f1)]; rfl
    · rw [f4, List.flatMap_append, List.map_append, List.flatMap_cons, List.flatMap_nil, List.append_nil]
      unfold ext1
      rw [List.map_map]; rfl) (σ := σ) ⟨h, v3, v4⟩
  exact ⟨τ, h1, h2⟩
theorem ordM_ok (c : List Nat) (s : Nat → Nat → Bool) : ∀ n, (∀ x ∈ ordM c s n, (∀ a ∈ x.1, a < 3) ∧ x.1.length = n) ∧ (ordM c s n).length ≤ 3 ^ n
  | 0 => ⟨fun x hx => by simp [ordM] at hx; subst hx; simp, by simp [ordM]⟩
  | n + 1 => by
    refine k0_2 (ordM_ok c s n) fun h1 h2 => ?_
    refine ⟨fun x hx => ?_, ?_⟩
    · refine k1_2 (List.mem_flatMap.mp hx) fun y hy hx => ?_
      (refine k1_2 (List.mem_map.mp hx) fun k hk ž3 => ?_; subst ž3)
      have k3 : k < 3 := by have := (List.mem_filter.mp hk).1; simp at this; lia
      refine k0_2 (h1 y hy) fun a1 a2 => ?_
      refine ⟨fun a ha => ?_, by simp [a2]⟩
      refine Or.elim (List.mem_append.mp ha) (fun h => ?_) fun h => ?_
      · exact a1 a h
      · rw [List.mem_singleton] at h; lia
    · have := flat_len (ext1 c s n) 3 (ext1_len c s n) (ordM c s n)
      show ((ordM c s n).flatMap (ext1 c s n)).length ≤ _
      rw [Nat.pow_succ]; lia
theorem orders_ok {c : List Nat} (hc : c.length = 3) {sg : PV} {s : Nat → Nat → Bool} (hsg : SignsOk sg s) : Φ_law_orders [.lst (c.map natP), sg] = some (.lst ((ordM c s 6).map rowP)) := by
  have key : ∃ τ, forF (setK 3) ordBody ((List.range 6).map natP) ((argSig [.lst (c.map natP), sg]).set 2 (.pv (.lst ((ordM c s 0).map rowP)))) = some (.next, τ) ∧ So c sg τ ∧ τ 2 = some (.pv (.lst ((ordM c s 6).map rowP))) := by
    obtain ⟨τ, h1, h2⟩ := forF_inv (k := setK 3) (F := ordBody) (List.range 6) natP (fun done τ => So c sg τ ∧ τ 2 = some (.pv (.lst ((ordM c s done.length).map rowP)))) (fun done x rest τ e hI => by
      refine k0_2 hI fun g0 g2 => ?_
      have hx : x = done.length ∧ done.length < 6 := by
        have h1 := congrArg (fun l => l[done.length]?) e
        simp only [List.getElem?_append_right (Nat.le_refl _), Nat.sub_self, List.getElem?_cons_zero] at h1
        refine k1_1 (List.getElem?_eq_some_iff.mp h1) fun h2 h3 => ?_
        rw [List.getElem_range] at h3
        rw [List.length_range] at h2
        exact ⟨h3.symm, h2⟩
      refine k0_2 hx fun hx h6 => ?_
      subst hx
      generalize hn : done.length = n at *
      refine k0_2 (ordM_ok c s n) fun o1 o2 => ?_
      have o3 : 3 ^ n ≤ 3 ^ 5 := Nat.pow_le_pow_right (by decide) (by lia)
      generalize hρ : (τ.set 3 (.pv (natP n))).set 4 (.ol []) = ρ
      have w0 : So c sg ρ := ⟨by rw [← hρ]; exact g0.v0, by rw [← hρ]; exact g0.v1⟩
      have w2 : ρ 2 = some (.pv (.lst ((ordM c s n).map rowP))) := by rw [← hρ]; exact g2
      refine k1_4 (ord_mid hc hsg (n := n) (by lia) (ordM c s n) o1 (by lia) w0 (by rw [← hρ]; rfl) (by rw [← hρ]; rfl)) fun ω f1 f0 f3 f4 => ?_
      refine ⟨τ.set 3 (.pv (natP n)), (ω.set 4 (.pv (.lst ((ordM c s (n + 1)).map rowP)))).set 2 (.pv (.lst ((ordM c s (n + 1)).map rowP))), rfl, ?_, ⟨f0.v0, f0.v1⟩, ?_⟩
      · unfold ordBody
        rw [seqF_next (σ₁ := ρ) (by rw [← hρ]; rfl)]
        have e2 : itF (vv 2) ρ = some ((ordM c s n).map rowP) := by unfold itF vv; rw [w2]; rfl
        rw [seqF_next (loopF_of e2 f1)]
        unfold frz
        rw [f4]
        rfl
      · rw [List.length_append]
        show some (LV.pv (.lst ((ordM c s (n + 1)).map rowP))) = _
        rw [hn]; rfl) (σ := (argSig [.lst (c.map natP), sg]).set 2 (.pv (.lst ((ordM c s 0).map rowP)))) ⟨⟨rfl, rfl⟩, rfl⟩
    exact ⟨τ, h1, h2.1, by rw [List.length_range] at h2; exact h2.2⟩
  refine k1_3 key fun τ h1 h0 h2 => ?_
  refine runF_of rfl (σ' := τ) ?_
  rw [ord_eq, seqF_next (σ₁ := (argSig [.lst (c.map natP), sg]).set 2 (.pv (.lst ((ordM c s 0).map rowP)))) rfl, seqF_next (loopF_of (r6 _) h1)]
  refine seqF_ret ?_
  unfold retF vv
  rw [h2]; rfl
end
section
noncomputable def lookN {β : Type} (t : List (Nat × β)) (k : Nat) : Option β := (t.find? fun e => e.1 = k).map (·.2)
noncomputable def insN {β : Type} (t : List (Nat × β)) (k : Nat) (v : β) : List (Nat × β) := if t.any (fun e => e.1 = k) then t.map (fun e => if e.1 = k then (e.1, v) else e) else t ++ [(k, v)]
noncomputable def esN {β : Type} (f : β → PV) (t : List (Nat × β)) : List (DK × PV) := t.map fun e => (.i (e.1 : Int), f e.2)
theorem key_iff (a k : Nat) : (DK.i (a : Int) = DK.i (k : Int)) ↔ a = k := by
  constructor
  · intro h; injection h with h; lia
  · rintro rfl; rfl
theorem lookD_es {β : Type} (f : β → PV) (k : Nat) : ∀ t : List (Nat × β), lookD (esN f t) (.i (k : Int)) = (lookN t k).map f
  | [] => rfl
  | e :: t => by
    unfold lookD lookN esN
    rw [List.map_cons, List.find?_cons, List.find?_cons]
    by_cases q : e.1 = k
    · have : decide ((DK.i (e.1 : Int), f e.2).1 = DK.i (k : Int)) = true := decide_eq_true ((key_iff _ _).mpr q)
      rw [this, decide_eq_true q]; rfl
    · have : decide ((DK.i (e.1 : Int), f e.2).1 = DK.i (k : Int)) = false := decide_eq_false fun h => q ((key_iff _ _).mp h)
      rw [this, decide_eq_false q]
      exact lookD_es f k t
theorem any_es {β : Type} (f : β → PV) (k : Nat) (t : List (Nat × β)) : (esN f t).any (fun e => e.1 = DK.i (k : Int)) = t.any fun e => e.1 = k := by
  unfold esN
  rw [List.any_map]
  congr 1
  funext e
  exact decide_eq_decide.mpr (key_iff e.1 k)
theorem insD_es {β : Type} (f : β → PV) (t : List (Nat × β)) (k : Nat) (v : β) : insD (esN f t) (.i (k : Int)) (f v) = esN f (insN t k v) := by
  unfold insD insN
  rw [any_es]
  split
  · unfold esN
    rw [List.map_map, List.map_map]
    refine List.map_congr_left fun e ž1 => ?_
    show (if DK.i (e.1 : Int) = DK.i (k : Int) then (DK.i (e.1 : Int), f v) else (DK.i (e.1 : Int), f e.2)) = _
    by_cases q : e.1 = k
    · rw [if_pos ((key_iff _ _).mpr q)]; show _ = (fun e : Nat × β => (DK.i (e.1 : Int), f e.2)) (if e.1 = k then (e.1, v) else e); rw [if_pos q]
    · rw [if_neg fun h => q ((key_iff _ _).mp h)]; show _ = (fun e : Nat × β => (DK.i (e.1 : Int), f e.2)) (if e.1 = k then (e.1, v) else e); rw [if_neg q]
  · unfold esN
    rw [List.map_append]; rfl
noncomputable def addBody : Sig → Option (Fl × Sig) := seqF (ifF (oinO 2 (vv 3)) (seqF (ifF (truF (callO isi2Φ [(vv 4), (cc (.obj (.type "tuple")))])) (seqF (setO 2 (tsum2 (vv 4) (oi2 2 (vv 3))) (vv 3)) nextF) (seqF (augO .Add 2 (vv 3) (vv 4)) nextF)) nextF) (seqF (setO 2 (vv 4) (vv 3)) nextF)) nextF
theorem add2_eq : F_add_callers_2 = loopF (itemsF (vv 1)) (tupK [3, 4]) addBody := rfl
noncomputable def Sums {β : Type} (f : β → PV) (t : List (Nat × β)) (k : Nat) (v w : β) : Prop := match lookN t k with
  | some o => ∀ σ : Sig, σ 2 = some (.od (esN f t)) → σ 3 = some (.pv (natP k)) → σ 4 = some (.pv (f v)) → lookD (esN f t) (.i (k : Int)) = some (f o) →
      (ifF (truF (callO isi2Φ [(vv 4), (cc (.obj (.type "tuple")))])) (seqF (setO 2 (tsum2 (vv 4) (oi2 2 (vv 3))) (vv 3)) nextF) (seqF (augO .Add 2 (vv 3) (vv 4)) nextF)) σ = some (.next, σ.set 2 (.od (insD (esN f t) (.i (k : Int)) (f w))))
  | none => w = v
theorem copy_ok {β : Type} (f : β → PV) (t : List (Nat × β)) (hn : (t.map (·.1)).Nodup) (hl : t.length ≤ 1000) {σ : Sig} {q : PV} (v0 : σ 0 = some (.pv (.dct (esN f t)))) (v1 : σ 1 = some (.pv q)) (v2 : σ 2 = some (.od [])) :
    ∃ τ, F_add_callers_1 σ = some (.next, τ) ∧ τ 1 = some (.pv q) ∧ τ 2 = some (.od (esN f t)) := by
  obtain ⟨τ, h1, h2⟩ := forF_inv (k := tupK [3, 4]) (F := seqF (setO 2 (vv 4) (vv 3)) nextF) t (fun e => .tup [natP e.1, f e.2]) (fun done τ => τ 1 = some (.pv q) ∧ τ 2 = some (.od (esN f done))) (fun done x rest τ e hI => by
    refine k0_2 hI fun g1 g2 => ?_
    refine ⟨(τ.set 3 (.pv (natP x.1))).set 4 (.pv (f x.2)), ((τ.set 3 (.pv (natP x.1))).set 4 (.pv (f x.2))).set 2 (.od (esN f (done ++ [x]))), rfl, ?_, g1, rfl⟩
    rw [seqF_next (σ₁ := ((τ.set 3 (.pv (natP x.1))).set 4 (.pv (f x.2))).set 2 (.od (esN f (done ++ [x]))))]
    · rfl
    · have e1 : oSet (.od (esN f done)) (natP x.1) (f x.2) = some (.od (esN f (done ++ [x]))) := by
        show (DKof (natP x.1)).bind (fun kk => if (esN f done).length ≤ 65536 then some (LV.od (insD (esN f done) kk (f x.2))) else none) = _
        show (if (esN f done).length ≤ 65536 then some (LV.od (insD (esN f done) (.i (x.1 : Int)) (f x.2))) else none) = _
        rw [if_pos (by unfold esN; rw [List.length_map]; rw [e, List.length_append] at hl; lia), insD_es]
        have : done.any (fun e => e.1 = x.1) = false := by
          rw [List.any_eq_false]
          intro y hy
          rw [e, List.map_append, List.map_cons] at hn
          have := (List.nodup_append.mp hn).2.2 y.1 (List.mem_map_of_mem hy) x.1 (List.mem_cons_self ..)
          simpa using this
        unfold insN
        rw [this, if_neg (by simp)]
      have w2 : ((τ.set 3 (.pv (natP x.1))).set 4 (.pv (f x.2))) 2 = some (.od (esN f done)) := g2
      have e3 : vv 3 ((τ.set 3 (.pv (natP x.1))).set 4 (.pv (f x.2))) = some (natP x.1) := rfl
      have e4 : vv 4 ((τ.set 3 (.pv (natP x.1))).set 4 (.pv (f x.2))) = some (f x.2) := rfl
      unfold setO
      rw [e4, Option.bind_some, e3, Option.bind_some, w2, Option.bind_some, e1]; rfl) (σ := σ) ⟨v1, v2⟩
  refine ⟨τ, ?_, h2.1, h2.2⟩
  unfold F_add_callers_1
  have e0 : itemsF (vv 0) σ = some (t.map fun e => .tup [natP e.1, f e.2]) := by
    unfold itemsF vv
    rw [v0]
    show some ((esN f t).map fun e => PV.tup [e.1.pv, e.2]) = _
    unfold esN; rw [List.map_map]; rfl
  exact loopF_of e0 h1
theorem add_one {β : Type} (f : β → PV) (t : List (Nat × β)) (hn : (t.map (·.1)).Nodup) (hl : t.length ≤ 1000) (k : Nat) (v w : β) (hw : Sums f t k v w) : Φ_add_callers [.dct (esN f t), .dct [(.i (k : Int), f v)]] = some (.dct (esN f (insN t k w))) := by
  have s0 : F_add_callers_0 (argSig [.dct (esN f t), .dct [(.i (k : Int), f v)]]) = some (.next, (argSig [.dct (esN f t), .dct [(.i (k : Int), f v)]]).set 2 (.od [])) := rfl
  refine k1_3 (copy_ok f t hn hl (σ := (argSig [.dct (esN f t), .dct [(.i (k : Int), f v)]]).set 2 (.od [])) (q := .dct [(.i (k : Int), f v)]) rfl rfl rfl) fun τ h1 w1 w2 => ?_
  have s2 : ∃ ω, F_add_callers_2 τ = some (.next, ω) ∧ ω 2 = some (.od (esN f (insN t k w))) := by
    generalize hρ : (τ.set 3 (.pv (natP k))).set 4 (.pv (f v)) = ρ
    have r2 : ρ 2 = some (.od (esN f t)) := by rw [← hρ]; exact w2
    have r3' : ρ 3 = some (.pv (natP k)) := by rw [← hρ]; rfl
    have r4 : ρ 4 = some (.pv (f v)) := by rw [← hρ]; rfl
    have e3 : vv 3 ρ = some (natP k) := by unfold vv; rw [r3']
    have e4 : vv 4 ρ = some (f v) := by unfold vv; rw [r4]
    have hbody : addBody ρ = some (.next, ρ.set 2 (.od (esN f (insN t k w)))) := by
      have hin : oinO 2 (vv 3) ρ = some (lookN t k).isSome := by
        unfold oinO
        rw [e3, Option.bind_some, r2, Option.bind_some]
        show some (lookD (esN f t) (.i (k : Int))).isSome = _
        rw [lookD_es]
        cases lookN t k <;> rfl
      unfold Sums at hw
      unfold addBody
      cases q : lookN t k with
      | some o =>
        rw [q] at hw hin
        have := hw ρ r2 r3' r4 (by rw [lookD_es, q]; rfl)
        rw [insD_es] at this
        rw [seqF_next (σ₁ := ρ.set 2 (.od (esN f (insN t k w))))]
        · rfl
        · rw [ifF_true hin, seqF_next this]; rfl
      | none =>
        rw [q] at hw hin
        subst hw
        have e1 : oSet (.od (esN f t)) (natP k) (f w) = some (.od (esN f (insN t k w))) := by
          show (if (esN f t).length ≤ 65536 then some (LV.od (insD (esN f t) (.i (k : Int)) (f w))) else none) = _
          rw [if_pos (by unfold esN; rw [List.length_map]; lia), insD_es]
        rw [seqF_next (σ₁ := ρ.set 2 (.od (esN f (insN t k w))))]
        · rfl
        · rw [ifF_false hin, seqF_next (σ₁ := ρ.set 2 (.od (esN f (insN t k w))))]
          · rfl
          · unfold setO
            rw [e4, Option.bind_some, e3, Option.bind_some, r2, Option.bind_some, e1]; rfl
    refine ⟨ρ.set 2 (.od (esN f (insN t k w))), ?_, rfl⟩
    rw [add2_eq]
    have e1 : itemsF (vv 1) τ = some [.tup [natP k, f v]] := by unfold itemsF vv; rw [w1]; rfl
    refine loopF_of e1 ?_
    rw [forF_cons (σ₁ := ρ) (by rw [← hρ]; rfl) hbody]
    rfl
  refine k1_2 s2 fun ω h2 w3 => ?_
  refine runF_of rfl (σ' := ω.set 2 (.pv (.dct (esN f (insN t k w))))) ?_
  unfold F_add_callers
  rw [seqF_next s0, seqF_next h1, seqF_next h2]
  unfold frz
  rw [w3]
  rfl
theorem sums_nat (t : List (Nat × Nat)) (hl : t.length ≤ 1000) (k v : Nat) : Sums natP t k v (((lookN t k).map (· + v)).getD v) := by
  unfold Sums
  cases q : lookN t k with
  | none => rfl
  | some o =>
    intro σ r2 r3' r4 hl'
    have e3 : vv 3 σ = some (natP k) := by unfold vv; rw [r3']
    have e4 : vv 4 σ = some (natP v) := by unfold vv; rw [r4]
    have et : truF (callO isi2Φ [(vv 4), (cc (.obj (.type "tuple")))]) σ = some false := by
      unfold truF callO seqO seqO seqO cc
      rw [e4]; rfl
    rw [ifF_false et, seqF_next (σ₁ := σ.set 2 (.od (insD (esN natP t) (.i (k : Int)) (natP (o + v)))))]
    · rfl
    · unfold augO
      rw [r2, Option.bind_some, e3, Option.bind_some]
      show ((lookD (esN natP t) (.i (k : Int))).bind _) = _
      rw [hl', Option.bind_some, e4, Option.bind_some]
      show (oSet (.od (esN natP t)) (natP k) (natP (o + v))).bind _ = _
      show (if (esN natP t).length ≤ 65536 then some (LV.od (insD (esN natP t) (.i (k : Int)) (natP (o + v)))) else none).bind _ = _
      rw [if_pos (by unfold esN; rw [List.length_map]; lia)]
      rfl
noncomputable def prP (x : Nat × Nat) : PV := .tup [natP x.1, natP x.2]
theorem sums_pair (t : List (Nat × Nat × Nat)) (hl : t.length ≤ 1000) (k : Nat) (v : Nat × Nat) : Sums prP t k v (((lookN t k).map fun o => (v.1 + o.1, v.2 + o.2)).getD v) := by
  unfold Sums
  cases q : lookN t k with
  | none => rfl
  | some o =>
    intro σ r2 r3' r4 hl'
    have e3 : vv 3 σ = some (natP k) := by unfold vv; rw [r3']
    have e4 : vv 4 σ = some (prP v) := by unfold vv; rw [r4]
    have et : truF (callO isi2Φ [(vv 4), (cc (.obj (.type "tuple")))]) σ = some true := by
      unfold truF callO seqO seqO seqO cc
      rw [e4]; rfl
    rw [ifF_true et, seqF_next (σ₁ := σ.set 2 (.od (insD (esN prP t) (.i (k : Int)) (prP (v.1 + o.1, v.2 + o.2)))))]
    · rfl
    · have eo : oi2 2 (vv 3) σ = some (prP o) := by
        unfold oi2
        rw [r2, Option.bind_some, e3, Option.bind_some]
        exact hl'
      have es : tsum2 (vv 4) (oi2 2 (vv 3)) σ = some (prP (v.1 + o.1, v.2 + o.2)) := by
        unfold tsum2
        rw [e4, Option.bind_some, eo, Option.bind_some]
        rfl
      unfold setO
      rw [es, Option.bind_some, e3, Option.bind_some, r2, Option.bind_some]
      show (if (esN prP t).length ≤ 65536 then some (LV.od (insD (esN prP t) (.i (k : Int)) (prP (v.1 + o.1, v.2 + o.2)))) else none).bind _ = _
      rw [if_pos (by unfold esN; rw [List.length_map]; lia)]
      rfl
theorem insN_keys {β : Type} (t : List (Nat × β)) (k : Nat) (v : β) (hn : (t.map (·.1)).Nodup) : ((insN t k v).map (·.1)).Nodup ∧ (insN t k v).length ≤ t.length + 1 := by
  unfold insN
  split
  · refine ⟨?_, by rw [List.length_map]; lia⟩
    rw [List.map_map]
    have : ((fun e : Nat × β => e.1) ∘ fun e : Nat × β => if e.1 = k then (e.1, v) else e) = fun e => e.1 := by funext e; show (if e.1 = k then (e.1, v) else e).1 = e.1; split <;> rfl
    rw [this]; exact hn
  · rename_i h
    refine ⟨?_, by simp⟩
    rw [List.map_append, List.nodup_append]
    refine ⟨hn, by simp, fun a ha b hb => ?_⟩
    simp at hb
    subst hb
    rintro rfl
    refine k1_2 (List.mem_map.mp ha) fun e he h2 => ?_
    exact h (List.any_eq_true.mpr ⟨e, he, by simpa using h2⟩)
noncomputable def bump1 (t : List (Nat × Nat)) (k v : Nat) : List (Nat × Nat) := insN t k (((lookN t k).map (· + v)).getD v)
noncomputable def bump2 (t : List (Nat × Nat × Nat)) (k : Nat) (v : Nat × Nat) : List (Nat × Nat × Nat) := insN t k (((lookN t k).map fun o => (v.1 + o.1, v.2 + o.2)).getD v)
theorem add_nat (t : List (Nat × Nat)) (hn : (t.map (·.1)).Nodup) (hl : t.length ≤ 1000) (k v : Nat) : Φ_add_callers [.dct (esN natP t), .dct [(.i (k : Int), natP v)]] = some (.dct (esN natP (bump1 t k v))) := add_one natP t hn hl k v _ (sums_nat t hl k v)
theorem add_pair (t : List (Nat × Nat × Nat)) (hn : (t.map (·.1)).Nodup) (hl : t.length ≤ 1000) (k : Nat) (v : Nat × Nat) : Φ_add_callers [.dct (esN prP t), .dct [(.i (k : Int), prP v)]] = some (.dct (esN prP (bump2 t k v))) := add_one prP t hn hl k v _ (sums_pair t hl k v)
end
section
noncomputable def Kp (L : List Nat) (σ τ : Sig) : Prop := ∀ i, L.contains i = false → τ i = σ i
theorem Kp.refl (L : List Nat) (σ : Sig) : Kp L σ σ := fun ž1 ž2 => rfl
theorem Kp.trans {L : List Nat} {σ τ ρ : Sig} (h : Kp L σ τ) (k : Kp L τ ρ) : Kp L σ ρ := fun i hi => (k i hi).trans (h i hi)
theorem Kp.set {L : List Nat} {σ τ : Sig} (h : Kp L σ τ) {i : Nat} (hi : L.contains i = true) (v : LV) : Kp L σ (τ.set i v) := fun j hj => by
  have : j ≠ i := fun e => by rw [e, hi] at hj; exact nv3 hj
  rw [Sig.set_ne _ _ this]; exact h j hj
theorem Kp.mono {L M : List Nat} {σ τ : Sig} (h : Kp L σ τ) (hLM : ∀ i, M.contains i = false → L.contains i = false) : Kp M σ τ := fun i hi => h i (hLM i hi)
noncomputable def bookM (X : List (List Nat × Nat)) : List (Nat × Nat) := X.foldl (fun t x => bump1 t (x.2 % 6) 1) []
theorem bookM_snoc (X : List (List Nat × Nat)) (x : List Nat × Nat) : bookM (X ++ [x]) = bump1 (bookM X) (x.2 % 6) 1 := by unfold bookM; rw [List.foldl_append]; rfl
theorem bookM_ok (X : List (List Nat × Nat)) : ((bookM X).map (·.1)).Nodup ∧ (bookM X).length ≤ X.length := by
  suffices h : ∀ (Y : List (List Nat × Nat)) (t : List (Nat × Nat)), (t.map (·.1)).Nodup → ((Y.foldl (fun t x => bump1 t (x.2 % 6) 1) t).map (·.1)).Nodup ∧ (Y.foldl (fun t x => bump1 t (x.2 % 6) 1) t).length ≤ t.length + Y.length by
    have := h X [] .nil
    simpa [bookM] using this
  intro Y
  induction Y with
  | nil => intro t ht; exact ⟨ht, Nat.le_refl _⟩
  | cons y Y ih =>
    intro t ht
    refine k0_2 (insN_keys t (y.2 % 6) (((lookN t (y.2 % 6)).map (· + 1)).getD 1) ht) fun h1 h2 => ?_
    refine k0_2 (ih (bump1 t (y.2 % 6) 1) h1) fun h3 h4 => ?_
    refine ⟨h3, ?_⟩
    rw [List.foldl_cons, List.length_cons]
    have : (bump1 t (y.2 % 6) 1).length ≤ t.length + 1 := h2
    lia
noncomputable def body19 : Sig → Option (Fl × Sig) := seqF (setF 25 (dct1O (b2 .Mod (vv 24) (cc (.int 6))) (cc (.int 1)))) (seqF (setF 22 (callO Φ_add_callers [(vv 22), (vv 25)])) (seqF (ifF (c2 .NotEq (lstO [(vv 21), (vv 25)]) (lstO [(cc (.dct [])), (dct1O (b2 .Mod (vv 24) (cc (.int 6))) (cc (.int 1)))])) (seqF (retF (cc (.bool false))) nextF) nextF) nextF))
theorem law19_eq : F_law_19 = loopF (itF (vv 20)) (tupK [23, 24]) body19 := rfl
theorem ne_one (m : Int) : cmpO .NotEq (.lst [.dct [], .dct [(.i m, .int 1)]]) (.lst [.dct [], .dct [(.i m, .int 1)]]) = some false := by
  have e : lookD [(DK.i m, PV.int 1)] (.i m) = some (.int 1) := by unfold lookD; rw [List.find?_cons, decide_eq_true rfl]; rfl
  have e1 : eqq 7 (.dct [(.i m, .int 1)]) (.dct [(.i m, .int 1)]) = some true := by
    refine (eqq_dct_def 6 _ _).trans ((if_pos (show (_ && _) = true from rfl)).trans ((if_pos rfl).trans ?_))
    show allO [match lookD [(DK.i m, PV.int 1)] (.i m) with | none => some false | some y => eqq 6 (.int 1) y] = _
    rw [e]
    rfl
  refine ne_of_eqq (r := true) ?_
  refine (eqq_lst_def 7 _ _).trans ((if_pos rfl).trans ?_)
  show allO [eqq 7 (.dct []) (.dct []), eqq 7 (.dct [(.i m, .int 1)]) (.dct [(.i m, .int 1)])] = _
  rw [e1]
  rfl
theorem mod6_nat (f : Nat) : PV.bin .Mod (natP f) (.int 6) = some (natP (f % 6)) := by
  unfold natP
  rw [fmd _ _ (by decide), Int.fmod_eq_emod_of_nonneg _ (by decide)]
  rfl
theorem law_19 (X : List (List Nat × Nat)) (hX : X.length ≤ 900) {σ : Sig} (v20 : σ 20 = some (.pv (.lst (X.map rowP)))) (v21 : σ 21 = some (.pv (.dct []))) (v22 : σ 22 = some (.pv (.dct []))) :
    ∃ τ, F_law_19 σ = some (.next, τ) ∧ Kp [22, 23, 24, 25] σ τ ∧ τ 22 = some (.pv (.dct (esN natP (bookM X)))) := by
  obtain ⟨τ, h1, h2⟩ := forF_inv (k := tupK [23, 24]) (F := body19) X rowP (fun done τ => Kp [22, 23, 24, 25] σ τ ∧ τ 22 = some (.pv (.dct (esN natP (bookM done))))) (fun done x rest τ e hI => by
    refine k0_2 hI fun g0 g22 => ?_
    have hdl : done.length ≤ 900 := by rw [e] at hX; simp at hX; lia
    refine k0_2 (bookM_ok done) fun b1 b2' => ?_
    generalize hρ : (τ.set 23 (.pv (.tup (x.1.map natP)))).set 24 (.pv (natP x.2)) = ρ
    have kρ : Kp [22, 23, 24, 25] σ ρ := by rw [← hρ]; exact (g0.set (by decide) _).set (by decide) _
    have w22 : ρ 22 = some (.pv (.dct (esN natP (bookM done)))) := by rw [← hρ]; exact g22
    have w24 : ρ 24 = some (.pv (natP x.2)) := by rw [← hρ]; rfl
    have ed : dct1O (b2 .Mod (vv 24) (cc (.int 6))) (cc (.int 1)) ρ = some (.dct [(.i ((x.2 % 6 : Nat) : Int), .int 1)]) := by
      unfold dct1O b2 vv
      rw [w24]
      show (((PV.bin .Mod (natP x.2) (.int 6))).bind _) = _
      rw [mod6_nat]; rfl
    generalize hρ1 : ρ.set 25 (.pv (.dct [(.i ((x.2 % 6 : Nat) : Int), .int 1)])) = ρ1
    have kρ1 : Kp [22, 23, 24, 25] σ ρ1 := by rw [← hρ1]; exact kρ.set (by decide) _
    have s1 : setF 25 (dct1O (b2 .Mod (vv 24) (cc (.int 6))) (cc (.int 1))) ρ = some (.next, ρ1) := by unfold setF; rw [ed, ← hρ1]; rfl
    have e22 : vv 22 ρ1 = some (.dct (esN natP (bookM done))) := by rw [← hρ1]; unfold vv; rw [show (ρ.set 25 (.pv (.dct [(.i ((x.2 % 6 : Nat) : Int), .int 1)]))) 22 = ρ 22 from rfl, w22]
    have e25 : vv 25 ρ1 = some (.dct [(.i ((x.2 % 6 : Nat) : Int), .int 1)]) := by rw [← hρ1]; rfl
    have ea := add_nat (bookM done) b1 (by lia) (x.2 % 6) 1
    rw [← bookM_snoc] at ea
    have ec : callO Φ_add_callers [(vv 22), (vv 25)] ρ1 = some (.dct (esN natP (bookM (done ++ [x])))) := by
      unfold callO seqO seqO seqO
      rw [e22, e25]
      exact ea
    generalize hρ2 : ρ1.set 22 (.pv (.dct (esN natP (bookM (done ++ [x]))))) = ρ2
    have kρ2 : Kp [22, 23, 24, 25] σ ρ2 := by rw [← hρ2]; exact kρ1.set (by decide) _
    have s2 : setF 22 (callO Φ_add_callers [(vv 22), (vv 25)]) ρ1 = some (.next, ρ2) := by unfold setF; rw [ec, ← hρ2]; rfl
    have x21 : vv 21 ρ2 = some (.dct []) := by unfold vv; rw [kρ2 21 (by decide), v21]
    have x25 : vv 25 ρ2 = some (.dct [(.i ((x.2 % 6 : Nat) : Int), .int 1)]) := by rw [← hρ2]; exact e25
    have xd : dct1O (b2 .Mod (vv 24) (cc (.int 6))) (cc (.int 1)) ρ2 = some (.dct [(.i ((x.2 % 6 : Nat) : Int), .int 1)]) := by
      have w24' : ρ2 24 = some (.pv (natP x.2)) := by rw [← hρ2, ← hρ1]; exact w24
      unfold dct1O b2 vv
      rw [w24']
      show (((PV.bin .Mod (natP x.2) (.int 6))).bind _) = _
      rw [mod6_nat]; rfl
    have et : c2 .NotEq (lstO [(vv 21), (vv 25)]) (lstO [(cc (.dct [])), (dct1O (b2 .Mod (vv 24) (cc (.int 6))) (cc (.int 1)))]) ρ2 = some false := by
      have l1 : lstO [(vv 21), (vv 25)] ρ2 = some (.lst [.dct [], .dct [(.i ((x.2 % 6 : Nat) : Int), .int 1)]]) := by unfold lstO seqO seqO seqO; rw [x21, x25]; rfl
      have l2 : lstO [(cc (.dct [])), (dct1O (b2 .Mod (vv 24) (cc (.int 6))) (cc (.int 1)))] ρ2 = some (.lst [.dct [], .dct [(.i ((x.2 % 6 : Nat) : Int), .int 1)]]) := by unfold lstO seqO seqO seqO; rw [xd]; rfl
      unfold c2
      rw [l1, l2]
      exact ne_one _
    refine ⟨ρ, ρ2, by rw [← hρ]; rfl, ?_, kρ2, by rw [← hρ2]; rfl⟩
    unfold body19
    rw [seqF_next s1, seqF_next s2, seqF_next (σ₁ := ρ2) (by rw [ifF_false et]; rfl)]
    rfl) (σ := σ) ⟨Kp.refl _ _, v22⟩
  refine ⟨τ, ?_, h2.1, h2.2⟩
  rw [law19_eq]
  exact loopF_of (by unfold itF vv; rw [v20]; rfl) h1
theorem eqq_nats (n : Nat) : ∀ {l m : List Nat}, l.length = m.length → allO (List.zipWith (eqq n) (l.map natP) (m.map natP)) = some (decide (l = m))
  | [], [], _ => rfl
  | a :: l, b :: m, h => by
    rw [List.map_cons, List.map_cons, List.zipWith_cons_cons]
    have e : eqq n (natP a) (natP b) = some (decide (a = b)) := by
      unfold natP
      rw [eqq_zero_ii]
      congr 1
      rw [Bool.eq_iff_iff, beq_iff_eq, decide_eq_true_iff]
      lia
    have ih := eqq_nats n (l := l) (m := m) (by simpa using h)
    rw [e]
    unfold allO
    rw [ih]
    show some (decide (a = b) && decide (l = m)) = _
    rw [← Bool.decide_and]
    congr 1
    apply decide_eq_decide.mpr
    simp
  | [], _ :: _, h => by simp at h
  | _ :: _, [], h => by simp at h
theorem eq_tup (l m : List Nat) (h : l.length = m.length) : cmpO .Eq (.tup (l.map natP)) (.tup (m.map natP)) = some (decide (l = m)) := by
  exact (eqq_tup_def 7 _ _).trans ((if_pos (by rw [List.length_map, List.length_map]; exact h)).trans (eqq_nats 7 h))
end
section
noncomputable def turnM (row : List Nat) : Nat := 6 / (([1, 2, 3, 6].filter fun k => decide (row.drop k ++ row.take k = row)).headD 1)
noncomputable def turnC : Sig → Option PV := compO .lst (setK 40) [40] (c2 .Eq (b2 .Add (slT (vv 37) (ptO (vv 40)) noO) (slT (vv 37) noO (ptO (vv 40)))) (vv 37)) (oneO (vv 40)) 39 (itF (tupO [(cc (.int 1)), (cc (.int 2)), (cc (.int 3)), (cc (.int 6))]))
theorem clip_nat {n k : Nat} (h : k ≤ n) : clipAt n (k : Int) = k := by unfold clipAt; rw [if_neg (by omega)]; omega
theorem slice_from (row : List Nat) {k : Nat} (h : k ≤ row.length) (hl : row.length ≤ 1000) : sliceTO (.tup (row.map natP)) (some (k : Int)) none = some (.tup ((row.drop k).map natP)) := by
  show (if _ then _ else _) = _
  rw [if_pos (by rw [List.length_map]; lia)]
  have e0 : cut0 (row.map natP).length (some (k : Int)) = k := by rw [List.length_map]; exact clip_nat h
  have e1 : cut1 (row.map natP).length none = row.length := by rw [List.length_map]; rfl
  rw [e0, e1, ← List.map_drop, List.take_of_length_le (by rw [List.length_map, List.length_drop]; lia)]
theorem slice_to (row : List Nat) {k : Nat} (h : k ≤ row.length) (hl : row.length ≤ 1000) : sliceTO (.tup (row.map natP)) none (some (k : Int)) = some (.tup ((row.take k).map natP)) := by
  show (if _ then _ else _) = _
  rw [if_pos (by rw [List.length_map]; lia)]
  have e0 : cut0 (row.map natP).length none = 0 := rfl
  have e1 : cut1 (row.map natP).length (some (k : Int)) = k := by rw [List.length_map]; exact clip_nat h
  rw [e0, e1, List.drop_zero, Nat.sub_zero, ← List.map_take]
theorem add_tups (l m : List Nat) (h : l.length + m.length ≤ 1000) : PV.bin .Add (.tup (l.map natP)) (.tup (m.map natP)) = some (.tup ((l ++ m).map natP)) := by
  show (if _ then _ else _) = _
  rw [if_pos (by rw [List.length_map, List.length_map]; lia), List.map_append]
theorem it1236 (σ : Sig) : itF (tupO [(cc (.int 1)), (cc (.int 2)), (cc (.int 3)), (cc (.int 6))]) σ = some ([1, 2, 3, 6].map natP) := rfl
theorem turn_c {row : List Nat} (h6 : row.length = 6) {σ : Sig} (v37 : σ 37 = some (.pv (.tup (row.map natP)))) : turnC σ = some (.lst (([1, 2, 3, 6].filter fun k => decide (row.drop k ++ row.take k = row)).map natP)) := by
  refine comp_filt natP (fun k => decide (row.drop k ++ row.take k = row)) natP [1, 2, 3, 6] (it1236 σ) (by decide) fun k hk => ?_
  have hk6 : k ≤ 6 := by simp at hk; lia
  refine ⟨_, rfl, ?_, fun ž1 => rfl⟩
  generalize hρ : ((σ.below 39).clear [40]).set 40 (.pv (natP k)) = ρ
  have e40 : vv 40 ρ = some (.int (k : Int)) := by rw [← hρ]; rfl
  have e37 : vv 37 ρ = some (.tup (row.map natP)) := by
    have : ρ 37 = σ 37 := by rw [← hρ]; rfl
    unfold vv; rw [this, v37]
  have s1 := slice_from row (k := k) (by lia) (by lia)
  have s2 := slice_to row (k := k) (by lia) (by lia)
  have ea := add_tups (row.drop k) (row.take k) (by rw [List.length_drop, List.length_take]; lia)
  have eq := eq_tup (row.drop k ++ row.take k) row (by rw [List.length_append, List.length_drop, List.length_take]; lia)
  simp (config := {decide := true, implicitDefEqProofs := false}) only [c2, b2, slT, ptO, noO, e40, e37, s1, s2, ea, eq, Option.bind_some]
theorem item_zero (l : List Nat) (z : Nat) : itemO (.lst ((z :: l).map natP)) (.int 0) = some (natP z) := by
  show (if smallI 0 = true then (seqIndex? 0 ((z :: l).map natP).length).bind (((z :: l).map natP)[·]?) else none) = _
  rw [if_pos (by decide)]
  have e : seqIndex? 0 ((z :: l).map natP).length = some 0 := by
    unfold seqIndex?
    rw [List.length_map]
    simp
  rw [e]; rfl
theorem fdiv6 (k : Nat) (h : 0 < k ∧ k ≤ 6) : PV.bin .FloorDiv (.int 6) (natP k) = some (natP (6 / k)) := by
  obtain rfl | rfl | rfl | rfl | rfl | rfl : k = 1 ∨ k = 2 ∨ k = 3 ∨ k = 4 ∨ k = 5 ∨ k = 6 := by lia
  all_goals rfl
theorem law_20 (X : List (List Nat × Nat)) (hX : X.length ≤ 900) (h6 : ∀ x ∈ X, x.1.length = 6) {σ : Sig} (v20 : σ 20 = some (.pv (.lst (X.map rowP)))) :
    F_law_20 σ = some (.next, σ.set 26 (.pv (.lst ((X.map fun x => turnM x.1).map natP)))) := by
  have e : compO .lst (tupK [37, 38]) [37, 38] yesT (oneO (b2 .FloorDiv (cc (.int 6)) (i2 turnC (cc (.int 0))))) 36 (itF (vv 20)) σ = some (.lst (X.map fun x => natP (turnM x.1))) := by
    refine comp_map rowP (fun x => natP (turnM x.1)) X (by unfold itF vv; rw [v20]; rfl) (by lia) fun x hx => ?_
    refine ⟨_, rfl, ?_⟩
    generalize hρ : (((σ.below 36).clear [37, 38]).set 37 (.pv (.tup (x.1.map natP)))).set 38 (.pv (natP x.2)) = ρ
    have w37 : ρ 37 = some (.pv (.tup (x.1.map natP))) := by rw [← hρ]; rfl
    have l6 := h6 x hx
    have ec := turn_c l6 w37
    have h6in : decide (x.1.drop 6 ++ x.1.take 6 = x.1) = true := by
      rw [decide_eq_true_iff, List.drop_of_length_le (by lia), List.take_of_length_le (by lia), List.nil_append]
    have hmem : (6 : Nat) ∈ [1, 2, 3, 6].filter fun k => decide (x.1.drop k ++ x.1.take k = x.1) := List.mem_filter.mpr ⟨by decide, h6in⟩
    have hall : ∀ k ∈ [1, 2, 3, 6].filter fun k => decide (x.1.drop k ++ x.1.take k = x.1), 0 < k ∧ k ≤ 6 := fun k hk => by
      have := (List.mem_filter.mp hk).1
      simp at this; lia
    unfold turnM
    generalize ([1, 2, 3, 6].filter fun k => decide (x.1.drop k ++ x.1.take k = x.1)) = L at *
    cases L with
    | nil => cases hmem
    | cons z L =>
      have ei := item_zero L z
      have ed := fdiv6 z (hall z (List.mem_cons_self ..))
      simp only [b2, i2, cc, ec, ei, ed, Option.bind_some, List.headD_cons]
  show (compO .lst (tupK [37, 38]) [37, 38] yesT (oneO (b2 .FloorDiv (cc (.int 6)) (i2 turnC (cc (.int 0))))) 36 (itF (vv 20)) σ).bind _ = _
  rw [e, List.map_map]
  rfl
noncomputable def dueE : Sig → Option PV := compO .lst (setK 37) [37] yesT (oneO (b2 .FloorDiv (callO sumΦ [(compO .lst (setK 39) [39] (c2 .Eq (b2 .Mod (vv 37) (vv 39)) (cc (.int 0))) (oneO (b2 .Mult (methO "list" lcntΦ (vv 26) [(vv 39)]) (vv 39))) 38 (itF (tupO [(cc (.int 1)), (cc (.int 2)), (cc (.int 3)), (cc (.int 6))])))]) (cc (.int 6)))) 36 (itF (callO rangeΦ [(cc (.int 6))]))
theorem law21_eq : F_law_21 = setF 27 dueE := rfl
theorem count_nat (T : List Nat) (z : Nat) {σ : Sig} {i j : Nat} (hi : σ i = some (.pv (.lst (T.map natP)))) (hj : σ j = some (.pv (natP z))) : methO "list" lcntΦ (vv i) [(vv j)] σ = some (natP (T.count z)) := by
  have ei : vv i σ = some (.lst (T.map natP)) := by unfold vv; rw [hi]
  have ej : vv j σ = some (natP z) := by unfold vv; rw [hj]
  unfold methO seqO seqO
  rw [ei, Option.bind_some, if_pos (show tyP (PV.lst (List.map natP T)) = some "list" from rfl), ej]
  show (intsO (T.map natP)).map _ = _
  rw [ints_nat, intsO_map]
  show some (PV.int ((T.map fun k : Nat => (k : Int)).count (z : Int) : Nat)) = _
  rw [count_cast]; rfl
theorem sum_nat : ∀ l : List Nat, sumΦ [.lst (l.map natP)] = some (natP l.sum)
  | [] => rfl
  | a :: l => by
    have ih := sum_nat l
    have e1 : (sumI (l.map natP)).map PV.int = some (natP l.sum) := ih
    show (sumI (natP a :: l.map natP)).map PV.int = _
    refine k1_2 (Option.map_eq_some_iff.mp e1) fun m hm hm2 => ?_
    have : m = (l.sum : Int) := by injection hm2
    subst this
    show ((sumI (l.map natP)).map _).map _ = _
    rw [hm, List.sum_cons]
    show some (PV.int _) = _
    unfold natP
    congr 2
noncomputable def dueM (T : List Nat) (k : Nat) : Nat := (([1, 2, 3, 6].filter fun z => decide (k % z = 0)).map fun z => T.count z * z).sum / 6
theorem mod_nat (a b : Nat) (h : b ≠ 0) : PV.bin .Mod (natP a) (natP b) = some (natP (a % b)) := by
  unfold natP
  rw [fmd _ _ (by lia), Int.fmod_eq_emod_of_nonneg _ (by lia)]
  rfl
theorem eq0_nat (a : Nat) : cmpO .Eq (natP a) (.int 0) = some (decide (a = 0)) := by
  unfold natP
  rw [eq_int]; congr 1; apply decide_eq_decide.mpr; omega
theorem mul_nat (a b : Nat) (h : b < 1000000) : PV.bin .Mult (natP a) (natP b) = some (natP (a * b)) := by
  unfold natP
  rw [mul_i _ _ (.inr (by omega))]
  rfl
theorem fdv6_nat (a : Nat) : PV.bin .FloorDiv (natP a) (.int 6) = some (natP (a / 6)) := by
  unfold natP
  rw [fdv _ _ (by decide), Int.fdiv_eq_ediv_of_nonneg _ (by decide)]
  rfl
theorem due_ok (T : List Nat) {σ : Sig} (v26 : σ 26 = some (.pv (.lst (T.map natP)))) : dueE σ = some (.lst (((List.range 6).map (dueM T)).map natP)) := by
  rw [List.map_map]
  refine comp_map natP (natP ∘ dueM T) (List.range 6) (r6 σ) (by decide) fun k hk => ?_
  refine ⟨_, rfl, ?_⟩
  generalize hρ : ((σ.below 36).clear [37]).set 37 (.pv (natP k)) = ρ
  have w37 : ρ 37 = some (.pv (natP k)) := by rw [← hρ]; rfl
  have w26 : ρ 26 = some (.pv (.lst (T.map natP))) := by rw [← hρ]; exact v26
  have ec : compO .lst (setK 39) [39] (c2 .Eq (b2 .Mod (vv 37) (vv 39)) (cc (.int 0))) (oneO (b2 .Mult (methO "list" lcntΦ (vv 26) [(vv 39)]) (vv 39))) 38 (itF (tupO [(cc (.int 1)), (cc (.int 2)), (cc (.int 3)), (cc (.int 6))])) ρ = some (.lst ((([1, 2, 3, 6].filter fun z => decide (k % z = 0)).map fun z => T.count z * z).map natP)) := by
    rw [List.map_map]
    refine comp_filt natP (fun z => decide (k % z = 0)) (natP ∘ fun z => T.count z * z) [1, 2, 3, 6] (it1236 ρ) (by decide) fun z hz => ?_
    have hz6 : z ≠ 0 ∧ z < 1000000 := by simp at hz; lia
    refine ⟨_, rfl, ?_, fun ž1 => ?_⟩
    · generalize hω : ((ρ.below 38).clear [39]).set 39 (.pv (natP z)) = ω
      have e39 : vv 39 ω = some (natP z) := by rw [← hω]; rfl
      have e37 : vv 37 ω = some (natP k) := by
        have : ω 37 = ρ 37 := by rw [← hω]; rfl
        unfold vv; rw [this, w37]
      have em := mod_nat k z hz6.1
      simp only [c2, b2, cc, e37, e39, em, eq0_nat, Option.bind_some]
    · generalize hω : ((ρ.below 38).clear [39]).set 39 (.pv (natP z)) = ω
      have w39 : ω 39 = some (.pv (natP z)) := by rw [← hω]; rfl
      have e39 : vv 39 ω = some (natP z) := by unfold vv; rw [w39]
      have ω26 : ω 26 = some (.pv (.lst (T.map natP))) := by rw [← hω]; exact w26
      have en := count_nat T z ω26 w39
      have em := mul_nat (T.count z) z hz6.2
      simp only [b2, en, e39, em, Option.bind_some]
      rfl
  have es := sum_nat ((([1, 2, 3, 6].filter fun z => decide (k % z = 0)).map fun z => T.count z * z))
  simp only [b2, callO, seqO, cc, ec, es, fdv6_nat, Option.bind_some]
  rfl
end
section
theorem dctOf_es {β : Type} (f : β → PV) (L : List (Nat × β)) (hn : (L.map (·.1)).Nodup) : dctOf (L.map fun e => .tup [natP e.1, f e.2]) = esN f L := by
  suffices h : ∀ (R A : List (Nat × β)), ((A ++ R).map (·.1)).Nodup → (R.map fun e => PV.tup [natP e.1, f e.2]).foldl (fun acc p => match p with
      | .tup [k, v] => match DKof k with
        | some q => insD acc q v
        | none => acc
      | _ => acc) (esN f A) = esN f (A ++ R) from h L [] hn
  intro R
  induction R with
  | nil => intro A _; rw [List.append_nil]; rfl
  | cons e R ih =>
    intro A h
    rw [List.map_cons, List.foldl_cons]
    have e1 : insD (esN f A) (.i (e.1 : Int)) (f e.2) = esN f (A ++ [e]) := by
      rw [insD_es]
      have : A.any (fun x => x.1 = e.1) = false := by
        rw [List.any_eq_false]
        intro y hy
        rw [List.map_append, List.map_cons] at h
        have := (List.nodup_append.mp h).2.2 y.1 (List.mem_map_of_mem hy) e.1 (List.mem_cons_self ..)
        simpa using this
      unfold insN
      rw [this, if_neg (by simp)]
    show (R.map fun e => PV.tup [natP e.1, f e.2]).foldl _ (insD (esN f A) (.i (e.1 : Int)) (f e.2)) = _
    rw [e1]
    have := ih (A ++ [e]) (by rw [List.append_assoc]; exact h)
    rw [List.append_assoc] at this
    exact this
theorem comp_dct {β : Type} {t : Sig → Option Bool} {fk fv : Sig → Option PV} {n i : Nat} {fi : Sig → Option (List PV)} {σ : Sig} (f : β → PV) (b : Nat → Bool) (o : Nat → β) (ps : List Nat) (hn : ps.Nodup) (hi : fi σ = some (ps.map natP)) (hl : ps.length ≤ 1000)
    (h : ∀ x ∈ ps, t (((σ.below n).clear [i]).set i (.pv (natP x))) = some (b x) ∧ (b x = true → fk (((σ.below n).clear [i]).set i (.pv (natP x))) = some (natP x) ∧ fv (((σ.below n).clear [i]).set i (.pv (natP x))) = some (f (o x)))) :
    compO dctP (setK i) [i] t (kvO fk fv) n fi σ = some (.dct (esN f ((ps.filter b).map fun x => (x, o x)))) := by
  unfold compO
  rw [hi, Option.bind_some, clF_map natP b (fun x => [.tup [natP x, f (o x)]]) ps fun x hx => by
    refine k0_2 (h x hx) fun h2 h3 => ?_
    refine ⟨_, rfl, h2, fun hb => ?_⟩
    refine k0_2 (h3 hb) fun h4 h5 => ?_
    unfold kvO; rw [h4, Option.bind_some, h5]; rfl]
  rw [flat_one, Option.bind_some, if_pos (by rw [List.length_map]; exact Nat.le_trans (List.length_filter_le _ _) (by lia))]
  unfold dctP
  have := dctOf_es f ((ps.filter b).map fun x => (x, o x)) (by
    rw [List.map_map]
    show ((ps.filter b).map fun x => x).Nodup
    rw [List.map_id']
    exact List.Nodup.sublist List.filter_sublist hn)
  rw [List.map_map] at this
  rw [← this]
  rfl
theorem allO_true : ∀ l : List (Option Bool), (∀ x ∈ l, x = some true) → allO l = some true
  | [], _ => rfl
  | x :: l, h => by
    rw [h x (.head _)]
    unfold allO
    rw [allO_true l fun y hy => h y (.tail _ hy)]
    rfl
noncomputable def sameT {β : Type} [DecidableEq β] (A B : List (Nat × β)) : Bool := decide (A.length = B.length) && A.all fun e => decide (lookN B e.1 = some e.2)
theorem eq_tabs {β : Type} [DecidableEq β] (f : β → PV) (n : Nat) (hf : ∀ x, eqq n (f x) (f x) = some true) {A B : List (Nat × β)} (h : sameT A B = true) : eqq (n + 1) (.dct (esN f A)) (.dct (esN f B)) = some true := by
  unfold sameT at h
  rw [Bool.and_eq_true, decide_eq_true_iff] at h
  refine k0_2 h fun hl ha => ?_
  have isI : ∀ L : List (Nat × β), ((esN f L).all fun e => e.1.isI) = true := fun L => by
    rw [List.all_eq_true]
    intro e he
    (refine k1_2 (List.mem_map.mp he) fun x _ ž3 => ?_; subst ž3)
    rfl
  rw [eqq_dct_def, isI A, isI B, if_pos (by rfl), if_pos (by unfold esN; rw [List.length_map, List.length_map]; exact hl)]
  refine allO_true _ fun x hx => ?_
  (refine k1_2 (List.mem_map.mp hx) fun e he ž3 => ?_; subst ž3)
  (refine k1_2 (List.mem_map.mp he) fun y hy ž3 => ?_; subst ž3)
  have h1 := List.all_eq_true.mp ha y hy
  rw [decide_eq_true_iff] at h1
  have h2 : lookD (esN f B) (.i (y.1 : Int)) = some (f y.2) := by rw [lookD_es, h1]; rfl
  show (match lookD (esN f B) (.i (y.1 : Int)) with | none => some false | some z => eqq n (f y.2) z) = _
  rw [h2]
  exact hf y.2
theorem eq_natP (n : Nat) (x : Nat) : eqq n (natP x) (natP x) = some true := by unfold natP; rw [eqq_zero_ii]; simp
theorem eq_prP (n : Nat) (x : Nat × Nat) : eqq (n + 1) (prP x) (prP x) = some true := by
  refine (eqq_tup_def n _ _).trans ((if_pos rfl).trans ?_)
  show allO [eqq n (natP x.1) (natP x.1), eqq n (natP x.2) (natP x.2)] = _
  rw [eq_natP, eq_natP]; rfl
theorem count_loop : ∀ (xs : List Nat) (σ : Sig) (n : Nat), σ 1 = some (.pv (natP n)) → ∃ σ', forF (setK 2) (seqF (augF .Add 1 (vv 2)) nextF) (xs.map natP) σ = some (.next, σ') ∧ σ' 1 = some (.pv (natP (n + xs.sum)))
  | [], σ, n, h => ⟨σ, rfl, by rw [h]; simp⟩
  | x :: xs, σ, n, h => by
    have hF : seqF (augF .Add 1 (vv 2)) nextF (σ.set 2 (.pv (natP x))) = some (.next, (σ.set 2 (.pv (natP x))).set 1 (.pv (natP (n + x)))) := by
      rw [seqF_next (σ₁ := (σ.set 2 (.pv (natP x))).set 1 (.pv (natP (n + x))))]
      · rfl
      · have v1 : vv 1 (σ.set 2 (.pv (natP x))) = some (natP n) := by unfold vv; rw [show (σ.set 2 (.pv (natP x))) 1 = σ 1 from rfl, h]
        have v2 : vv 2 (σ.set 2 (.pv (natP x))) = some (natP x) := rfl
        have e : PV.inp .Add (natP n) (natP x) = some (natP (n + x)) := rfl
        simp only [augF, setF, v1, v2, e, Option.bind_some]
    refine k1_2 (count_loop xs ((σ.set 2 (.pv (natP x))).set 1 (.pv (natP (n + x)))) (n + x) rfl) fun σ' h1 h2 => ?_
    refine ⟨σ', ?_, by rw [h2, List.sum_cons, Nat.add_assoc]⟩
    rw [List.map_cons, forF_cons rfl hF]
    exact h1
theorem count_calls (t : List (Nat × Nat)) : Φ_count_calls [.dct (esN natP t)] = some (natP (t.map (·.2)).sum) := by
  refine k1_2 (count_loop (t.map (·.2)) ((argSig [.dct (esN natP t)]).set 1 (.pv (.int 0))) 0 rfl) fun σ' h1 h2 => ?_
  refine runF_of rfl (σ' := σ') ?_
  unfold F_count_calls
  rw [seqF_next (σ₁ := (argSig [.dct (esN natP t)]).set 1 (.pv (.int 0))) rfl]
  have e : valsF (vv 0) ((argSig [.dct (esN natP t)]).set 1 (.pv (.int 0))) = some ((t.map (·.2)).map natP) := by
    show some ((esN natP t).map (·.2)) = _
    unfold esN
    rw [List.map_map, List.map_map]; rfl
  rw [seqF_next (σ₁ := σ') (by unfold loopF; rw [e]; exact h1)]
  refine seqF_ret ?_
  unfold retF vv
  rw [h2, Nat.zero_add]
  rfl
theorem gt0_nat (a : Nat) : cmpO .Gt (natP a) (.int 0) = some (decide (0 < a)) := by
  show some (decide ((0 : Int) < (a : Int))) = _
  congr 1; apply decide_eq_decide.mpr; omega
noncomputable def dueL (D : List Nat) : List (Nat × Nat) := ((List.range 6).filter fun k => decide (0 < D.getD k 0)).map fun k => (k, D.getD k 0)
theorem len_rows (X : List (List Nat × Nat)) (h : X.length ≤ 1000) : lenΦ [.lst (X.map rowP)] = some (natP X.length) := by
  show (if (X.map rowP).length < 2 ^ 60 then some (PV.int ((X.map rowP).length : Nat)) else none) = _
  rw [List.length_map, if_pos (by lia)]
  rfl
theorem law_22 (X : List (List Nat × Nat)) (hX : X.length ≤ 900) (D : List Nat) (hD : D.length = 6) (hs : sameT (bookM X) (dueL D) = true) (hc : ((bookM X).map (·.2)).sum = X.length) {σ : Sig} (v20 : σ 20 = some (.pv (.lst (X.map rowP)))) (v22 : σ 22 = some (.pv (.dct (esN natP (bookM X))))) (v27 : σ 27 = some (.pv (.lst (D.map natP)))) :
    F_law_22 σ = some (.next, σ) := by
  have e1 : compO dctP (setK 37) [37] (c2 .Gt (i2 (vv 27) (vv 37)) (cc (.int 0))) (kvO (vv 37) (i2 (vv 27) (vv 37))) 36 (itF (callO rangeΦ [(cc (.int 6))])) σ = some (.dct (esN natP (dueL D))) := by
    refine comp_dct natP (fun k => decide (0 < D.getD k 0)) (fun k => D.getD k 0) (List.range 6) List.nodup_range (r6 σ) (by decide) fun k hk => ?_
    have hk6 : k < 6 := List.mem_range.mp hk
    generalize hρ : ((σ.below 36).clear [37]).set 37 (.pv (natP k)) = ρ
    have e37 : vv 37 ρ = some (natP k) := by rw [← hρ]; rfl
    have e27 : vv 27 ρ = some (.lst (D.map natP)) := by
      have : ρ 27 = σ 27 := by rw [← hρ]; rfl
      unfold vv; rw [this, v27]
    have ei := item_nat D (k := k) (by lia) (by lia)
    have eg := gt0_nat (D.getD k 0)
    have e2 : i2 (vv 27) (vv 37) ρ = some (natP (D.getD k 0)) := by unfold i2; rw [e27, Option.bind_some, e37, Option.bind_some, ei]
    exact ⟨by unfold c2; rw [e2, Option.bind_some]; exact eg, fun ž1 => ⟨e37, e2⟩⟩
  have e22 : vv 22 σ = some (.dct (esN natP (bookM X))) := by unfold vv; rw [v22]
  have e20 : vv 20 σ = some (.lst (X.map rowP)) := by unfold vv; rw [v20]
  have t1 : c2 .NotEq (vv 22) (compO dctP (setK 37) [37] (c2 .Gt (i2 (vv 27) (vv 37)) (cc (.int 0))) (kvO (vv 37) (i2 (vv 27) (vv 37))) 36 (itF (callO rangeΦ [(cc (.int 6))]))) σ = some false := by
    unfold c2
    rw [e22, Option.bind_some]
    unfold c2 at e1
    rw [e1, Option.bind_some]
    show (eqq 8 _ _).map _ = _
    rw [eq_tabs natP 7 (eq_natP 7) hs]; rfl
  have t2 : c2 .NotEq (callO Φ_count_calls [(vv 22)]) (callO lenΦ [(vv 20)]) σ = some false := by
    have a1 : callO Φ_count_calls [(vv 22)] σ = some (natP X.length) := by
      unfold callO seqO seqO
      rw [e22, ← hc]; exact count_calls _
    have a2 : callO lenΦ [(vv 20)] σ = some (natP X.length) := by
      unfold callO seqO seqO
      rw [e20]; exact len_rows X (by lia)
    unfold c2
    rw [a1, a2]
    show (eqq 8 (natP X.length) (natP X.length)).map _ = _
    rw [eq_natP]; rfl
  have t : orO (c2 .NotEq (vv 22) (compO dctP (setK 37) [37] (c2 .Gt (i2 (vv 27) (vv 37)) (cc (.int 0))) (kvO (vv 37) (i2 (vv 27) (vv 37))) 36 (itF (callO rangeΦ [(cc (.int 6))])))) (c2 .NotEq (callO Φ_count_calls [(vv 22)]) (callO lenΦ [(vv 20)])) σ = some false := by
    unfold orO
    rw [t1, Option.bind_some, if_neg (by simp)]; exact t2
  unfold F_law_22
  rw [ifF_false t]; rfl
end
end Mine
namespace Mine
open PySem PySem.W PySem.Float64
section
theorem divN (a d : Nat) (hd : 0 < d) (ha : a ≤ 2 ^ 60) : PV.bin .Div (natP a) (natP d) = some (.flt (ofFrac false a d)) := by
  have e : PV.bin .Div (natP a) (natP d) = (if (d : Int) = 0 then none else if Float64.isInf (ofFrac (decide ((a : Int) < 0) != decide ((d : Int) < 0)) (a : Int).natAbs (d : Int).natAbs) = true then none else some (PV.flt (ofFrac (decide ((a : Int) < 0) != decide ((d : Int) < 0)) (a : Int).natAbs (d : Int).natAbs))) := rfl
  have ea : (decide ((a : Int) < 0) != decide ((d : Int) < 0)) = false := by rw [decide_eq_false (show ¬ (a : Int) < 0 by lia), decide_eq_false (show ¬ (d : Int) < 0 by lia)]; rfl
  rw [e, if_neg (by lia), ea, Int.natAbs_natCast, Int.natAbs_natCast, frac_fin hd ha, if_neg (by simp)]
theorem div48 (m : Nat) (h : m < 1000000) : PV.bin .Div (natP m) (.int 48) = some (.flt (ofFrac false m 48)) := divN m 48 (by decide) (by lia)
theorem Nm.nat {n : Nat} (h : n < 2 ^ 36) : Nm (natP n) ((n : Int) * 65536) := Nm.int (by omega)
theorem share4 {sh : Nat} (h : 1 ≤ sh ∧ sh ≤ 4) : ∃ s, PV.bin .Div (natP sh) (.int 4) = some s ∧ Nm s ((sh : Int) * 16384) := Nm.divE (Nm.nat (by lia)) (Nm.int (n := 4) (by decide)) (by lia) (by decide) (by lia) (by lia)
theorem afs {a1 a2 a3 a4 A b1 b2' b3 b4 B s1 s2 s3 s4 S : PV} (e1 : PV.bin .Add b1 a1 = some s1) (e2 : PV.bin .Add b2' a2 = some s2) (e3 : PV.bin .Add b3 a3 = some s3) (e4 : PV.bin .Add b4 a4 = some s4) (e5 : Φ_add_callers [A, B] = some S) :
    Φ_add_func_stats [.tup [a1, a2, a3, a4, A], .tup [b1, b2', b3, b4, B]] = some (.tup [s1, s2, s3, s4, S]) := by
  refine runF_ends rfl (Ends.step (unF_of (vv_of rfl) rfl) (Ends.step (unF_of (vv_of rfl) rfl) (Ends.last (retF_of (tup_of ?_)))))
  exact seq_cons (b2_eq (vv_of rfl) (vv_of rfl) e1) (seq_cons (b2_eq (vv_of rfl) (vv_of rfl) e2) (seq_cons (b2_eq (vv_of rfl) (vv_of rfl) e3) (seq_cons (b2_eq (vv_of rfl) (vv_of rfl) e4) (seq1 ((call2 (vv_of rfl) (vv_of rfl)).trans e5)))))
noncomputable def W (sh k b : Nat) (c : Int) (L : List (Nat × Nat)) : Int := (L.map fun e => (e.2 : Int) * (32 - (sh : Int) * tt (((8 * e.1 * k + b : Nat) : Int) - c))).sum
noncomputable def cnt (L : List (Nat × Nat)) : Nat := (L.map (·.2)).sum
noncomputable def tabM (k : Nat) (L : List (Nat × Nat)) : List (Nat × Nat × Nat) := L.foldl (fun t e => bump2 t (e.1 * k % 6) (e.2, 1)) []
theorem tabM_snoc (k : Nat) (L : List (Nat × Nat)) (e : Nat × Nat) : tabM k (L ++ [e]) = bump2 (tabM k L) (e.1 * k % 6) (e.2, 1) := by unfold tabM; rw [List.foldl_append]; rfl
theorem tabM_ok (k : Nat) (L : List (Nat × Nat)) : ((tabM k L).map (·.1)).Nodup ∧ (tabM k L).length ≤ L.length := by
  suffices h : ∀ (Y : List (Nat × Nat)) (t : List (Nat × Nat × Nat)), (t.map (·.1)).Nodup → ((Y.foldl (fun t e => bump2 t (e.1 * k % 6) (e.2, 1)) t).map (·.1)).Nodup ∧ (Y.foldl (fun t e => bump2 t (e.1 * k % 6) (e.2, 1)) t).length ≤ t.length + Y.length by
    have := h L [] .nil
    simpa [tabM] using this
  intro Y
  induction Y with
  | nil => intro t ht; exact ⟨ht, Nat.le_refl _⟩
  | cons y Y ih =>
    intro t ht
    refine k0_2 (insN_keys t (y.1 * k % 6) (((lookN t (y.1 * k % 6)).map fun o => ((y.2, 1).1 + o.1, (y.2, 1).2 + o.2)).getD (y.2, 1)) ht) fun h1 h2 => ?_
    refine k0_2 (ih (bump2 t (y.1 * k % 6) (y.2, 1)) h1) fun h3 h4 => ?_
    refine ⟨h3, ?_⟩
    rw [List.foldl_cons, List.length_cons]
    have : (bump2 t (y.1 * k % 6) (y.2, 1)).length ≤ t.length + 1 := h2
    lia
theorem W_snoc (sh k b : Nat) (c : Int) (L : List (Nat × Nat)) (e : Nat × Nat) : W sh k b c (L ++ [e]) = W sh k b c L + (e.2 : Int) * (32 - (sh : Int) * tt (((8 * e.1 * k + b : Nat) : Int) - c)) := by
  unfold W
  rw [List.map_append, List.sum_append]
  simp
theorem cnt_snoc (L : List (Nat × Nat)) (e : Nat × Nat) : cnt (L ++ [e]) = cnt L + e.2 := by unfold cnt; rw [List.map_append, List.sum_append]; simp
theorem one_le {sh : Nat} (h : sh ≤ 4) (x : Int) : 0 ≤ 32 - (sh : Int) * tt x ∧ 32 - (sh : Int) * tt x ≤ 32 := by
  have h1 := tt_le x
  have h2 : (sh : Int) * tt x ≤ 4 * 8 := Int.mul_le_mul (by lia) h1.2 h1.1 (by lia)
  have h3 : 0 ≤ (sh : Int) * tt x := Int.mul_nonneg (by lia) h1.1
  lia
theorem W_le {sh : Nat} (h : sh ≤ 4) (k b : Nat) (c : Int) : ∀ L : List (Nat × Nat), 0 ≤ W sh k b c L ∧ W sh k b c L ≤ 32 * (cnt L : Int)
  | [] => by simp [W, cnt]
  | e :: L => by
    have ih := W_le h k b c L
    have h1 := one_le h (((8 * e.1 * k + b : Nat) : Int) - c)
    have h2 : 0 ≤ (e.2 : Int) * (32 - (sh : Int) * tt (((8 * e.1 * k + b : Nat) : Int) - c)) := Int.mul_nonneg (by omega) h1.1
    have h3 : (e.2 : Int) * (32 - (sh : Int) * tt (((8 * e.1 * k + b : Nat) : Int) - c)) ≤ (e.2 : Int) * 32 := Int.mul_le_mul_of_nonneg_left h1.2 (by omega)
    have e1 : W sh k b c (e :: L) = (e.2 : Int) * (32 - (sh : Int) * tt (((8 * e.1 * k + b : Nat) : Int) - c)) + W sh k b c L := by unfold W; rw [List.map_cons, List.sum_cons]
    have e2 : (cnt (e :: L) : Int) = (e.2 : Int) + (cnt L : Int) := by unfold cnt; rw [List.map_cons, List.sum_cons]; omega
    omega
noncomputable def mixBody : Sig → Option (Fl × Sig) := seqF (setF 30 (callO Φ_hsv_to_rgb [(b2 .Div (b2 .Add (b2 .Mult (b2 .Mult (cc (.int 8)) (vv 2)) (vv 9)) (vv 15)) (cc (.int 48))), (b2 .Div (vv 14) (cc (.int 4))), (i2 (vv 22) (vv 2))])) (seqF (setF 28 (callO Φ_add_func_stats [(vv 28), (b2 .Add (vv 30) (tupO [(i2 (vv 22) (vv 2)), (dct1O (b2 .Mod (b2 .Mult (vv 2) (vv 9)) (cc (.int 6))) (tupO [(i2 (vv 22) (vv 2)), (cc (.int 1))]))]))])) nextF)
theorem add_nats (a b : Nat) : PV.bin .Add (natP a) (natP b) = some (natP (a + b)) := by unfold natP; rw [add_i]; rfl
theorem mul8 (a : Nat) : PV.bin .Mult (.int 8) (natP a) = some (natP (8 * a)) := by
  unfold natP
  rw [mul_i _ _ (.inl (by decide))]
  rfl
structure Mx (sh k b : Nat) (L : List (Nat × Nat)) (p : PV) : Prop where
  ex : ∃ R G B, p = .tup [R, G, B, natP (cnt L), .dct (esN prP (tabM k L))] ∧ Nm R (W sh k b 0 L * 2048) ∧ Nm G (W sh k b 16 L * 2048) ∧ Nm B (W sh k b 32 L * 2048)
noncomputable def MixOk (sh k b : Nat) (L : List (Nat × Nat)) (e : Nat × Nat) (σ : Sig) : Prop := ∃ q l, mixBody σ = some (.next, (σ.set 30 l).set 28 (.pv q)) ∧ Mx sh k b (L ++ [e]) q
theorem mix_add {sh : Nat} (hs : sh ≤ 4) (k b : Nat) (L : List (Nat × Nat)) (e : Nat × Nat) (hc : cnt L + e.2 ≤ 1000) (c : Int) {x X : PV} (nx : Nm x ((e.2 : Int) * (32 - (sh : Int) * tt (((8 * e.1 * k + b : Nat) : Int) - c)) * 2048)) (nX : Nm X (W sh k b c L * 2048)) : ∃ y, PV.bin .Add x X = some y ∧ Nm y (W sh k b c (L ++ [e]) * 2048) := by
  have h2 := W_le hs k b c (L ++ [e])
  have he : (e.2 : Int) * (32 - (sh : Int) * tt (((8 * e.1 * k + b : Nat) : Int) - c)) * 2048 + W sh k b c L * 2048 = W sh k b c (L ++ [e]) * 2048 := by rw [W_snoc, Int.add_comm, ← Int.add_mul]
  rw [cnt_snoc] at h2
  have := nx.add nX (by rw [he]; clear nx nX he; lia)
  rwa [he] at this
theorem mix_step {sh k b : Nat} (hs : 1 ≤ sh ∧ sh ≤ 4) (hk : k < 6) (hb : b < 48) (L : List (Nat × Nat)) (e : Nat × Nat) (hp : e.1 < 6) (hc : cnt L + e.2 ≤ 1000) (hL : L.length ≤ 100) {p : PV} (m : Mx sh k b L p) {σ : Sig} {bk : List (Nat × Nat)} (hl : lookN bk e.1 = some e.2)
    (v2 : σ 2 = some (.pv (natP e.1))) (v9 : σ 9 = some (.pv (natP k))) (v14 : σ 14 = some (.pv (natP sh))) (v15 : σ 15 = some (.pv (natP b))) (v22 : σ 22 = some (.pv (.dct (esN natP bk)))) (v28 : σ 28 = some (.pv p)) : MixOk sh k b L e σ := by
  (refine k3_4 m.ex fun R G B ž4 => ?_; subst ž4; intro nR nG nB)
  have hm : 8 * e.1 * k + b < 248 := by
    have : 8 * e.1 * k ≤ 40 * 5 := Nat.mul_le_mul (by lia) (by lia)
    clear nR nG nB; lia
  refine k1_2 (share4 hs) fun s es ns => ?_
  refine k3_4 (hsv_law hm (share := (sh : Int)) (by clear nR nG nB ns; lia) (v := (e.2 : Int)) (by clear nR nG nB ns; lia) ns) fun r g l ehsv nr ng nl => ?_
  have e2 := vv_of v2
  have e9 := vv_of v9
  have e22 := vv_of v22
  have ei : itemO (.dct (esN natP bk)) (natP e.1) = some (natP e.2) := by
    show lookD (esN natP bk) (.i (e.1 : Int)) = _
    rw [lookD_es, hl]; rfl
  have ek : b2 .Mult (vv 2) (vv 9) σ = some (natP (e.1 * k)) := b2_eq e2 e9 (mul_nat e.1 k (by clear nR nG nB ns nr ng nl; lia))
  have eh : callO Φ_hsv_to_rgb [(b2 .Div (b2 .Add (b2 .Mult (b2 .Mult (cc (.int 8)) (vv 2)) (vv 9)) (vv 15)) (cc (.int 48))), (b2 .Div (vv 14) (cc (.int 4))), (i2 (vv 22) (vv 2))] σ = some (.tup [r, g, l]) :=
    (call3 (b2_eq (b2_eq (b2_eq (b2_eq rfl e2 (mul8 e.1)) e9 (mul_nat (8 * e.1) k (by clear nR nG nB ns nr ng nl; lia))) (vv_of v15) (add_nats (8 * e.1 * k) b)) rfl (div48 (8 * e.1 * k + b) (by clear nR nG nB ns nr ng nl; lia))) (b2_eq (vv_of v14) rfl es) ((i2_of e22 e2).trans ei)).trans ehsv
  have w2 : vv 2 (σ.set 30 (.pv (.tup [r, g, l]))) = some (natP e.1) := vv_of v2
  have w22 : vv 22 (σ.set 30 (.pv (.tup [r, g, l]))) = some (.dct (esN natP bk)) := vv_of v22
  have bd : dct1O (b2 .Mod (b2 .Mult (vv 2) (vv 9)) (cc (.int 6))) (tupO [(i2 (vv 22) (vv 2)), (cc (.int 1))]) (σ.set 30 (.pv (.tup [r, g, l]))) = some (.dct [(.i ((e.1 * k % 6 : Nat) : Int), prP (e.2, 1))]) := by
    have h1 : b2 .Mod (b2 .Mult (vv 2) (vv 9)) (cc (.int 6)) (σ.set 30 (.pv (.tup [r, g, l]))) = some (natP (e.1 * k % 6)) := b2_eq ek rfl (mod6_nat _)
    have h2 := tup2 ((i2_of w22 w2).trans ei) (show cc (.int 1) (σ.set 30 (.pv (.tup [r, g, l]))) = some (.int 1) from rfl)
    unfold dct1O
    rw [h1, Option.bind_some, h2]; rfl
  have w28 : vv 28 (σ.set 30 (.pv (.tup [r, g, l]))) = some (.tup [R, G, B, natP (cnt L), .dct (esN prP (tabM k L))]) := vv_of v28
  have esrc : b2 .Add (vv 30) (tupO [(i2 (vv 22) (vv 2)), (dct1O (b2 .Mod (b2 .Mult (vv 2) (vv 9)) (cc (.int 6))) (tupO [(i2 (vv 22) (vv 2)), (cc (.int 1))]))]) (σ.set 30 (.pv (.tup [r, g, l]))) = some (.tup [r, g, l, natP e.2, .dct [(.i ((e.1 * k % 6 : Nat) : Int), prP (e.2, 1))]]) :=
    (b2_of (vv_of rfl) (tup2 ((i2_of w22 w2).trans ei) bd)).trans rfl
  refine k0_2 (tabM_ok k L) fun t1 t2 => ?_
  have ec := add_pair (tabM k L) t1 (Nat.le_trans t2 (Nat.le_trans hL (by decide))) (e.1 * k % 6) (e.2, 1)
  rw [← tabM_snoc] at ec
  refine k1_2 (mix_add hs.2 k b L e hc 0 (by rw [Int.sub_zero]; exact nr) nR) fun R' eR nR' => ?_
  refine k1_2 (mix_add hs.2 k b L e hc 16 ng nG) fun G' eG nG' => ?_
  refine k1_2 (mix_add hs.2 k b L e hc 32 nl nB) fun B' eB nB' => ?_
  have eN := add_nats e.2 (cnt L)
  rw [Nat.add_comm, ← cnt_snoc] at eN
  exact ⟨_, .pv (.tup [r, g, l]), seq_to (setF_of eh) (seq_to (setF_of ((call2 w28 esrc).trans (afs eR eG eB eN ec))) rfl), R', G', B', rfl, nR', nG', nB'⟩
end
section
theorem lookN_mem {β : Type} : ∀ {t : List (Nat × β)}, (t.map (·.1)).Nodup → ∀ e ∈ t, lookN t e.1 = some e.2
  | x :: t, hn, e, he => by
    rw [List.map_cons, List.nodup_cons] at hn
    unfold lookN
    rw [List.find?_cons]
    rcases List.mem_cons.mp he with rfl | h
    · rw [decide_eq_true rfl]; rfl
    · have : x.1 ≠ e.1 := fun q => hn.1 (q ▸ List.mem_map_of_mem h)
      rw [decide_eq_false this]
      exact lookN_mem hn.2 e h
theorem mix_loop {sh k b : Nat} (hs : 1 ≤ sh ∧ sh ≤ 4) (hk : k < 6) (hb : b < 48) (bk : List (Nat × Nat)) (hn : (bk.map (·.1)).Nodup) (h6 : ∀ e ∈ bk, e.1 < 6) (hc : cnt bk ≤ 1000) (hl : bk.length ≤ 100) {σ : Sig}
    (v9 : σ 9 = some (.pv (natP k))) (v14 : σ 14 = some (.pv (natP sh))) (v15 : σ 15 = some (.pv (natP b))) (v22 : σ 22 = some (.pv (.dct (esN natP bk)))) {p : PV} (v28 : σ 28 = some (.pv p)) (hp : Mx sh k b [] p) :
    ∃ τ q, loopF (itF (vv 22)) (setK 2) mixBody σ = some (.next, τ) ∧ Kp [2, 28, 30] σ τ ∧ τ 28 = some (.pv q) ∧ Mx sh k b bk q := by
  obtain ⟨τ, h1, h2, q, h3, h4⟩ := forF_inv (k := setK 2) (F := mixBody) bk (fun e => natP e.1) (fun done τ => Kp [2, 28, 30] σ τ ∧ ∃ q, τ 28 = some (.pv q) ∧ Mx sh k b done q) (fun done x rest τ e hI => by
    obtain ⟨g0, q, g28, gm⟩ := hI
    have hx : x ∈ bk := by rw [e]; simp
    have hcl : cnt done + x.2 ≤ cnt bk := by
      have : cnt bk = cnt done + (x.2 + cnt rest) := by rw [e]; unfold cnt; rw [List.map_append, List.sum_append, List.map_cons, List.sum_cons]
      lia
    have hdl : done.length ≤ 100 := by rw [e] at hl; simp at hl; lia
    generalize hρ : τ.set 2 (.pv (natP x.1)) = ρ
    have kρ : Kp [2, 28, 30] σ ρ := by rw [← hρ]; exact g0.set (by decide) _
    refine k2_2 (mix_step (bk := bk) hs hk hb done x (h6 x hx) (by lia) hdl gm (σ := ρ) (lookN_mem hn x hx) (by rw [← hρ]; rfl) (by rw [kρ 9 (by decide)]; exact v9) (by rw [kρ 14 (by decide)]; exact v14) (by rw [kρ 15 (by decide)]; exact v15) (by rw [kρ 22 (by decide)]; exact v22) (by rw [← hρ]; exact g28)) fun q' l hF hm => ?_
    exact ⟨ρ, _, by rw [← hρ]; rfl, hF, (kρ.set (by decide) _).set (by decide) _, q', rfl, hm⟩) (σ := σ) ⟨Kp.refl _ _, p, v28, hp⟩
  refine ⟨τ, q, ?_, h2, h3, h4⟩
  refine loopF_of ?_ h1
  unfold itF vv
  rw [v22]
  show some ((esN natP bk).map fun e => e.1.pv) = _
  unfold esN
  rw [List.map_map]
  rfl
theorem mx_start (sh k b : Nat) : Mx sh k b [] (.tup [.int 0, .int 0, .int 0, .int 0, .dct []]) := by
  have z : Nm (.int 0) (0 * 2048) := by rw [Int.zero_mul]; exact Nm.int (n := 0) (by decide)
  exact ⟨.int 0, .int 0, .int 0, rfl, z, z, z⟩
theorem max2 (a b : Int) : maxΦ [.int a, .int b] = some (.int (max a b)) := by
  rw [show maxΦ [.int a, .int b] = if numP (.int a) ∧ numP (.int b) then bestMax [.int a, .int b] else none from rfl, if_pos ⟨rfl, rfl⟩]
  unfold bestMax
  simp only [List.length_cons, List.length_nil, Nat.reduceAdd, Nat.reduceSub, argBest, List.getD_cons_zero, List.getD_cons_succ]
  have e : ltP (.int a) (.int b) = decide (a < b) := rfl
  rw [e]
  by_cases q : a < b
  · rw [decide_eq_true q, if_pos rfl, show max a b = b by omega]; rfl
  · rw [decide_eq_false q, if_neg (by simp), show max a b = a by omega]; rfl
theorem min2 (a b : Int) : minΦ [.int a, .int b] = some (.int (min a b)) := by
  rw [show minΦ [.int a, .int b] = if numP (.int a) ∧ numP (.int b) then bestMin [.int a, .int b] else none from rfl, if_pos ⟨rfl, rfl⟩]
  unfold bestMin
  simp only [List.length_cons, List.length_nil, Nat.reduceAdd, Nat.reduceSub, argBest, List.getD_cons_zero, List.getD_cons_succ]
  have e : ltP (.int b) (.int a) = decide (b < a) := rfl
  rw [e]
  by_cases q : b < a
  · rw [decide_eq_true q, if_pos rfl, show min a b = b by lia]; rfl
  · rw [decide_eq_false q, if_neg (by simp), show min a b = a by lia]; rfl
theorem law_part (x : Int) (sh : Nat) (h : sh ≤ 4) : Φ_law_part [.int x, natP sh] = some (.int (32 - (sh : Int) * tt x)) := by
  have a2 : PV.bin .Mod (.int (x + 24)) (.int 48) = some (.int ((x + 24) % 48)) := by rw [fmd _ _ (by decide), Int.fmod_eq_emod_of_nonneg _ (by decide)]
  have a4 : absΦ [.int ((x + 24) % 48 - 24)] = some (.int (((x + 24) % 48 - 24).natAbs : Int)) := by
    show some (PV.int (if (x + 24) % 48 - 24 < 0 then -((x + 24) % 48 - 24) else (x + 24) % 48 - 24)) = _
    congr 2
    generalize (x + 24) % 48 - 24 = y
    split <;> omega
  have a8 : PV.bin .Mult (natP sh) (.int (min (max ((((x + 24) % 48 - 24).natAbs : Int) - 8) 0) 8)) = some (.int ((sh : Int) * tt x)) := by
    unfold natP; rw [mul_i _ _ (.inl (by omega))]; rfl
  have cI : ∀ n : Int, cc (.int n) (argSig [.int x, natP sh]) = some (.int n) := fun ž1 => rfl
  have v0 : vv 0 (argSig [.int x, natP sh]) = some (.int x) := rfl
  have e1 := (call1 (Φ := absΦ) (b2_eq (op := .Sub) (b2_eq (op := .Mod) (b2_eq (op := .Add) v0 (cI 24) (add_i _ _)) (cI 48) a2) (cI 24) (sub_i _ _))).trans a4
  have e2 := (call2 (Φ := minΦ) ((call2 (Φ := maxΦ) (b2_eq (op := .Sub) e1 (cI 8) (sub_i _ _)) (cI 0)).trans (max2 _ _)) (cI 8)).trans (min2 _ _)
  exact runF_ends rfl (Ends.last (retF_of (b2_eq (cI 32) (b2_eq (vv_of rfl) e2 a8) (sub_i _ _))))
noncomputable def HW (sh k b : Nat) (c : Int) (D : List Nat) : Int := ((List.range 6).map fun p => (D.getD p 0 : Int) * (32 - (sh : Int) * tt (((8 * p * k + b : Nat) : Int) - c))).sum
theorem sum_ints : ∀ l : List Int, sumΦ [.lst (l.map PV.int)] = some (.int l.sum)
  | [] => rfl
  | a :: l => by
    have ih := sum_ints l
    have e1 : (sumI (l.map PV.int)).map PV.int = some (.int l.sum) := ih
    show (sumI (.int a :: l.map PV.int)).map PV.int = _
    refine k1_2 (Option.map_eq_some_iff.mp e1) fun m hm hm2 => ?_
    have : m = l.sum := by injection hm2
    subst this
    show ((sumI (l.map PV.int)).map _).map _ = _
    rw [hm, List.sum_cons]
    rfl
noncomputable def highE : Sig → Option PV := callO maxΦ [(compO .lst (setK 37) [37] yesT (oneO (callO sumΦ [(compO .lst (setK 39) [39] yesT (oneO (b2 .Mult (i2 (vv 27) (vv 39)) (callO Φ_law_part [(b2 .Sub (b2 .Add (b2 .Mult (b2 .Mult (cc (.int 8)) (vv 39)) (vv 9)) (vv 15)) (vv 37)), (vv 14)]))) 38 (itF (callO rangeΦ [(cc (.int 6))])))])) 36 (itF (tupO [(cc (.int 0)), (cc (.int 16)), (cc (.int 32))])))]
theorem max_three (a b c : Int) : maxΦ [.lst [.int a, .int b, .int c]] = some (.int (max (max a b) c)) := by
  rw [show maxΦ [.lst [.int a, .int b, .int c]] = if ([.int a, .int b, .int c] : List PV).all numP ∧ ([.int a, .int b, .int c] : List PV) ≠ [] then bestMax [.int a, .int b, .int c] else none from rfl, if_pos ⟨rfl, by simp⟩]
  unfold bestMax
  have e : ∀ a b : Int, ltP (.int a) (.int b) = decide (a < b) := fun ž1 ž2 => rfl
  simp only [List.length_cons, List.length_nil, Nat.reduceAdd, Nat.reduceSub, argBest, List.getD_cons_zero, List.getD_cons_succ, e]
  by_cases c1 : a < b
  · simp only [c1, decide_true, if_true, List.getD_cons_zero, List.getD_cons_succ, e]
    by_cases c2' : b < c
    · simp only [c2', decide_true, if_true]; rw [show max (max a b) c = c by lia]; rfl
    · simp only [c2', decide_false, Bool.false_eq_true, if_false]; rw [show max (max a b) c = b by lia]; rfl
  · simp only [c1, decide_false, Bool.false_eq_true, if_false, List.getD_cons_zero, List.getD_cons_succ, e]
    by_cases c2' : a < c
    · simp only [c2', decide_true, if_true]; rw [show max (max a b) c = c by lia]; rfl
    · simp only [c2', decide_false, Bool.false_eq_true, if_false]; rw [show max (max a b) c = a by lia]; rfl
theorem high_ok {sh k b : Nat} (hs : sh ≤ 4) (hk : k < 6) (D : List Nat) (hD : D.length = 6) {σ : Sig} (v9 : σ 9 = some (.pv (natP k))) (v14 : σ 14 = some (.pv (natP sh))) (v15 : σ 15 = some (.pv (natP b))) (v27 : σ 27 = some (.pv (.lst (D.map natP)))) :
    highE σ = some (.int (max (max (HW sh k b 0 D) (HW sh k b 16 D)) (HW sh k b 32 D))) := by
  have e1 : (compO .lst (setK 37) [37] yesT (oneO (callO sumΦ [(compO .lst (setK 39) [39] yesT (oneO (b2 .Mult (i2 (vv 27) (vv 39)) (callO Φ_law_part [(b2 .Sub (b2 .Add (b2 .Mult (b2 .Mult (cc (.int 8)) (vv 39)) (vv 9)) (vv 15)) (vv 37)), (vv 14)]))) 38 (itF (callO rangeΦ [(cc (.int 6))])))])) 36 (itF (tupO [(cc (.int 0)), (cc (.int 16)), (cc (.int 32))]))) σ = some (.lst (([0, 16, 32] : List Int).map fun c => .int (HW sh k b c D))) := by
    refine comp_map PV.int (fun c => .int (HW sh k b c D)) [0, 16, 32] rfl (by decide) fun c ž1 => ?_
    refine ⟨_, rfl, ?_⟩
    generalize hρ : ((σ.below 36).clear [37]).set 37 (.pv (.int c)) = ρ
    have w37 : ρ 37 = some (.pv (.int c)) := by rw [← hρ]; rfl
    have w9 : ρ 9 = some (.pv (natP k)) := by rw [← hρ]; exact v9
    have w14 : ρ 14 = some (.pv (natP sh)) := by rw [← hρ]; exact v14
    have w15 : ρ 15 = some (.pv (natP b)) := by rw [← hρ]; exact v15
    have w27 : ρ 27 = some (.pv (.lst (D.map natP))) := by rw [← hρ]; exact v27
    have e2 : (compO .lst (setK 39) [39] yesT (oneO (b2 .Mult (i2 (vv 27) (vv 39)) (callO Φ_law_part [(b2 .Sub (b2 .Add (b2 .Mult (b2 .Mult (cc (.int 8)) (vv 39)) (vv 9)) (vv 15)) (vv 37)), (vv 14)]))) 38 (itF (callO rangeΦ [(cc (.int 6))]))) ρ = some (.lst (((List.range 6).map fun p => (D.getD p 0 : Int) * (32 - (sh : Int) * tt (((8 * p * k + b : Nat) : Int) - c))).map PV.int)) := by
      rw [List.map_map]
      refine comp_map natP (PV.int ∘ fun p => (D.getD p 0 : Int) * (32 - (sh : Int) * tt (((8 * p * k + b : Nat) : Int) - c))) (List.range 6) (r6 ρ) (by decide) fun p hp => ?_
      have hp6 : p < 6 := List.mem_range.mp hp
      refine ⟨_, rfl, ?_⟩
      generalize hω : ((ρ.below 38).clear [39]).set 39 (.pv (natP p)) = ω
      have x39 : vv 39 ω = some (natP p) := by rw [← hω]; rfl
      have x37 : vv 37 ω = some (.int c) := vv_of (by rw [← hω]; exact w37)
      have x9 : vv 9 ω = some (natP k) := vv_of (by rw [← hω]; exact w9)
      have x14 : vv 14 ω = some (natP sh) := vv_of (by rw [← hω]; exact w14)
      have x15 : vv 15 ω = some (natP b) := vv_of (by rw [← hω]; exact w15)
      have x27 : vv 27 ω = some (.lst (D.map natP)) := vv_of (by rw [← hω]; exact w27)
      have a1 := mul8 p
      have a2 := mul_nat (8 * p) k (by omega)
      have a3 := add_nats (8 * p * k) b
      have a4 : PV.bin .Sub (natP (8 * p * k + b)) (.int c) = some (.int (((8 * p * k + b : Nat) : Int) - c)) := rfl
      have a5 := law_part (((8 * p * k + b : Nat) : Int) - c) sh hs
      have a6 := item_nat D (k := p) (by omega) (by omega)
      have a7 : PV.bin .Mult (natP (D.getD p 0)) (.int (32 - (sh : Int) * tt (((8 * p * k + b : Nat) : Int) - c))) = some (.int ((D.getD p 0 : Int) * (32 - (sh : Int) * tt (((8 * p * k + b : Nat) : Int) - c)))) := by
        have := one_le hs (((8 * p * k + b : Nat) : Int) - c)
        unfold natP; rw [mul_i _ _ (.inr (by omega))]
      simp (config := {decide := true, implicitDefEqProofs := false}) only [b2, i2, callO, seqO, cc, x39, x37, x9, x14, x15, x27, a1, a2, a3, a4, a5, a6, a7, Option.bind_some]
      rfl
    rw [call1 e2, sum_ints]
    rfl
  unfold highE
  rw [call1 e1]
  exact max_three _ _ _
end
section
noncomputable def metL (k : Nat) (D : List Nat) (e : Nat) : List Nat := ((List.range 6).filter fun p => decide (p * k % 6 = e) && decide (0 < D.getD p 0)).map fun p => D.getD p 0
noncomputable def rhsL (k : Nat) (D : List Nat) : List (Nat × Nat × Nat) := ((List.range 6).filter fun e => !decide (metL k D e = [])).map fun e => (e, ((metL k D e).sum, (metL k D e).length))
noncomputable def fixM (T : List Nat) (k : Nat) : Nat := (([1, 2, 3, 6].filter fun z => decide (k * z % 6 = 0)).map fun z => T.count z).sum
noncomputable def metE : Sig → Option PV := compO .lst (setK 37) [37] yesT (oneO (compO .lst (setK 39) [39] (andO (c2 .Eq (b2 .Mod (b2 .Mult (vv 39) (vv 9)) (cc (.int 6))) (vv 37)) (c2 .Gt (i2 (vv 27) (vv 39)) (cc (.int 0)))) (oneO (i2 (vv 27) (vv 39))) 38 (itF (callO rangeΦ [(cc (.int 6))])))) 36 (itF (callO rangeΦ [(cc (.int 6))]))
noncomputable def rhsE : Sig → Option PV := compO dctP (setK 37) [37] (c2 .NotEq (i2 (vv 29) (vv 37)) (lstO [])) (kvO (vv 37) (tupO [(callO sumΦ [(i2 (vv 29) (vv 37))]), (callO lenΦ [(i2 (vv 29) (vv 37))])])) 36 (itF (callO rangeΦ [(cc (.int 6))]))
noncomputable def stillE : Sig → Option PV := b2 .Mult (b2 .Mult (cc (.int 8)) (vv 14)) (callO sumΦ [(compO .lst (setK 37) [37] (c2 .Eq (b2 .Mod (b2 .Mult (vv 9) (vv 37)) (cc (.int 6))) (cc (.int 0))) (oneO (methO "list" lcntΦ (vv 26) [(vv 37)])) 36 (itF (tupO [(cc (.int 1)), (cc (.int 2)), (cc (.int 3)), (cc (.int 6))])))])
theorem eq_nat (a b : Nat) : cmpO .Eq (natP a) (natP b) = some (decide (a = b)) := by
  unfold natP; rw [eq_int]; congr 1; apply decide_eq_decide.mpr; lia
theorem item_f {α : Type} (g : α → PV) (l : List α) {k : Nat} {a : α} (h : l[k]? = some a) (hz : k < 1000) : itemO (.lst (l.map g)) (natP k) = some (g a) := by
  have hl := (List.getElem?_eq_some_iff.mp h).1
  show (if smallI (k : Int) = true then (seqIndex? (k : Int) (l.map g).length).bind ((l.map g)[·]?) else none) = _
  rw [if_pos (by unfold smallI; simp only [Bool.and_eq_true, decide_eq_true_eq]; lia)]
  have e : seqIndex? (k : Int) (l.map g).length = some k := by
    unfold seqIndex?
    rw [List.length_map]
    simp
    lia
  rw [e, Option.bind_some, List.getElem?_map, h]
  rfl
noncomputable def metP (k : Nat) (D : List Nat) : PV := .lst ((List.range 6).map fun e => .lst ((metL k D e).map natP))
theorem met_ok {k : Nat} (hk : k < 6) (D : List Nat) (hD : D.length = 6) {σ : Sig} (v9 : σ 9 = some (.pv (natP k))) (v27 : σ 27 = some (.pv (.lst (D.map natP)))) : metE σ = some (metP k D) := by
  refine comp_map natP (fun e => .lst ((metL k D e).map natP)) (List.range 6) (r6 σ) (by decide) fun e he => ?_
  refine ⟨_, rfl, ?_⟩
  generalize hρ : ((σ.below 36).clear [37]).set 37 (.pv (natP e)) = ρ
  have w37 : ρ 37 = some (.pv (natP e)) := by rw [← hρ]; rfl
  have w9 : ρ 9 = some (.pv (natP k)) := by rw [← hρ]; exact v9
  have w27 : ρ 27 = some (.pv (.lst (D.map natP))) := by rw [← hρ]; exact v27
  unfold metL
  rw [List.map_map]
  refine comp_filt natP (fun p => decide (p * k % 6 = e) && decide (0 < D.getD p 0)) (natP ∘ fun p => D.getD p 0) (List.range 6) (r6 ρ) (by decide) fun p hp => ?_
  have hp6 : p < 6 := List.mem_range.mp hp
  refine ⟨_, rfl, ?_⟩
  generalize hω : ((ρ.below 38).clear [39]).set 39 (.pv (natP p)) = ω
  have x39 : vv 39 ω = some (natP p) := by rw [← hω]; rfl
  have x37 : vv 37 ω = some (natP e) := vv_of (by rw [← hω]; exact w37)
  have x9 : vv 9 ω = some (natP k) := vv_of (by rw [← hω]; exact w9)
  have x27 : vv 27 ω = some (.lst (D.map natP)) := vv_of (by rw [← hω]; exact w27)
  have a1 := mul_nat p k (by lia)
  have a2 := mod6_nat (p * k)
  have a3 := eq_nat (p * k % 6) e
  have a4 := item_nat D (k := p) (by lia) (by lia)
  have a5 := gt0_nat (D.getD p 0)
  have ei : i2 (vv 27) (vv 39) ω = some (natP (D.getD p 0)) := (i2_of x27 x39).trans a4
  refine ⟨?_, fun ž1 => ei⟩
  have t1 : c2 .Eq (b2 .Mod (b2 .Mult (vv 39) (vv 9)) (cc (.int 6))) (vv 37) ω = some (decide (p * k % 6 = e)) := by
    have m1 : b2 .Mult (vv 39) (vv 9) ω = some (natP (p * k)) := (b2_of x39 x9).trans a1
    have m2 : b2 .Mod (b2 .Mult (vv 39) (vv 9)) (cc (.int 6)) ω = some (natP (p * k % 6)) := (b2_of m1 rfl).trans a2
    exact (c2_of m2 x37).trans a3
  have t2 : c2 .Gt (i2 (vv 27) (vv 39)) (cc (.int 0)) ω = some (decide (0 < D.getD p 0)) := (c2_of ei rfl).trans a5
  unfold andO
  rw [t1, Option.bind_some, t2]
  cases decide (p * k % 6 = e) <;> rfl
theorem ne_nil (l : List Nat) : cmpO .NotEq (.lst (l.map natP)) (.lst []) = some (!decide (l = [])) := by
  cases l with
  | nil => rfl
  | cons a l =>
    have : decide (a :: l = []) = false := by simp
    rw [this]
    rfl
theorem len_nat (l : List Nat) (h : l.length ≤ 1000) : lenΦ [.lst (l.map natP)] = some (natP l.length) := by
  show (if (l.map natP).length < 2 ^ 60 then some (PV.int ((l.map natP).length : Nat)) else none) = _
  rw [List.length_map, if_pos (by lia)]
  rfl
theorem metL_len (k : Nat) (D : List Nat) (e : Nat) : (metL k D e).length ≤ 6 := by
  unfold metL
  rw [List.length_map]
  exact Nat.le_trans (List.length_filter_le _ _) (by simp)
theorem rhs_ok {k : Nat} (D : List Nat) {σ : Sig} (v29 : σ 29 = some (.pv (metP k D))) : rhsE σ = some (.dct (esN prP (rhsL k D))) := by
  refine comp_dct prP (fun e => !decide (metL k D e = [])) (fun e => ((metL k D e).sum, (metL k D e).length)) (List.range 6) List.nodup_range (r6 σ) (by decide) fun e he => ?_
  have he6 : e < 6 := List.mem_range.mp he
  generalize hρ : ((σ.below 36).clear [37]).set 37 (.pv (natP e)) = ρ
  have e37 : vv 37 ρ = some (natP e) := by rw [← hρ]; rfl
  have e29 : vv 29 ρ = some (metP k D) := vv_of (by rw [← hρ]; exact v29)
  have ei : i2 (vv 29) (vv 37) ρ = some (.lst ((metL k D e).map natP)) := (i2_of e29 e37).trans (item_f (fun e => .lst ((metL k D e).map natP)) (List.range 6) (k := e) (a := e) (by rw [List.getElem?_range he6]) (by lia))
  refine ⟨(c2_of ei rfl).trans (ne_nil _), fun ž1 => ⟨e37, ?_⟩⟩
  exact tup2 ((call1 ei).trans (sum_nat _)) ((call1 ei).trans (len_nat _ (by have := metL_len k D e; lia)))
theorem still_ok {sh k : Nat} (T : List Nat) {σ : Sig} (hT : fixM T k < 1000000) (v9 : σ 9 = some (.pv (natP k))) (v14 : σ 14 = some (.pv (natP sh))) (v26 : σ 26 = some (.pv (.lst (T.map natP)))) : stillE σ = some (natP (8 * sh * fixM T k)) := by
  have e9 : vv 9 σ = some (natP k) := vv_of v9
  have e14 : vv 14 σ = some (natP sh) := vv_of v14
  have ec : compO .lst (setK 37) [37] (c2 .Eq (b2 .Mod (b2 .Mult (vv 9) (vv 37)) (cc (.int 6))) (cc (.int 0))) (oneO (methO "list" lcntΦ (vv 26) [(vv 37)])) 36 (itF (tupO [(cc (.int 1)), (cc (.int 2)), (cc (.int 3)), (cc (.int 6))])) σ = some (.lst ((([1, 2, 3, 6].filter fun z => decide (k * z % 6 = 0)).map fun z => T.count z).map natP)) := by
    rw [List.map_map]
    refine comp_filt natP (fun z => decide (k * z % 6 = 0)) (natP ∘ fun z => T.count z) [1, 2, 3, 6] (it1236 σ) (by decide) fun z hz => ?_
    have hz6 : z ≤ 6 := by simp at hz; lia
    refine ⟨_, rfl, ?_⟩
    generalize hρ : ((σ.below 36).clear [37]).set 37 (.pv (natP z)) = ρ
    have w37 : ρ 37 = some (.pv (natP z)) := by rw [← hρ]; rfl
    have x9 : vv 9 ρ = some (natP k) := vv_of (by rw [← hρ]; exact v9)
    have w26 : ρ 26 = some (.pv (.lst (T.map natP))) := by rw [← hρ]; exact v26
    have m1 : b2 .Mult (vv 9) (vv 37) ρ = some (natP (k * z)) := (b2_of x9 (vv_of w37)).trans (mul_nat k z (by lia))
    have m2 : b2 .Mod (b2 .Mult (vv 9) (vv 37)) (cc (.int 6)) ρ = some (natP (k * z % 6)) := (b2_of m1 rfl).trans (mod6_nat _)
    exact ⟨(c2_of m2 rfl).trans (eq0_nat _), fun ž1 => count_nat T z w26 w37⟩
  have es := (call1 (Φ := sumΦ) ec).trans (sum_nat _)
  have e8 : b2 .Mult (cc (.int 8)) (vv 14) σ = some (natP (8 * sh)) := (b2_of rfl e14).trans (mul8 sh)
  exact (b2_of e8 es).trans (mul_nat _ _ hT)
end
section
theorem eq_self {n d : Nat} (hd : 0 < d) (hn : n ≤ 2 ^ 60) (k : Nat) : eqq k (.flt (ofFrac false n d)) (.flt (ofFrac false n d)) = some true := by
  have h := frac_fin hd hn
  obtain ⟨x, hx⟩ : ∃ x, x = ofFrac false n d := ⟨_, rfl⟩
  rw [← hx] at h ⊢
  have hlt : roundMag n d < infMag := by
    refine Nat.lt_of_le_of_ne (by rw [roundMag_min]; exact Nat.min_le_left _ _) fun e => ?_
    have : x = inf false := by rw [hx]; unfold ofFrac; rw [e]; rfl
    rw [this] at h
    exact absurd h (by decide +kernel)
  refine k2_2 (decode_pack false hlt) fun m e hd' _ => ?_
  have hdx : decode x = .fin false m e := by rw [hx]; unfold ofFrac; exact hd'
  have hnan : Float64.isNaN x = false := by unfold Float64.isNaN; rw [hdx]
  rw [eqq_ff, hnan, if_neg (by simp), cmp_right hdx hdx]
  simp
theorem eq3 {n : Nat} {a b c a' b' c' : PV} (h1 : eqq n a a' = some true) (h2 : eqq n b b' = some true) (h3 : eqq n c c' = some true) : eqq (n + 1) (.tup [a, b, c]) (.tup [a', b', c']) = some true := by
  refine (eqq_tup_def n _ _).trans ((if_pos rfl).trans ?_)
  show allO [eqq n a a', eqq n b b', eqq n c c'] = _
  rw [h1, h2, h3]; rfl
theorem eq2 {n : Nat} {a b a' b' : PV} (h1 : eqq n a a' = some true) (h2 : eqq n b b' = some true) : eqq (n + 1) (.tup [a, b]) (.tup [a', b']) = some true := by
  refine (eqq_tup_def n _ _).trans ((if_pos rfl).trans ?_)
  show allO [eqq n a a', eqq n b b'] = _
  rw [h1, h2]; rfl
theorem Nm.self {p q : PV} {w : Int} (h : Nm p w) (k : Nm q w) (n : Nat) : eqq n p q = some true := by rw [h.eq n k, decide_eq_true rfl]
theorem Nm.frac {n d : Nat} {w : Int} (hd : 0 < d) (h0 : 0 ≤ w) (hw : (n : Int) * 65536 = w * d) (hb : w.natAbs < 2 ^ 52) : Nm (.flt (ofFrac false n d)) w :=
  Nm.flt (Is.ofFrac hd h0 (by
    have := congrArg Int.natAbs hw
    rw [Int.natAbs_mul, Int.natAbs_mul, Int.natAbs_natCast, Int.natAbs_natCast] at this
    exact this) (by omega)) hb
theorem div_128 {high A : Nat} (h8 : 8 * A ≤ high) (hh : high ≤ 2880) {X : PV} {t : Int} (ht : 0 ≤ t ∧ t ≤ 8) (hX : Nm X ((high : Int) * 2048 - (A : Int) * 2048 * t)) : ∃ Y, PV.bin .Div X (.int 128) = some Y ∧ Nm Y ((high : Int) * 16 - (A : Int) * 16 * t) := by
  have h1 : (A : Int) * t ≤ (A : Int) * 8 := Int.mul_le_mul_of_nonneg_left ht.2 (Int.natCast_nonneg _)
  have h0 : 0 ≤ (A : Int) * t := Int.mul_nonneg (Int.natCast_nonneg _) ht.1
  rw [show (A : Int) * 2048 * t = (A : Int) * t * 2048 by ac_rfl] at hX
  rw [show (A : Int) * 16 * t = (A : Int) * t * 16 by ac_rfl]
  generalize (A : Int) * t = x at *
  have d128 : Nm (.int 128) (128 * 65536) := Nm.int (by decide)
  exact hX.divE d128 (by clear hX d128; lia) (by decide) (by clear hX d128; lia) (by clear hX d128; lia)
theorem low_eq {A high d : Nat} (hd : 2 * high = 8 * A + d) (h : d ≤ 8192) : (lowD ((high : Int) * 16) ((A : Int) * 16)).natAbs = min d (8192 - d) * 16 := by
  have e : 2 * ((high : Int) * 16) - 8 * ((A : Int) * 16) = ((d * 16 : Nat) : Int) := by lia
  by_cases q : d ≤ 4096
  · rw [show lowD ((high : Int) * 16) ((A : Int) * 16) = 2 * ((high : Int) * 16) - 8 * ((A : Int) * 16) from if_pos (by clear e; lia), e, Int.natAbs_natCast, Nat.min_eq_left (by clear e hd; lia)]
  · rw [show lowD ((high : Int) * 16) ((A : Int) * 16) = 131072 - 2 * ((high : Int) * 16) + 8 * ((A : Int) * 16) from if_neg (by clear e; lia), show (131072 : Int) - 2 * ((high : Int) * 16) + 8 * ((A : Int) * 16) = (((8192 - d) * 16 : Nat) : Int) by lia, Int.natAbs_natCast, Nat.min_eq_right (by clear e hd; lia)]
noncomputable def hueV (A b : Nat) : PV := if 0 < 8 * A then .flt (ofFrac false b 48) else .int 0
noncomputable def TellsOk (A b high d : Nat) (R G B : PV) : Prop := ∃ R' G' B' u w, PV.bin .Div R (.int 128) = some R' ∧ PV.bin .Div G (.int 128) = some G' ∧ PV.bin .Div B (.int 128) = some B' ∧ Φ_rgb_to_hsv [R, G, B] = some u ∧ Φ_rgb_to_hls [R', G', B'] = some w ∧
      eqq 8 (.tup [u, w]) (.tup [.tup [hueV A b, .flt (ofFrac false (8 * A) high), .flt (ofFrac false high 32)], .tup [hueV A b, .flt (ofFrac false d 8192), .flt (ofFrac false (8 * A) (min d (8192 - d)))]]) = some true
theorem nat16 (n k : Nat) : ((n : Int) * (k : Int)).natAbs = n * k := by rw [← Int.natCast_mul, Int.natAbs_natCast]
theorem told_ok {A b high d : Nat} (hb : b < 48) (h0 : 0 < high) (h8 : 8 * A ≤ high) (hh : high ≤ 2880) (hd : 2 * high = 8 * A + d) (hpos : 0 < min d (8192 - d)) {R G B : PV} (L : Light b ((high : Int) * 2048) ((A : Int) * 2048) R G B) : TellsOk A b high d R G B := by
  have hd2 : d ≤ 8192 := by clear L hpos; lia
  refine k1_2 (div_128 h8 hh (tt_le b) L.r) fun R' eR nR => ?_
  refine k1_2 (div_128 h8 hh (tt_le (b - 16)) L.g) fun G' eG nG => ?_
  refine k1_2 (div_128 h8 hh (tt_le (b - 32)) L.l) fun B' eB nB => ?_
  have v32 : Nm (.flt (ofFrac false high 32)) ((high : Int) * 2048) := Nm.frac (by decide) (by clear L nR nG nB; lia) (by clear L nR nG nB; lia) (by clear L nR nG nB; lia)
  have v8192 : Nm (.flt (ofFrac false d 8192)) ((high : Int) * 16 - 4 * ((A : Int) * 16)) := Nm.frac (by decide) (by clear L nR nG nB v32; lia) (by clear L nR nG nB v32; lia) (by clear L nR nG nB v32; lia)
  by_cases hA : A = 0
  · subst hA
    have z1 : ∀ (k h : Int) (t : Int), h - ((0 : Nat) : Int) * k * t = h := fun k h t => by (rewrite [show ((0 : Nat) : Int) * k * t = 0 by rw [Int.natCast_zero, Int.zero_mul, Int.zero_mul], Int.sub_zero]; try (with_reducible rfl))
    have hr := L.r
    have hg := L.g
    have hl := L.l
    rw [z1] at hr hg hl nR nG nB
    refine k1_2 (hsv_grey hr hg hl) fun mx e1 nmx => ?_
    refine k1_2 (hls_grey (by clear L nR nG nB v32 v8192 hr hg hl nmx; lia) nR nG nB) fun lv e2 nlv => ?_
    refine ⟨R', G', B', _, _, eR, eG, eB, e1, e2, ?_⟩
    have q0 : ∀ n, eqq n (.flt 0) (hueV 0 b) = some true := fun n => Nm.zero.self (w := 0) (by have := Nm.int (n := 0) (by decide); rwa [Int.zero_mul] at this) n
    have q1 : ∀ d, 0 < d → Nm (.flt (ofFrac false (8 * 0) d)) 0 := fun d hd => Nm.frac hd (by decide) (by (rewrite [Int.zero_mul]; try (with_reducible rfl)); rfl) (by decide)
    have v8 : Nm (.flt (ofFrac false d 8192)) ((high : Int) * 16) := v8192
    exact eq2 (eq3 (q0 6) (Nm.zero.self (q1 high h0) 6) (nmx.self v32 6)) (eq3 (q0 6) (nlv.self v8 6) (Nm.zero.self (q1 _ hpos) 6))
  · have hA : 0 < A := Nat.pos_of_ne_zero hA
    have hue : hueV A b = .flt (ofFrac false b 48) := if_pos (Nat.mul_pos (by decide) hA)
    unfold TellsOk
    (rewrite [hue]; try (with_reducible rfl))
    refine k2_3 (hsv_told hb (M := (high : Int) * 2048) (F := (A : Int) * 2048) (by clear L nR nG nB v32 v8192; lia) (by clear L nR nG nB v32 v8192; lia) (by clear L nR nG nB v32 v8192; lia) L) fun w1 mx e1 hw1 nmx => ?_
    refine k2_3 (hls_told hb (M := (high : Int) * 16) (F := (A : Int) * 16) (by clear L nR nG nB v32 v8192; lia) (by clear L nR nG nB v32 v8192; lia) (by clear L nR nG nB v32 v8192; lia) ⟨nR, nG, nB⟩) fun w2 lv e2 hw2 nlv => ?_
    refine ⟨R', G', B', _, _, eR, eG, eB, e1, e2, eq2 (eq3 (hw1 6) ?_ (nmx.self v32 6)) (eq3 (hw2 6) (nlv.self v8192 6) ?_)⟩
    · have x1 : (8 * ((A : Int) * 2048)).natAbs = 8 * (A * 2048) := by (rewrite [Int.natAbs_mul]; try (with_reducible rfl)); exact congrArg (8 * ·) (nat16 A 2048)
      (rewrite [x1, show ((high : Int) * 2048).natAbs = high * 2048 from nat16 high 2048]; try (with_reducible rfl))
      (rewrite [frac_same (n' := 8 * A) (d' := high) (Nat.mul_pos h0 (by decide)) h0 (by ac_rfl)]; try (with_reducible rfl))
      exact eq_self h0 (by clear L nR nG nB v32 v8192 nmx nlv x1; lia) 6
    · (rewrite [low_eq hd hd2]; try (with_reducible rfl))
      have x1 : (8 * ((A : Int) * 16)).natAbs = 8 * (A * 16) := by (rewrite [Int.natAbs_mul]; try (with_reducible rfl)); exact congrArg (8 * ·) (nat16 A 16)
      generalize min d (8192 - d) = dd at hpos ⊢
      (rewrite [x1, frac_same (n' := 8 * A) (d' := dd) (Nat.mul_pos hpos (by decide)) hpos (by ac_rfl)]; try (with_reducible rfl))
      exact eq_self hpos (by clear L nR nG nB v32 v8192 nmx nlv x1; lia) 6
end
section
noncomputable def tN (y : Nat) : Nat := min (max ((y + 24) % 48) 24 - min ((y + 24) % 48) 24 - 8) 8
noncomputable def ttOk (z : Nat) : Bool := decide (min (max ((((z : Int) - 24).natAbs : Int) - 8) 0) 8 = ((min (max z 24 - min z 24 - 8) 8 : Nat) : Int))
theorem tt_48 : ((List.range 48).all ttOk) = true := by decide +kernel
theorem tt_N (x : Int) (y : Nat) (h : (y : Int) = x + 48) : tt x = (tN y : Int) := by
  have e : (x + 24) % 48 = (((y + 24) % 48 : Nat) : Int) := by lia
  unfold tt tN
  rw [e]
  exact of_decide_eq_true (List.all_eq_true.mp tt_48 _ (List.mem_range.mpr (Nat.mod_lt _ (by decide))))
noncomputable def SN (D : List Nat) (k b s : Nat) : Nat := ((List.range 6).map fun p => D.getD p 0 * tN (8 * p * k + b + s)).sum
noncomputable def wheelOk (D : List Nat) (N f k b : Nat) : Bool :=
  let m := SN D k b 48 - f * tN (b + 48)
  decide (SN D k b 48 = m + f * tN (b + 48)) && decide (SN D k b 32 = m + f * tN (b + 32)) && decide (SN D k b 16 = m + f * tN (b + 16)) && decide (m < 8 * N)
noncomputable def bookOk (B : List (Nat × Nat)) (D : List Nat) : Bool := (List.range 6).all fun p => decide (lookN B p = if 0 < D.getD p 0 then some (D.getD p 0) else none)
structure Sieve (X : List (List Nat × Nat)) (T D : List Nat) : Prop where
  N : 0 < X.length ∧ X.length ≤ 90
  hD : D.length = 6
  sum : ((List.range 6).map fun p => D.getD p 0).sum = X.length
  cnt : cnt (bookM X) = X.length
  same : sameT (bookM X) (dueL D) = true
  six : ∀ e ∈ bookM X, e.1 < 6
  book : bookOk (bookM X) D = true
  tabs : ∀ k, k < 6 → sameT (tabM k (bookM X)) (rhsL k D) = true
  wheel : ∀ k b, k < 6 → b < 48 → wheelOk D X.length (fixM T k) k b = true
  fix : ∀ k, k < 6 → fixM T k ≤ 90
theorem sum_out (g : Nat → Int) (j : Nat) (a : Int) : ∀ l : List Nat, j ∉ l → (l.map fun p => if j = p then a else g p).sum = (l.map g).sum
  | [], _ => rfl
  | p :: l, h => by
    have h' : j ≠ p ∧ j ∉ l := ⟨fun e => h (e ▸ .head _), fun q => h (.tail _ q)⟩
    rw [List.map_cons, List.sum_cons, List.map_cons, List.sum_cons, if_neg h'.1, sum_out g j a l h'.2]
theorem sum_upd (g : Nat → Int) (j : Nat) (a : Int) (h0 : g j = 0) : ∀ l : List Nat, l.Nodup → j ∈ l → (l.map fun p => if j = p then a else g p).sum = a + (l.map g).sum
  | p :: l, hn, hj => by
    refine k0_2 (List.nodup_cons.mp hn) fun h1 h2 => ?_
    rw [List.map_cons, List.sum_cons, List.map_cons, List.sum_cons]
    by_cases e : j = p
    · subst e
      rw [if_pos rfl, sum_out g j a l h1, h0, Int.zero_add]
    · rw [if_neg e, sum_upd g j a h0 l h2 ((List.mem_cons.mp hj).resolve_left e), Int.add_left_comm]
theorem sum_none (h : Nat → Nat → Int) : ∀ l : List Nat, 0 = (l.map fun p => ((lookN ([] : List (Nat × Nat)) p).map (h p)).getD 0).sum
  | [] => rfl
  | p :: l => by rw [List.map_cons, List.sum_cons, ← sum_none h l]; rfl
theorem sum_look (h : Nat → Nat → Int) : ∀ {A : List (Nat × Nat)}, (A.map (·.1)).Nodup → (∀ e ∈ A, e.1 < 6) → (A.map fun e => h e.1 e.2).sum = ((List.range 6).map fun p => ((lookN A p).map (h p)).getD 0).sum
  | [], _, _ => sum_none h _
  | e :: A, hn, h6 => by
    rw [List.map_cons, List.nodup_cons] at hn
    have hnone : lookN A e.1 = none := by
      cases q : lookN A e.1 with
      | none => rfl
      | some v =>
        exfalso
        unfold lookN at q
        refine k1_2 (Option.map_eq_some_iff.mp q) fun y hy _ => ?_
        have h1 := List.find?_some hy
        rw [decide_eq_true_iff] at h1
        exact hn.1 (List.mem_map.mpr ⟨y, List.mem_of_find?_eq_some hy, h1⟩)
    have hc : ∀ p, ((lookN (e :: A) p).map (h p)).getD 0 = if e.1 = p then h e.1 e.2 else ((lookN A p).map (h p)).getD 0 := fun p => by
      unfold lookN
      rw [List.find?_cons]
      by_cases q : e.1 = p
      · rw [decide_eq_true q, if_pos q, q]; rfl
      · rw [decide_eq_false q, if_neg q]
    rw [List.map_cons, List.sum_cons, sum_look h hn.2 fun x hx => h6 x (.tail _ hx), List.map_congr_left fun p ž1 => hc p,
      sum_upd (fun p => ((lookN A p).map (h p)).getD 0) e.1 (h e.1 e.2) (by rw [hnone]; rfl) _ List.nodup_range (List.mem_range.mpr (h6 e (.head _)))]
theorem W_HW {B : List (Nat × Nat)} {D : List Nat} (hn : (B.map (·.1)).Nodup) (h6 : ∀ e ∈ B, e.1 < 6) (hb : bookOk B D = true) (sh k b : Nat) (c : Int) : W sh k b c B = HW sh k b c D := by
  unfold W HW
  rw [sum_look (fun p v => (v : Int) * (32 - (sh : Int) * tt (((8 * p * k + b : Nat) : Int) - c))) hn h6]
  congr 1
  refine List.map_congr_left fun p hp => ?_
  have := List.all_eq_true.mp hb p hp
  rw [decide_eq_true_iff] at this
  rw [this]
  split
  · rfl
  · rename_i q
    have : D.getD p 0 = 0 := by lia
    rw [this]; simp
theorem HW_eq {D : List Nat} {N f k b sh : Nat} (hw : wheelOk D N f k b = true) (hs : ((List.range 6).map fun p => D.getD p 0).sum = N) : ∃ m, m < 8 * N ∧ HW sh k b 0 D = 32 * N - (sh : Int) * (m + f * tt b) ∧ HW sh k b 16 D = 32 * N - (sh : Int) * (m + f * tt (b - 16)) ∧ HW sh k b 32 D = 32 * N - (sh : Int) * (m + f * tt (b - 32)) := by
  unfold wheelOk at hw
  simp only [Bool.and_eq_true, decide_eq_true_eq] at hw
  (refine k0_2 hw fun ž1 => ?_; obtain ⟨⟨h1, h2⟩, h3⟩ := ž1; intro h4)
  generalize SN D k b 48 - f * tN (b + 48) = m at *
  have key : ∀ (c : Int) (s : Nat), (s : Int) = 48 - c → HW sh k b c D = 32 * N - (sh : Int) * (SN D k b s : Int) := by
    intro c s hc
    have e : ∀ l : List Nat, (l.map fun p => (D.getD p 0 : Int) * (32 - (sh : Int) * tt (((8 * p * k + b : Nat) : Int) - c))).sum = 32 * ((l.map fun p => D.getD p 0).sum : Nat) - (sh : Int) * ((l.map fun p => D.getD p 0 * tN (8 * p * k + b + s)).sum : Nat) := by
      intro l
      induction l with
      | nil => simp
      | cons p l ih =>
        rw [List.map_cons, List.map_cons, List.map_cons, List.sum_cons, List.sum_cons, List.sum_cons, ih, tt_N _ (8 * p * k + b + s) (by lia)]
        generalize D.getD p 0 = d
        generalize tN (8 * p * k + b + s) = t
        generalize (l.map fun p => D.getD p 0).sum = x
        generalize (l.map fun p => D.getD p 0 * tN (8 * p * k + b + s)).sum = y
        rw [Int.natCast_add, Int.natCast_add, Int.natCast_mul, Int.mul_sub, Int.mul_add, Int.mul_add, show (d : Int) * ((sh : Int) * (t : Int)) = (sh : Int) * ((d : Int) * (t : Int)) by ac_rfl]
        lia
    unfold HW
    rw [e, hs]
    rfl
  have c48 := tt_N b (b + 48) (by lia)
  have c32 := tt_N (b - 16) (b + 32) (by lia)
  have c16 := tt_N (b - 32) (b + 16) (by lia)
  refine ⟨m, h4, ?_, ?_, ?_⟩
  · rw [key 0 48 (by decide), h1, c48]; simp
  · rw [key 16 32 (by decide), h2, c32]; simp
  · rw [key 32 16 (by decide), h3, c16]; simp
end
section
section
variable {f g : Sig → Option PV} {a b : PV} {σ : Sig}
theorem tupF2 {i j : Nat} (hf : f σ = some a) (hg : g σ = some b) : tupF [i, j] [pvL f, pvL g] σ = some (.next, (σ.set i (.pv a)).set j (.pv b)) := by
  unfold tupF seqL seqL seqL pvL
  rw [hf, hg]; rfl
theorem tupR2 {i j : Nat} (hf : f σ = some a) (hg : g σ = some b) : tupR [i, j] [pvL f, pvL g] σ = some (.next, (σ.set j (.pv b)).set i (.pv a)) := by
  unfold tupR seqL seqL seqL pvL
  rw [hf, hg]; rfl
end
noncomputable def hueE : Sig → Option PV := iteO (c2 .Gt (vv 31) (cc (.int 0))) (b2 .Div (vv 15) (cc (.int 48))) (cc (.int 0))
noncomputable def bothE : Sig → Option PV := b2 .Sub (b2 .Mult (cc (.int 2)) (vv 32)) (vv 31)
noncomputable def toldE : Sig → Option PV := tupO [(callO Φ_rgb_to_hsv [(i2 (vv 28) (cc (.int 0))), (i2 (vv 28) (cc (.int 1))), (i2 (vv 28) (cc (.int 2)))]), (callO Φ_rgb_to_hls [(b2 .Div (i2 (vv 28) (cc (.int 0))) (cc (.int 128))), (b2 .Div (i2 (vv 28) (cc (.int 1))) (cc (.int 128))), (b2 .Div (i2 (vv 28) (cc (.int 2))) (cc (.int 128)))])]
noncomputable def wantE : Sig → Option PV := tupO [(tupO [(vv 33), (b2 .Div (vv 31) (vv 32)), (b2 .Div (vv 32) (cc (.int 32)))]), (tupO [(vv 33), (b2 .Div (vv 34) (cc (.int 8192))), (b2 .Div (vv 31) (callO minΦ [(vv 34), (b2 .Sub (cc (.int 8192)) (vv 34))]))])]
noncomputable def zeroE : Sig → Option PV := tupO [(cc (.int 0)), (cc (.int 0)), (cc (.int 0)), (cc (.int 0)), (cc (.dct []))]
noncomputable def retNo : Sig → Option (Fl × Sig) := seqF (retF (cc (.bool false))) nextF
noncomputable def body23 : Sig → Option (Fl × Sig) := seqF (tupF [28, 29] [pvL zeroE, pvL metE]) (seqF (loopF (itF (vv 22)) (setK 2) mixBody) (seqF (ifF (c2 .NotEq (slT (vv 28) (ptO (cc (.int 3))) noO) (tupO [(callO lenΦ [(vv 20)]), rhsE])) retNo nextF)
  (seqF (setF 31 stillE) (seqF (setF 32 highE) (seqF (tupR [33, 34] [pvL hueE, pvL bothE]) (seqF (setF 35 toldE) (seqF (ifF (c2 .NotEq (vv 35) wantE) retNo nextF) nextF)))))))
theorem law23_eq : F_law_23 = loopF (itF (callO rangeΦ [(cc (.int 6))])) (setK 9) body23 := rfl
structure S23 (X : List (List Nat × Nat)) (T D : List Nat) (sh b : Nat) (σ : Sig) : Prop where
  v14 : σ 14 = some (.pv (natP sh))
  v15 : σ 15 = some (.pv (natP b))
  v20 : σ 20 = some (.pv (.lst (X.map rowP)))
  v22 : σ 22 = some (.pv (.dct (esN natP (bookM X))))
  v26 : σ 26 = some (.pv (.lst (T.map natP)))
  v27 : σ 27 = some (.pv (.lst (D.map natP)))
noncomputable def k23 : List Nat := [2, 9, 28, 29, 30, 31, 32, 33, 34, 35]
theorem S23.kp {X : List (List Nat × Nat)} {T D : List Nat} {sh b : Nat} {σ τ : Sig} (h : S23 X T D sh b σ) (k : Kp k23 σ τ) : S23 X T D sh b τ :=
  ⟨(k 14 (by decide)).trans h.v14, (k 15 (by decide)).trans h.v15, (k 20 (by decide)).trans h.v20, (k 22 (by decide)).trans h.v22, (k 26 (by decide)).trans h.v26, (k 27 (by decide)).trans h.v27⟩
theorem sub_nat (a b : Nat) (h : b ≤ a) : PV.bin .Sub (natP a) (natP b) = some (natP (a - b)) := by
  show some (PV.int ((a : Int) - (b : Int))) = some (PV.int ((a - b : Nat) : Int))
  rw [Int.ofNat_sub h]
theorem min_nat (a b : Nat) : minΦ [natP a, natP b] = some (natP (min a b)) := by
  unfold natP
  rw [min2]
  congr 2
  omega
theorem told_bnd {A high : Nat} (h8A : 8 * A ≤ high) (hh0 : 0 < high) (hhm : high ≤ 2880) : 8 * A ≤ 2 * high ∧ 2 * high - 8 * A ≤ 8192 ∧ 8 * A ≤ 2 ^ 60 ∧ high ≤ 2 ^ 60 ∧ 2 * high - 8 * A ≤ 2 ^ 60 ∧ 2 * high = 8 * A + (2 * high - 8 * A) ∧ 0 < min (2 * high - 8 * A) (8192 - (2 * high - 8 * A)) := by
  refine ⟨by lia, by lia, by lia, by lia, by lia, by lia, Nat.lt_min.mpr ⟨by lia, by lia⟩⟩
structure HighOk (b A high : Nat) (w0 w16 w32 : Int) : Prop where
  p0 : w0 * 2048 = (high : Int) * 2048 - (A : Int) * 2048 * tt b
  p1 : w16 * 2048 = (high : Int) * 2048 - (A : Int) * 2048 * tt (b - 16)
  p2 : w32 * 2048 = (high : Int) * 2048 - (A : Int) * 2048 * tt (b - 32)
  top : max (max w0 w16) w32 = (high : Int)
  h8 : 8 * A ≤ high
  h0 : 0 < high
  hm : high ≤ 2880
theorem part_2048 (high A t : Int) : (high - A * t) * 2048 = high * 2048 - A * 2048 * t := by rw [Int.sub_mul, show A * t * 2048 = A * 2048 * t by ac_rfl]
theorem high_facts {b sh f m N : Nat} (hb : b < 48) (hs : 1 ≤ sh ∧ sh ≤ 4) (hm : m < 8 * N) (hN : 0 < N ∧ N ≤ 90) {w0 w16 w32 : Int} (e0 : w0 = 32 * N - (sh : Int) * (m + f * tt b)) (e1 : w16 = 32 * N - (sh : Int) * (m + f * tt (b - 16))) (e2 : w32 = 32 * N - (sh : Int) * (m + f * tt (b - 32)))
    (l0 : 0 ≤ w0) (l1 : 0 ≤ w16) (l2 : 0 ≤ w32) : ∃ high, HighOk b (sh * f) high w0 w16 w32 := by
  have hsm : sh * m ≤ 4 * m := Nat.mul_le_mul_right _ hs.2
  have hlt : sh * m < 32 * N := by clear e0 e1 e2 l0 l1 l2; lia
  obtain ⟨high, hh⟩ : ∃ high, high + sh * m = 32 * N := ⟨32 * N - sh * m, Nat.sub_add_cancel (Nat.le_of_lt hlt)⟩
  have hA : ((sh * f : Nat) : Int) = (sh : Int) * (f : Int) := Int.natCast_mul _ _
  have sp : ∀ t : Int, 32 * (N : Int) - (sh : Int) * ((m : Int) + (f : Int) * t) = (high : Int) - ((sh * f : Nat) : Int) * t := fun t => by
    rw [Int.mul_add, ← Int.mul_assoc, ← hA, ← Int.natCast_mul]
    generalize ((sh * f : Nat) : Int) * t = x
    clear e0 e1 e2 l0 l1 l2 hsm hlt hA
    lia
  rw [sp] at e0 e1 e2
  refine k0_2 (tt_ends hb) fun z0 z8 => ?_
  have t1 := tt_le b
  have t2 := tt_le (b - 16)
  have t3 := tt_le (b - 32)
  generalize sh * f = A at *
  have n0 : ∀ t : Int, 0 ≤ t → 0 ≤ (A : Int) * t := fun t ht => Int.mul_nonneg (Int.natCast_nonneg _) ht
  have zz : ∀ {t : Int}, t = 0 → (A : Int) * t = 0 := fun h => by rw [h, Int.mul_zero]
  refine ⟨high, by rw [e0, part_2048], by rw [e1, part_2048], by rw [e2, part_2048], by rw [e0, e1, e2, max_zero (n0 _ t1.1) (n0 _ t2.1) (n0 _ t3.1) (z0.imp zz fun z => z.imp zz zz)], ?_, ?_, ?_⟩
  · have k : ∀ {t w : Int}, t = 8 → w = (high : Int) - (A : Int) * t → 0 ≤ w → 8 * A ≤ high := fun h1 h2 h3 => by rw [h1] at h2; clear e0 e1 e2 l0 l1 l2 sp z0 z8 t1 t2 t3 hsm hlt hA; lia
    refine Or.elim z8 (fun z => ?_) fun ž => Or.elim ž (fun z => ?_) fun z => ?_
    · exact k z e0 l0
    · exact k z e1 l1
    · exact k z e2 l2
  · clear e0 e1 e2 l0 l1 l2 sp z0 z8 t1 t2 t3 hsm hA; lia
  · clear e0 e1 e2 l0 l1 l2 sp z0 z8 t1 t2 t3 hsm hA; lia
theorem tup_ne_of {a b : PV} (h : eqq 8 a b = some true) : cmpO .NotEq a b = some false := by show (eqq 8 a b).map _ = _; rw [h]; rfl
noncomputable def Turns (F : Sig → Option (Fl × Sig)) (L : List Nat) (σ : Sig) : Prop := ∃ τ, F σ = some (.next, τ) ∧ Kp L σ τ
theorem turn_23 {X : List (List Nat × Nat)} {T D : List Nat} (V : Sieve X T D) {sh b : Nat} (hs : 1 ≤ sh ∧ sh ≤ 4) (hb : b < 48) {k : Nat} (hk : k < 6) {σ : Sig} (h : S23 X T D sh b σ) (v9 : σ 9 = some (.pv (natP k))) : Turns body23 k23 σ := by
  have hD := V.hD
  have e1 := met_ok hk D hD v9 h.v27
  generalize hρ1 : (σ.set 28 (.pv (.tup [.int 0, .int 0, .int 0, .int 0, .dct []]))).set 29 (.pv (metP k D)) = ρ1
  have s1 : tupF [28, 29] [pvL zeroE, pvL metE] σ = some (.next, ρ1) := by rw [← hρ1]; exact tupF2 rfl e1
  have k1 : Kp k23 σ ρ1 := by rw [← hρ1]; exact ((Kp.refl _ _).set (by decide) _).set (by decide) _
  have h1 := h.kp k1
  have n1 : ρ1 9 = some (.pv (natP k)) := by rw [← hρ1]; exact v9
  refine k0_2 (bookM_ok X) fun nd _ => ?_
  have hcnt := V.cnt
  have hbl : (bookM X).length ≤ 100 := by
    have := (bookM_ok X).2
    have := V.N
    lia
  have hN := V.N
  refine k2_4 (mix_loop hs hk hb (bookM X) nd V.six (by lia) hbl n1 h1.v14 h1.v15 h1.v22 (p := .tup [.int 0, .int 0, .int 0, .int 0, .dct []]) (by rw [← hρ1]; rfl) (mx_start sh k b)) fun ρ2 q s2 k2 q28 hm => ?_
  have k2' : Kp k23 σ ρ2 := k1.trans (k2.mono fun i hi => by
    unfold k23 at hi
    simp only [List.contains_cons, Bool.or_eq_false_iff, List.contains_nil] at hi ⊢
    exact ⟨hi.1, hi.2.2.1, hi.2.2.2.2.1, trivial⟩)
  have h2 := h.kp k2'
  have n2 : ρ2 9 = some (.pv (natP k)) := by rw [k2 9 (by decide)]; exact n1
  have m2 : ρ2 29 = some (.pv (metP k D)) := by rw [k2 29 (by decide), ← hρ1]; rfl
  (refine k3_4 hm.ex fun R G B ž4 => ?_; subst ž4; intro nR nG nB)
  rw [hcnt] at q28
  have s3 : ifF (c2 .NotEq (slT (vv 28) (ptO (cc (.int 3))) noO) (tupO [(callO lenΦ [(vv 20)]), rhsE])) retNo nextF ρ2 = some (.next, ρ2) := by
    have a1 : slT (vv 28) (ptO (cc (.int 3))) noO ρ2 = some (.tup [natP X.length, .dct (esN prP (tabM k (bookM X)))]) := by
      unfold slT
      rw [vv_of q28]; rfl
    have a2 : tupO [(callO lenΦ [(vv 20)]), rhsE] ρ2 = some (.tup [natP X.length, .dct (esN prP (rhsL k D))]) := tup2 ((call1 (vv_of h2.v20)).trans (len_rows X (Nat.le_trans hN.2 (by decide)))) (rhs_ok D m2)
    rw [ifF_false ((c2_of a1 a2).trans (tup_ne_of (eq2 (eq_natP 7 _) (eq_tabs prP 6 (eq_prP 5) (V.tabs k hk)))))]
    rfl
  have hfx := V.fix k hk
  have e4 := still_ok (sh := sh) T (by lia) n2 h2.v14 h2.v26
  generalize hf : fixM T k = f at *
  generalize hρ3 : ρ2.set 31 (.pv (natP (8 * sh * f))) = ρ3
  have s4 : setF 31 stillE ρ2 = some (.next, ρ3) := by rw [← hρ3]; exact setF_of e4
  have k3 : Kp k23 σ ρ3 := by rw [← hρ3]; exact k2'.set (by decide) _
  have h3 := h.kp k3
  have n3 : ρ3 9 = some (.pv (natP k)) := by rw [← hρ3]; exact n2
  have e5 := high_ok hs.2 hk D hD n3 h3.v14 h3.v15 h3.v27
  have hw := V.wheel k b hk hb
  rw [hf] at hw
  refine k1_4 (HW_eq (sh := sh) hw V.sum) fun m hm8 w0 w16 w32 => ?_
  have lR := (W_le hs.2 k b 0 (bookM X)).1
  have lG := (W_le hs.2 k b 16 (bookM X)).1
  have lB := (W_le hs.2 k b 32 (bookM X)).1
  rw [W_HW nd V.six V.book] at nR lR
  rw [W_HW nd V.six V.book] at nG lG
  rw [W_HW nd V.six V.book] at nB lB
  refine k1_1 (high_facts hb hs hm8 hN w0 w16 w32 lR lG lB) fun high Hh => ?_
  obtain ⟨A, hA⟩ : ∃ A, A = sh * f := ⟨_, rfl⟩
  rw [← hA] at Hh
  rw [Hh.p0] at nR
  rw [Hh.p1] at nG
  rw [Hh.p2] at nB
  rw [Hh.top] at e5
  have e5 : highE ρ3 = some (natP high) := e5
  have hh0 := Hh.h0
  refine k0_7 (told_bnd Hh.h8 hh0 Hh.hm) fun hle1 hle2 hle3 hle4 hle5 hdd hpos => ?_
  refine k5_6 (told_ok hb hh0 Hh.h8 Hh.hm hdd hpos ⟨nR, nG, nB⟩) fun R' G' B' u w eR eG eB eu ew heq => ?_
  have hst : 8 * sh * f = 8 * A := by rw [hA, Nat.mul_assoc]
  rw [hst] at hρ3
  generalize hρ4 : ρ3.set 32 (.pv (natP high)) = ρ4
  have s5 : setF 32 highE ρ3 = some (.next, ρ4) := by rw [← hρ4]; exact setF_of e5
  have k4 : Kp k23 σ ρ4 := by rw [← hρ4]; exact k3.set (by decide) _
  have x31 : vv 31 ρ4 = some (natP (8 * A)) := vv_of (by rw [← hρ4, ← hρ3]; rfl)
  have x32 : vv 32 ρ4 = some (natP high) := vv_of (by rw [← hρ4]; rfl)
  have x15 : vv 15 ρ4 = some (natP b) := vv_of (h.kp k4).v15
  obtain ⟨hue, hhue⟩ : ∃ hue : PV, hue = hueV A b := ⟨_, rfl⟩
  rw [← hhue] at heq
  have e6 : hueE ρ4 = some hue := by
    have c1 : c2 .Gt (vv 31) (cc (.int 0)) ρ4 = some (decide (0 < 8 * A)) := (c2_of x31 rfl).trans (gt0_nat _)
    have c2' : b2 .Div (vv 15) (cc (.int 48)) ρ4 = some (.flt (ofFrac false b 48)) := (b2_of x15 rfl).trans (div48 b (Nat.lt_trans hb (by decide)))
    unfold hueE iteO
    rw [c1, Option.bind_some, c2', hhue]
    unfold hueV
    by_cases q : 0 < 8 * A
    · rw [decide_eq_true q, if_pos rfl, if_pos q]
    · rw [decide_eq_false q, if_neg (by simp), if_neg q]; rfl
  have e7 : bothE ρ4 = some (natP (2 * high - 8 * A)) := by
    have c1 : b2 .Mult (cc (.int 2)) (vv 32) ρ4 = some (natP (2 * high)) := (b2_of rfl x32).trans (mul_nat 2 high (Nat.lt_of_le_of_lt Hh.hm (by decide)))
    exact (b2_of c1 x31).trans (sub_nat _ _ hle1)
  generalize hρ5 : (ρ4.set 34 (.pv (natP (2 * high - 8 * A)))).set 33 (.pv hue) = ρ5
  have s6 : tupR [33, 34] [pvL hueE, pvL bothE] ρ4 = some (.next, ρ5) := by rw [← hρ5]; exact tupR2 e6 e7
  have k5 : Kp k23 σ ρ5 := by rw [← hρ5]; exact (k4.set (by decide) _).set (by decide) _
  have y28 : vv 28 ρ5 = some (.tup [R, G, B, natP X.length, .dct (esN prP (tabM k (bookM X)))]) := vv_of (by rw [← hρ5, ← hρ4, ← hρ3]; exact q28)
  have i0 : i2 (vv 28) (cc (.int 0)) ρ5 = some R := (i2_of y28 rfl).trans rfl
  have i1 : i2 (vv 28) (cc (.int 1)) ρ5 = some G := (i2_of y28 rfl).trans rfl
  have i2' : i2 (vv 28) (cc (.int 2)) ρ5 = some B := (i2_of y28 rfl).trans rfl
  have e8 : toldE ρ5 = some (.tup [u, w]) := tup2 ((call3 i0 i1 i2').trans eu) ((call3 ((b2_of i0 rfl).trans eR) ((b2_of i1 rfl).trans eG) ((b2_of i2' rfl).trans eB)).trans ew)
  generalize hρ6 : ρ5.set 35 (.pv (.tup [u, w])) = ρ6
  have s7 : setF 35 toldE ρ5 = some (.next, ρ6) := by rw [← hρ6]; exact setF_of e8
  have k6 : Kp k23 σ ρ6 := by rw [← hρ6]; exact k5.set (by decide) _
  have y31 : vv 31 ρ6 = some (natP (8 * A)) := vv_of (by rw [← hρ6, ← hρ5, ← hρ4, ← hρ3]; rfl)
  have y32 : vv 32 ρ6 = some (natP high) := vv_of (by rw [← hρ6, ← hρ5, ← hρ4]; rfl)
  have y33 : vv 33 ρ6 = some hue := vv_of (by rw [← hρ6, ← hρ5]; rfl)
  have y34 : vv 34 ρ6 = some (natP (2 * high - 8 * A)) := vv_of (by rw [← hρ6, ← hρ5]; rfl)
  have y35 : vv 35 ρ6 = some (.tup [u, w]) := vv_of (by rw [← hρ6]; rfl)
  have e9 : wantE ρ6 = some (.tup [.tup [hue, .flt (ofFrac false (8 * A) high), .flt (ofFrac false high 32)], .tup [hue, .flt (ofFrac false (2 * high - 8 * A) 8192), .flt (ofFrac false (8 * A) (min (2 * high - 8 * A) (8192 - (2 * high - 8 * A))))]]) := by
    have d1 := divN (8 * A) high hh0 hle3
    have d2 := divN high 32 (by decide) hle4
    have d3 := divN (2 * high - 8 * A) 8192 (by decide) hle5
    have d4 : b2 .Sub (cc (.int 8192)) (vv 34) ρ6 = some (natP (8192 - (2 * high - 8 * A))) := (b2_of rfl y34).trans (sub_nat 8192 _ hle2)
    have d5 := min_nat (2 * high - 8 * A) (8192 - (2 * high - 8 * A))
    have d6 := divN (8 * A) (min (2 * high - 8 * A) (8192 - (2 * high - 8 * A))) hpos hle3
    exact tup2 (tup3 y33 ((b2_of y31 y32).trans d1) ((b2_of y32 rfl).trans d2)) (tup3 y33 ((b2_of y34 rfl).trans d3) ((b2_of y31 ((call2 y34 d4).trans d5)).trans d6))
  have s8 : ifF (c2 .NotEq (vv 35) wantE) retNo nextF ρ6 = some (.next, ρ6) := by
    rw [ifF_false ((c2_of y35 e9).trans (tup_ne_of heq))]; rfl
  refine ⟨ρ6, ?_, k6⟩
  unfold body23
  rw [seqF_next s1, seqF_next s2, seqF_next s3, seqF_next s4, seqF_next s5, seqF_next s6, seqF_next s7, seqF_next s8]
  rfl
theorem law_23 {X : List (List Nat × Nat)} {T D : List Nat} (V : Sieve X T D) {sh b : Nat} (hs : 1 ≤ sh ∧ sh ≤ 4) (hb : b < 48) {σ : Sig} (h : S23 X T D sh b σ) : ∃ τ, F_law_23 σ = some (.next, τ) := by
  obtain ⟨τ, h1, _⟩ := forF_inv (k := setK 9) (F := body23) (List.range 6) natP (fun ž1 τ => Kp k23 σ τ) (fun done x rest τ e hI => by
    have hx : x < 6 := List.mem_range.mp (by rw [e]; simp)
    have kr : Kp k23 σ (τ.set 9 (.pv (natP x))) := hI.set (by decide) _
    refine k1_2 (turn_23 V hs hb hx (h.kp kr) rfl) fun ω hF kF => ?_
    exact ⟨_, ω, rfl, hF, kr.trans kF⟩) (σ := σ) (Kp.refl _ _)
  exact ⟨τ, by rw [law23_eq]; exact loopF_of (r6 σ) h1⟩
end
end Mine
namespace Mine

section
noncomputable def sR (r : List Nat) (a b : Nat) : Bool := decide (r.getD b 0 < r.getD a 0)
noncomputable def perms : List (List Nat) := [[0, 1, 2], [0, 2, 1], [1, 0, 2], [1, 2, 0], [2, 0, 1], [2, 1, 0]]
noncomputable def turnsM (X : List (List Nat × Nat)) : List Nat := X.map fun x => turnM x.1
noncomputable def duesM (T : List Nat) : List Nat := (List.range 6).map (dueM T)
noncomputable def part1 (c r : List Nat) : Bool :=
  let X := ordM c (sR r) 6
  let D := duesM (turnsM X)
  let B := bookM X
  decide (0 < X.length ∧ X.length ≤ 90) && decide (((List.range 6).map fun p => D.getD p 0).sum = X.length) && decide (cnt B = X.length) && sameT B (dueL D) && (B.all fun e => decide (e.1 < 6)) && bookOk B D && ((List.range 6).all fun k => sameT (tabM k B) (rhsL k D))
noncomputable def pats : List (List Nat × List Nat × Nat) := [([1, 0, 0, 0, 0, 0], [1, 1, 1, 1, 1, 1], 1), ([1, 1, 1, 1, 1, 1], [6, 0, 0, 0, 0, 0], 6), ([3, 2, 3, 2, 3, 2], [15, 0, 0, 3, 0, 0], 15), ([5, 5, 5, 5, 5, 5], [30, 0, 0, 0, 0, 0], 30), ([4, 3, 3, 4, 3, 3], [20, 0, 2, 0, 2, 0], 20), ([10, 10, 10, 10, 10, 10], [60, 0, 0, 0, 0, 0], 60), ([16, 14, 16, 14, 16, 14], [90, 0, 0, 6, 0, 0], 90)]
noncomputable def patOk (c : List Nat) : Bool :=
  let X := ordM c (sR [0, 1, 2]) 6
  let T := turnsM X
  pats.any fun p => decide (duesM T = p.1) && decide ((List.range 6).map (fixM T) = p.2.1) && decide (X.length = p.2.2)
theorem p1_0 : ((List.range 7).all fun b => perms.all fun r => part1 [0, b, 6 - 0 - b] r) = true := by decide +kernel
theorem p1_1 : ((List.range 6).all fun b => perms.all fun r => part1 [1, b, 6 - 1 - b] r) = true := by decide +kernel
theorem p1_2 : ((List.range 5).all fun b => perms.all fun r => part1 [2, b, 6 - 2 - b] r) = true := by decide +kernel
theorem p1_3 : ((List.range 4).all fun b => perms.all fun r => part1 [3, b, 6 - 3 - b] r) = true := by decide +kernel
theorem p1_4 : ((List.range 3).all fun b => perms.all fun r => part1 [4, b, 6 - 4 - b] r) = true := by decide +kernel
theorem p1_5 : ((List.range 2).all fun b => perms.all fun r => part1 [5, b, 6 - 5 - b] r) = true := by decide +kernel
theorem p1_6 : ((List.range 1).all fun b => perms.all fun r => part1 [6, b, 6 - 6 - b] r) = true := by decide +kernel
theorem pat_ok : ((List.range 7).all fun a => (List.range (7 - a)).all fun b => patOk [a, b, 6 - a - b]) = true := by decide +kernel
noncomputable def tF (y : Nat) : Nat := ((((y + 24) % 48 - 24) + (24 - (y + 24) % 48) - 8) - (((y + 24) % 48 - 24) + (24 - (y + 24) % 48) - 8 - 8))
noncomputable def sF (d0 d1 d2 d3 d4 d5 k e : Nat) : Nat := d0 * tF e + d1 * tF (8 * k + e) + d2 * tF (16 * k + e) + d3 * tF (24 * k + e) + d4 * tF (32 * k + e) + d5 * tF (40 * k + e)
noncomputable def wF (d0 d1 d2 d3 d4 d5 N f k b : Nat) : Bool := Nat.beq (sF d0 d1 d2 d3 d4 d5 k (b + 32) + f * tF (b + 48)) (sF d0 d1 d2 d3 d4 d5 k (b + 48) + f * tF (b + 32)) && Nat.beq (sF d0 d1 d2 d3 d4 d5 k (b + 16) + f * tF (b + 48)) (sF d0 d1 d2 d3 d4 d5 k (b + 48) + f * tF (b + 16)) && Nat.ble (f * tF (b + 48)) (sF d0 d1 d2 d3 d4 d5 k (b + 48)) && Nat.blt (sF d0 d1 d2 d3 d4 d5 k (b + 48)) (8 * N + f * tF (b + 48))
noncomputable def wPat (p : List Nat × List Nat × Nat) : Bool := match p.1 with
  | [d0, d1, d2, d3, d4, d5] => (List.range 6).all fun k => (List.range 48).all fun b => wF d0 d1 d2 d3 d4 d5 p.2.2 (p.2.1.getD k 0) k b
  | _ => false
theorem w_ok : (pats.all wPat) = true := by decide +kernel
theorem f_ok : (pats.all fun p => (List.range 6).all fun k => decide (p.2.1.getD k 0 ≤ 90)) = true := by decide +kernel
theorem tF_48 : ((List.range 48).all fun z => decide (((z - 24) + (24 - z) - 8) - (((z - 24) + (24 - z) - 8) - 8) = min (max z 24 - min z 24 - 8) 8)) = true := by decide +kernel
theorem tF_eq (y : Nat) : tF y = tN y := of_decide_eq_true (List.all_eq_true.mp tF_48 _ (List.mem_range.mpr (Nat.mod_lt (y + 24) (by decide))))
theorem SN_eq (d0 d1 d2 d3 d4 d5 k b s : Nat) : SN [d0, d1, d2, d3, d4, d5] k b s = sF d0 d1 d2 d3 d4 d5 k (b + s) := by
  unfold SN sF
  show d0 * tN (8 * 0 * k + b + s) + (d1 * tN (8 * 1 * k + b + s) + (d2 * tN (8 * 2 * k + b + s) + (d3 * tN (8 * 3 * k + b + s) + (d4 * tN (8 * 4 * k + b + s) + (d5 * tN (8 * 5 * k + b + s) + 0))))) = _
  simp only [tF_eq]
  have e : ∀ p q : Nat, 8 * p = q → 8 * p * k + b + s = q * k + (b + s) := fun p q h => by (rewrite [h, Nat.add_assoc]; try (with_reducible rfl))
  (rewrite [e 0 0 rfl, e 1 8 rfl, e 2 16 rfl, e 3 24 rfl, e 4 32 rfl, e 5 40 rfl, Nat.zero_mul, Nat.zero_add]; try (with_reducible rfl))
  lia
theorem wheel_of {d0 d1 d2 d3 d4 d5 N f k b : Nat} (h : wF d0 d1 d2 d3 d4 d5 N f k b = true) : wheelOk [d0, d1, d2, d3, d4, d5] N f k b = true := by
  unfold wF at h
  unfold wheelOk
  simp only [Bool.and_eq_true, Nat.beq_eq, Nat.ble_eq, Nat.blt_eq, decide_eq_true_eq] at h ⊢
  rw [SN_eq, SN_eq, SN_eq]
  simp only [tF_eq] at h
  (refine k0_2 h fun ž1 => ?_; obtain ⟨⟨h1, h2⟩, h3⟩ := ž1; intro h4)
  generalize f * tN (b + 48) = x at *
  generalize f * tN (b + 32) = y at *
  generalize f * tN (b + 16) = z at *
  generalize sF d0 d1 d2 d3 d4 d5 k (b + 48) = u at *
  generalize sF d0 d1 d2 d3 d4 d5 k (b + 32) = v at *
  generalize sF d0 d1 d2 d3 d4 d5 k (b + 16) = w at *
  lia
theorem ordM_rows (c : List Nat) (s s' : Nat → Nat → Bool) : ∀ n, (ordM c s n).map (·.1) = (ordM c s' n).map (·.1)
  | 0 => rfl
  | n + 1 => by
    have ih := ordM_rows c s s' n
    have e : ∀ (s : Nat → Nat → Bool) (L : List (List Nat × Nat)), (L.flatMap (ext1 c s n)).map (·.1) = (L.map (·.1)).flatMap fun row => ([0, 1, 2].filter fun k => decide (row.count k < c.getD k 0)).map fun k => row ++ [k] := by
      intro s L
      induction L with
      | nil => rfl
      | cons x L ih =>
        rw [List.flatMap_cons, List.map_append, ih, List.map_cons, List.flatMap_cons]
        congr 1
        unfold ext1
        rw [List.map_map]; rfl
    show ((ordM c s n).flatMap (ext1 c s n)).map (·.1) = ((ordM c s' n).flatMap (ext1 c s' n)).map (·.1)
    rw [e, e, ih]
theorem ordM_congr (c : List Nat) {s s' : Nat → Nat → Bool} (h : ∀ a b, a < 3 → b < 3 → s a b = s' a b) : ∀ n, ordM c s n = ordM c s' n
  | 0 => rfl
  | n + 1 => by
    have ih := ordM_congr c h n
    show (ordM c s n).flatMap (ext1 c s n) = (ordM c s' n).flatMap (ext1 c s' n)
    rw [ih]
    have hr := (ordM_ok c s' n).1
    generalize ordM c s' n = L at hr
    have e : ∀ x ∈ L, ext1 c s n x = ext1 c s' n x := by
      intro x hx
      unfold ext1
      refine List.map_congr_left fun k hk => ?_
      have k3 : k < 3 := by have := (List.mem_filter.mp hk).1; simp at this; lia
      have l3 : x.1.getLastD 0 < 3 := by
        by_cases q : x.1 = []
        · rw [q]; decide
        · refine k2_2 (last_of q) fun ys z e1 e2 => ?_
          rw [e2]
          exact (hr x hx).1 z (by rw [e1]; simp)
      rw [h _ _ l3 k3]
    clear hr ih
    induction L with
    | nil => rfl
    | cons x L ih2 => rw [List.flatMap_cons, List.flatMap_cons, e x (.head _), ih2 fun y hy => e y (.tail _ hy)]
theorem turns_rows (X : List (List Nat × Nat)) : turnsM X = (X.map (·.1)).map turnM := by unfold turnsM; rw [List.map_map]; rfl
theorem part1_at {a b c : Nat} (h : a + b + c = 6) {r : List Nat} (hr : r ∈ perms) : part1 [a, b, c] r = true := by
  have hc : c = 6 - a - b := by lia
  subst hc
  have key : ∀ {n a : Nat}, ((List.range n).all fun b => perms.all fun r => part1 [a, b, 6 - a - b] r) = true → b < n → part1 [a, b, 6 - a - b] r = true := fun h hb =>
    List.all_eq_true.mp (List.all_eq_true.mp h b (List.mem_range.mpr hb)) r hr
  obtain rfl | rfl | rfl | rfl | rfl | rfl | rfl : a = 0 ∨ a = 1 ∨ a = 2 ∨ a = 3 ∨ a = 4 ∨ a = 5 ∨ a = 6 := by lia
  · exact key p1_0 (by lia)
  · exact key p1_1 (by lia)
  · exact key p1_2 (by lia)
  · exact key p1_3 (by lia)
  · exact key p1_4 (by lia)
  · exact key p1_5 (by lia)
  · exact key p1_6 (by lia)
theorem pat_at {a b c : Nat} (h : a + b + c = 6) : patOk [a, b, c] = true := by
  have hc : c = 6 - a - b := by omega
  subst hc
  exact List.all_eq_true.mp (List.all_eq_true.mp pat_ok a (List.mem_range.mpr (by omega))) b (List.mem_range.mpr (by omega))
set_option tactic.hygienic true in
theorem sieve_r {a b c : Nat} (h : a + b + c = 6) {r : List Nat} (hr : r ∈ perms) : Sieve (ordM [a, b, c] (sR r) 6) (turnsM (ordM [a, b, c] (sR r) 6)) (duesM (turnsM (ordM [a, b, c] (sR r) 6))) := by
  have h1 := part1_at h hr
  have h2 := pat_at h
  have hrows := ordM_rows [a, b, c] (sR r) (sR [0, 1, 2]) 6
  have hT : turnsM (ordM [a, b, c] (sR r) 6) = turnsM (ordM [a, b, c] (sR [0, 1, 2]) 6) := by (rewrite [turns_rows, turns_rows, hrows]; try (with_reducible rfl))
  have hL : (ordM [a, b, c] (sR r) 6).length = (ordM [a, b, c] (sR [0, 1, 2]) 6).length := by
    have := congrArg List.length hrows
    rwa [List.length_map, List.length_map] at this
  unfold part1 at h1
  simp only [Bool.and_eq_true, decide_eq_true_eq] at h1
  (refine k0_2 h1 fun ž1 => ?_; obtain ⟨⟨⟨⟨⟨q1, q2⟩, q3⟩, q4⟩, q5⟩, q6⟩ := ž1; intro q7)
  unfold patOk at h2
  refine k1_2 (List.any_eq_true.mp h2) fun p hp h2 => ?_
  simp only [Bool.and_eq_true, decide_eq_true_eq] at h2
  (refine k0_2 h2 fun ž1 => ?_; obtain ⟨r1, r2⟩ := ž1; intro r3')
  rw [← hT] at r1 r2
  rw [← hL] at r3'
  generalize ordM [a, b, c] (sR r) 6 = X at *
  have hfix : ∀ k, k < 6 → fixM (turnsM X) k = p.2.1.getD k 0 := fun k hk => by
    (rewrite [← r2, List.getD_eq_getElem?_getD, List.getElem?_map, List.getElem?_range hk]; try (with_reducible rfl)); rfl
  refine ⟨q1, by unfold duesM; simp, q2, q3, q4, fun e he => ?_, q6, fun k hk => List.all_eq_true.mp q7 k (List.mem_range.mpr hk), fun k b hk hb => ?_, fun k hk => ?_⟩
  · exact of_decide_eq_true (List.all_eq_true.mp q5 e he)
  · have hw := List.all_eq_true.mp w_ok p hp
    unfold wPat at hw
    (rewrite [r1, r3', hfix k hk]; try (with_reducible rfl))
    split at hw
    · rename_i d0 d1 d2 d3 d4 d5 hd
      (rewrite [hd]; try (with_reducible rfl))
      exact wheel_of (List.all_eq_true.mp (List.all_eq_true.mp hw k (List.mem_range.mpr hk)) b (List.mem_range.mpr hb))
    · exact nv4 hw
  · (rewrite [hfix k hk]; try (with_reducible rfl))
    exact of_decide_eq_true (List.all_eq_true.mp (List.all_eq_true.mp f_ok p hp) k (List.mem_range.mpr hk))
end
end Mine
namespace Mine
open PySem PySem.W PySem.Builtin PySem.Builtin.Str PySem.StrLaws
section
noncomputable def mkS (l : List Nat) : Str := ⟨l.toArray⟩
theorem mkS_len (l : List Nat) : (mkS l).length = l.length := by unfold mkS; show l.toArray.size = _; simp
theorem pickS_text (x : Str) (lo hi : Option Int) : pickS x lo hi = sliceText x lo hi := by
  unfold pickS sliceText
  by_cases h : ((strSliceIndices lo hi 1 x.length).length == x.length) = true
  · rw [if_pos h, if_pos (by rw [h]; rfl)]
  · rw [if_neg h, if_neg (by rw [Bool.not_eq_true] at h; rw [h]; decide)]
theorem idx_over {b len : Nat} (h : len ≤ b) : strSliceIndices (some 0) (some (b : Int)) 1 len = strSliceIndices (some 0) (some (len : Int)) 1 len := by
  have a : ¬ ((len : Int) < 0) := by lia
  have a' : ¬ ((b : Int) < 0) := by lia
  have e : min (b : Int) (len : Int) = len := by lia
  simp [strSliceIndices, a, a', e]
theorem pickS_take (l : List Nat) (n : Nat) : pickS (mkS l) none (some (n : Int)) = mkS (l.take n) := by
  have hl := mkS_len l
  rw [pickS_text]
  have e : sliceText (mkS l) none (some (n : Int)) = sliceText (mkS l) (some ((0 : Nat) : Int)) (some ((min n l.length : Nat) : Int)) := by
    unfold sliceText
    rw [sliceIdx_none_lo, hl]
    by_cases q : n ≤ l.length
    · rw [Nat.min_eq_left q]; rfl
    · rw [Nat.min_eq_right (by lia), idx_over (b := n) (by lia)]; rfl
  rw [e, sliceText_nat _ (Nat.zero_le _) (by rw [hl]; lia)]
  unfold mkS
  congr 2
  show (List.take _ (List.drop 0 l)) = _
  rw [List.drop_zero, Nat.sub_zero]
  by_cases q : n ≤ l.length
  · rw [Nat.min_eq_left q]
  · rw [Nat.min_eq_right (by lia), List.take_of_length_le (Nat.le_refl _), List.take_of_length_le (by lia)]
theorem pickS_drop (l : List Nat) {n : Nat} (hn : n ≤ l.length) : pickS (mkS l) (some (n : Int)) none = mkS (l.drop n) := by
  have hl := mkS_len l
  rw [pickS_text]
  have e : sliceText (mkS l) (some (n : Int)) none = sliceText (mkS l) (some (n : Int)) (some ((l.length : Nat) : Int)) := by
    unfold sliceText
    rw [sliceIdx_none_hi, hl]
  rw [e, sliceText_nat _ hn (by rw [hl]; lia)]
  unfold mkS
  congr 2
  show (List.take _ (List.drop n l)) = _
  rw [List.take_of_length_le (by rw [List.length_drop]; lia)]
theorem slice_str {x : Str} {lo hi : Option Int} (h : (pickS x lo hi).length ≤ 65536) : sliceO (.str x) lo hi = some (.str (pickS x lo hi)) := by show (if _ then _ else _) = _; rw [if_pos h]
theorem str_take (l : List Nat) (n : Nat) (hn : n ≤ 1000) : sliceO (.str (mkS l)) none (some (n : Int)) = some (.str (mkS (l.take n))) := by
  rw [← pickS_take]
  refine slice_str ?_
  rw [pickS_take, mkS_len, List.length_take]; lia
theorem str_drop (l : List Nat) {n : Nat} (hn : n ≤ l.length) (hl : l.length ≤ 1000) : sliceO (.str (mkS l)) (some (n : Int)) none = some (.str (mkS (l.drop n))) := by
  rw [← pickS_drop l hn]
  refine slice_str ?_
  rw [pickS_drop l hn, mkS_len, List.length_drop]; lia
noncomputable def rowText : Str := Str.ofString "( ) [ ] : , ; + - * / | & < > = . % { } == != <= >= ~ ^ << >> ** += -= *= /= %= &= |= ^= <<= >>= **= // //= @ @= -> ... := !"
noncomputable def opsS : List Str := Txt.split rowText (Str.ofString " ")
noncomputable def opC (i : Nat) : List Nat := (opsS.getD i (mkS [])).cps.toList
noncomputable def lookI (x : Str) : Int := match lookD tkD (.s x) with
  | some (.int i) => i
  | _ => -1
theorem lookI_of {x : Str} {i : Int} (h : lookI x = i) (hi : i ≠ -1) : lookD tkD (.s x) = some (.int i) := by
  unfold lookI at h
  split at h
  · rename_i q; rw [q, h]
  · exact absurd h.symm hi
noncomputable def opOk (i : Nat) : Bool := decide (lookI (mkS (opC i)) = 7 + (i : Int)) && decide (1 ≤ (opC i).length ∧ (opC i).length ≤ 3) && (opC i).all fun c => decide (c ≠ 32)
theorem ops_ok : ((List.range 48).all opOk) = true := by decide +kernel
theorem ops_len : opsS.length = 48 := by decide +kernel
noncomputable def plainC (c : Nat) : Bool := decide (c ≠ 32) && !(decide (97 ≤ c) && decide (c ≤ 122))
theorem keys_plain : (tkD.all fun e => match e.1 with | .s k => k.cps.toList.all plainC | .i _ => false) = true := by decide +kernel
theorem no_key {l : List Nat} {c : Nat} (hc : c ∈ l) (h : plainC c = false) : lookD tkD (.s (mkS l)) = none := by
  unfold lookD
  have : tkD.find? (fun e => decide (e.1 = DK.s (mkS l))) = none := by
    rw [List.find?_eq_none]
    intro e he q
    rw [decide_eq_true_iff] at q
    have hk := List.all_eq_true.mp keys_plain e he
    rw [q] at hk
    have := List.all_eq_true.mp (show (mkS l).cps.toList.all plainC = true from hk) c (by unfold mkS; simpa using hc)
    rw [h] at this
    exact nv4 this
  rw [this]; rfl
noncomputable def Sy (cs : List Nat) (v : Nat) : Prop := (∃ i, i < 48 ∧ cs = opC i ∧ v = 7 + i) ∨ ∃ j, j < 26 ∧ cs = [97 + j] ∧ v = 256 + j
end
end Mine
namespace Mine
open PySem PySem.W
section
noncomputable def pieceF : Sig → Option PV := i2 (compO .lst (setK 4) [4] (orO (c2 .Eq (vv 4) (cc (.int 1))) (c2 .In (sl2 (vv 0) noO (ptO (vv 4))) (cc (.dct tkD)))) (oneO (sl2 (vv 0) noO (ptO (vv 4)))) 3 (itF (tupO [(cc (.int 3)), (cc (.int 2)), (cc (.int 1))]))) (cc (.int 0))
noncomputable def keyAt (l : List Nat) (n : Nat) : Bool := (lookD tkD (.s (mkS (l.take n)))).isSome
noncomputable def cutN (l : List Nat) : Nat := if keyAt l 3 = true then 3 else if keyAt l 2 = true then 2 else 1
theorem item_first (p : PV) (l : List PV) : itemO (.lst (p :: l)) (.int 0) = some p := by
  show (if smallI 0 = true then (seqIndex? 0 (p :: l).length).bind ((p :: l)[·]?) else none) = _
  have s1 : seqIndex? 0 (p :: l).length = some 0 := by unfold seqIndex?; simp
  rw [if_pos (by decide), s1]; rfl
theorem piece_gen {l : List Nat} {σ : Sig} (v0 : σ 0 = some (.pv (.str (mkS l)))) : pieceF σ = some (.str (mkS (l.take (cutN l)))) := by
  have hx : compO .lst (setK 4) [4] (orO (c2 .Eq (vv 4) (cc (.int 1))) (c2 .In (sl2 (vv 0) noO (ptO (vv 4))) (cc (.dct tkD)))) (oneO (sl2 (vv 0) noO (ptO (vv 4)))) 3 (itF (tupO [(cc (.int 3)), (cc (.int 2)), (cc (.int 1))])) σ = some (.lst (([3, 2, 1].filter fun n => decide (n = 1) || keyAt l n).map fun n => PV.str (mkS (l.take n)))) := by
    refine comp_filt natP (fun n => decide (n = 1) || keyAt l n) (fun n => PV.str (mkS (l.take n))) [3, 2, 1] rfl (by decide) fun n hn => ?_
    have hn3 : n ≤ 3 := by simp at hn; lia
    refine ⟨_, rfl, ?_, fun ž1 => ?_⟩
    all_goals
      generalize hτ : ((σ.below 3).clear [4]).set 4 (.pv (natP n)) = τ
      have w0 : vv 0 τ = some (.str (mkS l)) := vv_of (by rw [← hτ]; exact v0)
      have w4 : vv 4 τ = some (.int (n : Int)) := vv_of (by rw [← hτ]; rfl)
      have e1 : sl2 (vv 0) noO (ptO (vv 4)) τ = some (.str (mkS (l.take n))) := by
        unfold sl2 noO ptO
        rw [w0, w4]
        exact str_take l n (by lia)
    · have c1 : c2 .Eq (vv 4) (cc (.int 1)) τ = some (decide (n = 1)) := (c2_of w4 rfl).trans (eq_nat n 1)
      have c2' : c2 .In (sl2 (vv 0) noO (ptO (vv 4))) (cc (.dct tkD)) τ = some (keyAt l n) := (c2_of e1 rfl).trans rfl
      unfold orO
      rw [c1, Option.bind_some, c2']
      cases decide (n = 1) <;> rfl
    · exact e1
  unfold pieceF
  rw [i2_of hx rfl]
  unfold cutN
  cases h3 : keyAt l 3 with
  | true =>
    have : ([3, 2, 1].filter fun n => decide (n = 1) || keyAt l n) = 3 :: ([2, 1].filter fun n => decide (n = 1) || keyAt l n) := List.filter_cons_of_pos (by rw [h3]; rfl)
    rw [this, if_pos rfl]; exact item_first _ _
  | false =>
    have e3 : ([3, 2, 1].filter fun n => decide (n = 1) || keyAt l n) = [2, 1].filter fun n => decide (n = 1) || keyAt l n := List.filter_cons_of_neg (by rw [h3]; decide)
    rw [e3, if_neg (by simp)]
    cases h2 : keyAt l 2 with
    | true =>
      have : ([2, 1].filter fun n => decide (n = 1) || keyAt l n) = 2 :: ([1].filter fun n => decide (n = 1) || keyAt l n) := List.filter_cons_of_pos (by rw [h2]; rfl)
      rw [this, if_pos rfl]; exact item_first _ _
    | false =>
      have e2 : ([2, 1].filter fun n => decide (n = 1) || keyAt l n) = [1].filter fun n => decide (n = 1) || keyAt l n := List.filter_cons_of_neg (by rw [h2]; decide)
      have e1 : ([1].filter fun n => decide (n = 1) || keyAt l n) = [1] := rfl
      rw [e2, e1, if_neg (by simp)]; exact item_first _ _
theorem no_at {l : List Nat} {n c : Nat} (hc : c ∈ l.take n) (h : plainC c = false) : keyAt l n = false := by unfold keyAt; rw [no_key hc h]; rfl
theorem op_facts {i : Nat} (hi : i < 48) : lookD tkD (.s (mkS (opC i))) = some (.int (7 + (i : Int))) ∧ (1 ≤ (opC i).length ∧ (opC i).length ≤ 3) ∧ ∀ c ∈ opC i, c ≠ 32 := by
  have h := List.all_eq_true.mp ops_ok i (List.mem_range.mpr hi)
  unfold opOk at h
  simp only [Bool.and_eq_true, decide_eq_true_eq, List.all_eq_true] at h
  exact ⟨lookI_of h.1.1 (by lia), h.1.2, fun c hc => h.2 c hc⟩
theorem blank_no : plainC 32 = false := by decide
theorem letter_no {j : Nat} (hj : j < 26) : plainC (97 + j) = false := by
  unfold plainC
  rw [decide_eq_true (show 97 + j ≠ 32 by lia), decide_eq_true (show 97 ≤ 97 + j by lia), decide_eq_true (show 97 + j ≤ 122 by lia)]
  rfl
noncomputable def Tail (r : List Nat) : Prop := r = [] ∨ ∃ q, r = 32 :: q
theorem cut_sym {cs r : List Nat} {v : Nat} (h : Sy cs v) (hr : Tail r) : (cs ++ r).take (cutN (cs ++ r)) = cs := by
  rcases h with ⟨i, hi, rfl, _⟩ | ⟨j, hj, rfl, _⟩
  · (refine k0_3 (op_facts hi) fun hl ž2 => ?_; obtain ⟨h1, h3⟩ := ž2; intro _)
    generalize opC i = cs at *
    have hk : ∀ n, (cs ++ r).take n = cs → keyAt (cs ++ r) n = true := fun n e => by unfold keyAt; rw [e, hl]; rfl
    rcases hr with rfl | ⟨q, rfl⟩
    · rw [List.append_nil] at *
      have e3 : cs.take 3 = cs := List.take_of_length_le h3
      unfold cutN
      rw [if_pos (hk 3 e3)]; exact e3
    · have hno : ∀ n, cs.length < n → keyAt (cs ++ 32 :: q) n = false := fun n hn => no_at (c := 32) (by
        rw [List.take_append]
        refine List.mem_append.mpr (.inr ?_)
        obtain ⟨m, hm⟩ : ∃ m, n - cs.length = m + 1 := ⟨n - cs.length - 1, by lia⟩
        rw [hm, List.take_succ_cons]; exact .head _) blank_no
      have heq : ∀ n, cs.length = n → (cs ++ 32 :: q).take n = cs := fun n hn => by rw [← hn]; exact List.take_left'  rfl
      unfold cutN
      obtain hL | hL | hL : cs.length = 1 ∨ cs.length = 2 ∨ cs.length = 3 := by lia
      · rw [hno 3 (by lia), hno 2 (by lia), if_neg (by simp), if_neg (by simp)]; exact heq 1 hL
      · rw [hno 3 (by lia), if_neg (by simp), if_pos (hk 2 (heq 2 hL))]; exact heq 2 hL
      · rw [if_pos (hk 3 (heq 3 hL))]; exact heq 3 hL
  · have hno : ∀ n, 0 < n → keyAt ([97 + j] ++ r) n = false := fun n hn => no_at (c := 97 + j) (by
      obtain ⟨m, rfl⟩ : ∃ m, n = m + 1 := ⟨n - 1, by lia⟩
      rw [List.cons_append, List.take_succ_cons]; exact .head _) (letter_no hj)
    unfold cutN
    rw [hno 3 (by lia), hno 2 (by lia), if_neg (by simp), if_neg (by simp)]
    rfl
theorem cut_blank (r : List Nat) : (32 :: r).take (cutN (32 :: r)) = [32] := by
  have hno : ∀ n, 0 < n → keyAt (32 :: r) n = false := fun n hn => no_at (c := 32) (by
    obtain ⟨m, rfl⟩ : ∃ m, n = m + 1 := ⟨n - 1, by lia⟩
    rw [List.take_succ_cons]; exact .head _) blank_no
  unfold cutN
  rw [hno 3 (by lia), hno 2 (by lia), if_neg (by simp), if_neg (by simp)]
  rfl
noncomputable def cutTest : Sig → Option Bool := c2 .NotEq (vv 0) (cc (.str (Str.ofString "")))
noncomputable def cutSym : Sig → Option PV := lstO [(methO "dict" getΦ (cc (.dct tkD)) [(vv 2), (b2 .Sub (b2 .Add (cc (.int 256)) (callO ordΦ [(i2 (vv 2) (cc (.int 0)))])) (cc (.int 97)))])]
noncomputable def cutExt : Sig → Option (Fl × Sig) := extO 1 (iteO (c2 .NotEq (vv 2) (cc (.str (Str.ofString " ")))) cutSym (lstO []))
noncomputable def cutRest : Sig → Option (Fl × Sig) := setF 0 (sl2 (vv 0) (ptO (callO lenΦ [(vv 2)])) noO)
noncomputable def cutBody : Sig → Option (Fl × Sig) := seqF (setF 2 pieceF) (seqF cutExt (seqF cutRest nextF))
theorem law_cut_eq : F_law_cut = seqF (setL 1 (olL [])) (seqF (whileF cutTest cutBody 60) (frz 1 (seqF (retF (b2 .Add (vv 1) (lstO [(cc (.int 0))]))) nextF))) := rfl
theorem empty_str : Str.ofString "" = mkS [] := by decide +kernel
theorem blank_str : Str.ofString " " = mkS [32] := by decide +kernel
theorem str_ne (a b : List Nat) : cmpO .NotEq (.str (mkS a)) (.str (mkS b)) = some (!decide (a = b)) := by
  show some (!(mkS a == mkS b)) = _
  congr 2
  rw [Bool.eq_iff_iff, beq_iff_eq, decide_eq_true_iff]
  constructor
  · intro h
    have := congrArg (fun s : Str => s.cps.toList) h
    simpa [mkS] using this
  · rintro rfl; rfl
theorem cut_turn {l p : List Nat} {o : List Int} (hp : l.take (cutN l) = p) (hpl : p.length ≤ l.length) (hl : l.length ≤ 1000) (hplen : p.length ≤ 3) {acc : List Int} (ha : acc.length + o.length ≤ 1000) {σ : Sig} (v0 : σ 0 = some (.pv (.str (mkS l)))) (v1 : σ 1 = some (.ol (acc.map PV.int)))
    (ho : ∀ τ : Sig, τ 2 = some (.pv (.str (mkS p))) → iteO (c2 .NotEq (vv 2) (cc (.str (Str.ofString " ")))) cutSym (lstO []) τ = some (.lst (o.map PV.int))) :
    ∃ τ, cutBody σ = some (.next, τ) ∧ τ 0 = some (.pv (.str (mkS (l.drop p.length)))) ∧ τ 1 = some (.ol ((acc ++ o).map PV.int)) := by
  have e1 := piece_gen v0
  rw [hp] at e1
  generalize hρ : σ.set 2 (.pv (.str (mkS p))) = ρ
  have s1 : setF 2 pieceF σ = some (.next, ρ) := by rw [← hρ]; exact setF_of e1
  have w1 : ρ 1 = some (.ol (acc.map PV.int)) := by rw [← hρ]; exact v1
  have w0 : ρ 0 = some (.pv (.str (mkS l))) := by rw [← hρ]; exact v0
  have w2 : ρ 2 = some (.pv (.str (mkS p))) := by rw [← hρ]; rfl
  generalize hω : ρ.set 1 (.ol ((acc ++ o).map PV.int)) = ω
  have s2 : cutExt ρ = some (.next, ω) := by
    unfold cutExt extO
    rw [w1, Option.bind_some, ho ρ w2, Option.bind_some]
    show (if (acc.map PV.int).length + (o.map PV.int).length ≤ 65536 then some (Fl.next, ρ.set 1 (.ol (acc.map PV.int ++ o.map PV.int))) else none) = _
    rw [if_pos (by rw [List.length_map, List.length_map]; lia), ← List.map_append, hω]
  have x0 : vv 0 ω = some (.str (mkS l)) := vv_of (by rw [← hω]; exact w0)
  have x2 : vv 2 ω = some (.str (mkS p)) := vv_of (by rw [← hω]; exact w2)
  have el : lenΦ [.str (mkS p)] = some (.int (p.length : Int)) := by
    show (if (mkS p).length < 2 ^ 60 then some (PV.int ((mkS p).length : Nat)) else none) = _
    rw [mkS_len, if_pos (by lia)]
  have es : sl2 (vv 0) (ptO (callO lenΦ [(vv 2)])) noO ω = some (.str (mkS (l.drop p.length))) := by
    have ec : callO lenΦ [(vv 2)] ω = some (.int (p.length : Int)) := (call1 x2).trans el
    unfold sl2 ptO noO
    rw [x0, ec]
    exact str_drop l hpl hl
  refine ⟨ω.set 0 (.pv (.str (mkS (l.drop p.length)))), ?_, rfl, by rw [← hω]; rfl⟩
  unfold cutBody
  rw [seqF_next s1, seqF_next s2, seqF_next (show cutRest ω = some (.next, ω.set 0 (.pv (.str (mkS (l.drop p.length))))) from setF_of es)]
  rfl
theorem out_blank (τ : Sig) (h : τ 2 = some (.pv (.str (mkS [32])))) : iteO (c2 .NotEq (vv 2) (cc (.str (Str.ofString " ")))) cutSym (lstO []) τ = some (.lst (([] : List Int).map PV.int)) := by
  have e : c2 .NotEq (vv 2) (cc (.str (Str.ofString " "))) τ = some false := by
    rw [blank_str, c2_of (vv_of h) rfl, str_ne]; rfl
  unfold iteO
  rw [e]; rfl
theorem out_sym {cs : List Nat} {v : Nat} (h : Sy cs v) (τ : Sig) (h2 : τ 2 = some (.pv (.str (mkS cs)))) : iteO (c2 .NotEq (vv 2) (cc (.str (Str.ofString " ")))) cutSym (lstO []) τ = some (.lst ([(v : Int)].map PV.int)) := by
  have hne : cs ≠ [32] ∧ ∃ c r, cs = c :: r := by
    rcases h with ⟨i, hi, rfl, _⟩ | ⟨j, hj, rfl, _⟩
    · (refine k0_3 (op_facts hi) fun _ ž2 => ?_; obtain ⟨h1, _⟩ := ž2; intro h3)
      refine ⟨fun e => h3 32 (by rw [e]; simp) rfl, ?_⟩
      cases q : opC i with
      | nil => rw [q] at h1; simp at h1
      | cons c r => exact ⟨c, r, rfl⟩
    · refine ⟨fun e => by simp at e; lia, _, _, rfl⟩
  obtain ⟨hne, c, r, hcr⟩ := hne
  have e : c2 .NotEq (vv 2) (cc (.str (Str.ofString " "))) τ = some true := by
    rw [blank_str, c2_of (vv_of h2) rfl, str_ne, decide_eq_false hne]; rfl
  have e1 : i2 (vv 2) (cc (.int 0)) τ = some (.str (mkS [c])) := by
    rw [i2_of (vv_of h2) rfl, hcr]
    show (if smallI 0 = true then ((seqIndex? 0 (mkS (c :: r)).length).bind ((mkS (c :: r)).cps[·]?)).map (fun c => PV.str ⟨#[c]⟩) else none) = _
    have s1 : seqIndex? 0 (mkS (c :: r)).length = some 0 := by rw [mkS_len]; unfold seqIndex?; simp
    rw [if_pos (by decide), s1]; rfl
  have e2 : callO ordΦ [(i2 (vv 2) (cc (.int 0)))] τ = some (.int (c : Int)) := (call1 e1).trans rfl
  have e3 : b2 .Sub (b2 .Add (cc (.int 256)) (callO ordΦ [(i2 (vv 2) (cc (.int 0)))])) (cc (.int 97)) τ = some (.int (256 + (c : Int) - 97)) := (b2_of ((b2_of rfl e2).trans rfl) rfl).trans rfl
  have e4 : methO "dict" getΦ (cc (.dct tkD)) [(vv 2), (b2 .Sub (b2 .Add (cc (.int 256)) (callO ordΦ [(i2 (vv 2) (cc (.int 0)))])) (cc (.int 97)))] τ = some (.int (v : Int)) := by
    unfold methO seqO seqO seqO cc
    rw [vv_of h2]
    unfold cc at e3
    rw [e3]
    show (some ((lookD tkD (.s (mkS cs))).getD (.int (256 + (c : Int) - 97)))) = _
    rcases h with ⟨i, hi, rfl, rfl⟩ | ⟨j, hj, rfl, rfl⟩
    · rw [(op_facts hi).1]
      show some (PV.int (7 + (i : Int))) = _
      congr 2
    · rw [no_key (c := 97 + j) (by simp) (letter_no hj)]
      injection hcr with hc _
      subst hc
      show some (PV.int _) = _
      congr 2
      lia
  unfold iteO
  rw [e, Option.bind_some, if_pos rfl]
  unfold cutSym lstO seqO seqO
  rw [e4]; rfl
end
section
noncomputable def tailOf : List (List Nat × Nat) → List Nat
  | [] => []
  | t :: r => 32 :: (t.1 ++ tailOf r)
noncomputable def textOf : List (List Nat × Nat) → List Nat
  | [] => []
  | t :: r => t.1 ++ tailOf r
theorem tail_tail (r : List (List Nat × Nat)) : Tail (tailOf r) := by
  cases r with
  | nil => exact .inl rfl
  | cons t r => exact .inr ⟨_, rfl⟩
theorem sy_len {cs : List Nat} {v : Nat} (h : Sy cs v) : 1 ≤ cs.length ∧ cs.length ≤ 3 := by
  rcases h with ⟨i, hi, rfl, _⟩ | ⟨j, hj, rfl, _⟩
  · exact (op_facts hi).2.1
  · exact ⟨by simp, by simp⟩
theorem tail_len : ∀ {r : List (List Nat × Nat)}, (∀ t ∈ r, Sy t.1 t.2) → (tailOf r).length ≤ 4 * r.length
  | [], _ => by simp [tailOf]
  | t :: r, h => by
    have h1 := sy_len (h t (.head _))
    have ih := tail_len fun x hx => h x (.tail _ hx)
    show (32 :: (t.1 ++ tailOf r)).length ≤ _
    simp only [List.length_cons, List.length_append]
    lia
theorem cut_test {l : List Nat} {σ : Sig} (v0 : σ 0 = some (.pv (.str (mkS l)))) : cutTest σ = some (!decide (l = [])) := by
  unfold cutTest
  rw [empty_str, c2_of (vv_of v0) rfl, str_ne]
theorem while_next {t : Sig → Option Bool} {F : Sig → Option (Fl × Sig)} {n : Nat} {σ τ : Sig} (h1 : t σ = some true) (h2 : F σ = some (.next, τ)) : whileF t F (n + 1) σ = whileF t F n τ := by
  rw [whileF, h1, Option.bind_some, if_pos rfl, h2]; rfl
theorem cut_while : ∀ (toks : List (List Nat × Nat)) (n : Nat) (acc : List Int) (σ : Sig), (∀ t ∈ toks, Sy t.1 t.2) → 2 * toks.length < n → toks.length ≤ 100 → acc.length + toks.length ≤ 1000 → σ 0 = some (.pv (.str (mkS (textOf toks)))) → σ 1 = some (.ol (acc.map PV.int)) →
    ∃ τ, whileF cutTest cutBody n σ = some (.next, τ) ∧ τ 1 = some (.ol ((acc ++ toks.map fun t => (t.2 : Int)).map PV.int))
  | [], n + 1, acc, σ, _, _, _, _, v0, v1 => by
    refine ⟨σ, ?_, by rw [List.map_nil, List.append_nil]; exact v1⟩
    unfold whileF
    rw [cut_test v0]
    rfl
  | t :: r, n + 1, acc, σ, hs, hn, hl, ha, v0, v1 => by
    rw [List.length_cons] at hn hl ha
    have st := hs t (.head _)
    have hr : ∀ x ∈ r, Sy x.1 x.2 := fun x hx => hs x (.tail _ hx)
    have ht := sy_len st
    have htl := tail_len hr
    have hne : decide (t.1 ++ tailOf r = []) = false := decide_eq_false fun e => by
      rw [List.append_eq_nil_iff] at e
      rw [e.1] at ht
      simp at ht
    refine k1_3 (cut_turn (l := t.1 ++ tailOf r) (p := t.1) (o := [(t.2 : Int)]) (cut_sym st (tail_tail r)) (by rw [List.length_append]; lia) (by rw [List.length_append]; lia) ht.2 (acc := acc) (by simp; lia) v0 v1 (out_sym st)) fun τ t1 t2 t3 => ?_
    rw [List.drop_left] at t2
    have w1 : whileF cutTest cutBody (n + 1) σ = whileF cutTest cutBody n τ := while_next (by rw [cut_test v0]; show some (!decide (t.1 ++ tailOf r = [])) = _; rw [hne]; rfl) t1
    cases r with
    | nil =>
      refine k1_2 (cut_while [] n (acc ++ [(t.2 : Int)]) τ (fun ž1 h => nomatch h) (by simp; lia) (by simp) (by simp; lia) t2 t3) fun ρ r1 r2 => ?_
      exact ⟨ρ, w1.trans r1, by rw [r2]; simp⟩
    | cons u r =>
      obtain ⟨m, rfl⟩ : ∃ m, n = m + 1 := ⟨n - 1, by simp only [List.length_cons] at hn; lia⟩
      have htl2 : (32 :: (u.1 ++ tailOf r)).length ≤ 4 * (r.length + 1) := htl
      simp only [List.length_cons] at hn hl ha htl2
      refine k1_3 (cut_turn (l := 32 :: (u.1 ++ tailOf r)) (p := [32]) (o := []) (cut_blank _) (by simp) (by simp only [List.length_cons]; lia) (by simp) (acc := acc ++ [(t.2 : Int)]) (by simp; lia) t2 t3 out_blank) fun ω o1 o2 o3 => ?_
      have w2 : whileF cutTest cutBody (m + 1) τ = whileF cutTest cutBody m ω := while_next (by
        rw [cut_test t2]
        have hne2 : decide (tailOf (u :: r) = []) = false := decide_eq_false fun e => by cases e
        rw [hne2]; rfl) o1
      rw [List.append_nil] at o3
      refine k1_2 (cut_while (u :: r) m (acc ++ [(t.2 : Int)]) ω hr (by simp only [List.length_cons]; lia) (by simp only [List.length_cons]; lia) (by simp only [List.length_append, List.length_cons, List.length_nil]; lia) o2 o3) fun ρ r1 r2 => ?_
      exact ⟨ρ, w1.trans (w2.trans r1), by rw [r2]; simp⟩
theorem add_lsts (l m : List Nat) (h : l.length + m.length ≤ 1000) : PV.bin .Add (.lst (l.map natP)) (.lst (m.map natP)) = some (.lst ((l ++ m).map natP)) := by
  show (if _ then _ else _) = _
  rw [if_pos (by rw [List.length_map, List.length_map]; lia), List.map_append]
theorem law_cut (toks : List (List Nat × Nat)) (hs : ∀ t ∈ toks, Sy t.1 t.2) (hl : toks.length < 30) : Φ_law_cut [.str (mkS (textOf toks))] = some (.lst (((toks.map fun (t : List Nat × Nat) => t.2) ++ [0]).map natP)) := by
  refine k1_2 (cut_while toks 60 [] ((argSig [.str (mkS (textOf toks))]).set 1 (.ol [])) hs (by lia) (by lia) (by simp; lia) rfl rfl) fun τ t1 t2 => ?_
  rw [List.nil_append] at t2
  have e0 : (toks.map fun t => (t.2 : Int)).map PV.int = (toks.map fun t => t.2).map natP := by rw [List.map_map, List.map_map]; rfl
  rw [e0] at t2
  refine runF_of rfl (σ' := τ.set 1 (.pv (.lst ((toks.map fun t => t.2).map natP)))) ?_
  rw [law_cut_eq, seqF_next (σ₁ := (argSig [.str (mkS (textOf toks))]).set 1 (.ol [])) rfl, seqF_next t1]
  unfold frz
  rw [t2, Option.bind_some]
  refine seqF_ret ?_
  have e := add_lsts (toks.map fun t => t.2) [0] (by rw [List.length_map, List.length_singleton]; lia)
  have e3 : vv 1 (τ.set 1 (.pv (frzV (.ol ((toks.map fun t => t.2).map natP))))) = some (.lst ((toks.map fun t => t.2).map natP)) := rfl
  unfold retF
  rw [b2_of e3 (show lstO [cc (.int 0)] _ = some (.lst ([0].map natP)) from rfl), e]
  rfl
theorem glued_text (t : List Nat × Nat) (r : List (List Nat × Nat)) : Txt.join (mkS [32]) ((t :: r).map fun t => mkS t.1) = mkS (textOf (t :: r)) := by
  have key : ∀ (r : List (List Nat × Nat)) (acc : List Nat), (r.map fun t => mkS t.1).foldl (fun acc (p : Str) => acc ++ (mkS [32]).cps ++ p.cps) acc.toArray = (acc ++ tailOf r).toArray := by
    intro r
    induction r with
    | nil => intro acc; simp [tailOf]
    | cons u r ih =>
      intro acc
      rw [List.map_cons, List.foldl_cons]
      have : acc.toArray ++ (mkS [32]).cps ++ (mkS u.1).cps = (acc ++ 32 :: u.1).toArray := by simp [mkS]
      rw [this, ih]
      show _ = (acc ++ 32 :: (u.1 ++ tailOf r)).toArray
      simp
  show (⟨((t :: r).map fun t => mkS t.1).drop 1 |>.foldl _ _⟩ : Str) = _
  unfold mkS textOf
  congr 1
  exact key r t.1
theorem strs_map (l : List (List Nat × Nat)) : strsO (l.map fun t => PV.str (mkS t.1)) = some (l.map fun t => mkS t.1) := by
  induction l with
  | nil => rfl
  | cons t l ih => rw [List.map_cons]; unfold strsO; rw [ih]; rfl
theorem join_room : ∀ (l : List (List Nat × Nat)) (a : Nat), (∀ t ∈ l, t.1.length ≤ 3) → (l.map fun t => mkS t.1).foldl (fun a (s : Str) => a + s.length + (mkS [32]).length) a ≤ a + 4 * l.length
  | [], a, _ => Nat.le_refl _
  | t :: l, a, h => by
    rw [List.map_cons, List.foldl_cons]
    have h1 := h t (.head _)
    have ih := join_room l (a + (mkS t.1).length + (mkS [32]).length) fun x hx => h x (.tail _ hx)
    rw [mkS_len, mkS_len] at ih ⊢
    simp only [List.length_cons, List.length_nil] at ih ⊢
    lia
theorem join_toks (t : List Nat × Nat) (r : List (List Nat × Nat)) (h : ∀ x ∈ t :: r, x.1.length ≤ 3) (hl : (t :: r).length ≤ 100) : joinΦ [.str (Str.ofString " "), .lst ((t :: r).map fun t => PV.str (mkS t.1))] = some (.str (mkS (textOf (t :: r)))) := by
  rw [blank_str]
  show (strsO ((t :: r).map fun t => PV.str (mkS t.1))).bind _ = _
  rw [strs_map, Option.bind_some]
  have hok : JoinOk (mkS [32]) ((t :: r).map fun t => mkS t.1) = true := by
    have := join_room (t :: r) 0 h
    unfold JoinOk Builtin.Str.tooLong
    rw [List.foldl_toArray']
    · rw [sizeLine_eq]
      simp only [Bool.not_eq_true', decide_eq_false_iff_not]
      lia
    · simp
  rw [if_pos hok, glued_text]
end
section
noncomputable abbrev Tri := Int × Int × Int
noncomputable def it3 (f : Nat) (t : Tri) : List (Nat × Int) := [(f, t.1), (1 - f, t.2.1), (2, t.2.2)]
noncomputable def keyM (f : Nat) (t : Tri) (c : List Nat) : List Int := [t.1 * (c.getD f 0 : Nat), t.2.1 * (c.getD (1 - f) 0 : Nat), t.2.2 * (c.getD 2 0 : Nat)]
noncomputable def cmpI (c d : List Nat) : List (Nat × Int) → Int
  | [] => 0
  | (i, t) :: r => if c.getD i 0 < d.getD i 0 then -t else if d.getD i 0 < c.getD i 0 then t else cmpI c d r
noncomputable def One (t : Int) : Prop := t = 1 ∨ t = -1
noncomputable def Ones (t : Tri) : Prop := One t.1 ∧ One t.2.1 ∧ One t.2.2
theorem cmp_one {t : Int} (ht : One t) (x y : Nat) (rest : Int) : (if x < y then -t else if y < x then t else rest) = if t * (x : Int) = t * (y : Int) then rest else if t * (x : Int) < t * (y : Int) then -1 else 1 := by
  rcases ht with rfl | rfl
  · by_cases h1 : x < y
    · rw [if_pos h1, if_neg (by lia), if_pos (by lia)]
    · by_cases h2 : y < x
      · rw [if_neg h1, if_pos h2, if_neg (by lia), if_neg (by lia)]
      · rw [if_neg h1, if_neg h2, if_pos (by lia)]
  · by_cases h1 : x < y
    · rw [if_pos h1, if_neg (by lia), if_neg (by lia)]; rfl
    · by_cases h2 : y < x
      · rw [if_neg h1, if_pos h2, if_neg (by lia), if_pos (by lia)]
      · rw [if_neg h1, if_neg h2, if_pos (by lia)]
noncomputable def toldBy (k l : List Int) : Int := if k = l then 0 else if lexLt k l = true then -1 else 1
theorem cmpI_key {f : Nat} {t : Tri} (ht : Ones t) (c d : List Nat) : cmpI c d (it3 f t) = toldBy (keyM f t c) (keyM f t d) := by
  refine k0_3 ht fun h0 h1 h2 => ?_
  unfold it3 toldBy keyM
  show (if _ then _ else if _ then _ else (if _ then _ else if _ then _ else (if _ then _ else if _ then _ else (0 : Int)))) = _
  rw [cmp_one h0, cmp_one h1, cmp_one h2]
  generalize t.1 * ((c.getD f 0 : Nat) : Int) = a0
  generalize t.1 * ((d.getD f 0 : Nat) : Int) = b0
  generalize t.2.1 * ((c.getD (1 - f) 0 : Nat) : Int) = a1
  generalize t.2.1 * ((d.getD (1 - f) 0 : Nat) : Int) = b1
  generalize t.2.2 * ((c.getD 2 0 : Nat) : Int) = a2
  generalize t.2.2 * ((d.getD 2 0 : Nat) : Int) = b2
  simp only [lexLt, List.cons.injEq, and_true]
  by_cases e0 : a0 = b0
  · by_cases e1 : a1 = b1
    · by_cases e2 : a2 = b2
      · simp [e0, e1, e2]
      · simp [e0, e1, e2]
    · simp [e0, e1]
  · simp [e0]
theorem lex_irr : ∀ k : List Int, lexLt k k = false
  | [] => rfl
  | a :: k => by unfold lexLt; rw [if_pos rfl]; exact lex_irr k
theorem lex_cons (a b : Int) (k l : List Int) : lexLt (a :: k) (b :: l) = true ↔ a < b ∨ (a = b ∧ lexLt k l = true) := by
  rw [lexLt]
  split
  · rename_i h; subst h; exact ⟨fun h => .inr ⟨rfl, h⟩, fun h => h.elim (fun h => absurd h (Int.lt_irrefl _)) fun h => h.2⟩
  · rename_i h; rw [decide_eq_true_iff]; exact ⟨.inl, fun q => q.elim id fun q => absurd q.1 h⟩
theorem lex_trans : ∀ k l m : List Int, lexLt k l = true → lexLt l m = true → lexLt k m = true
  | [], [], _, h, _ => nomatch h
  | [], _ :: _, [], _, h => nomatch h
  | [], _ :: _, _ :: _, _, _ => rfl
  | _ :: _, [], _, h, _ => nomatch h
  | _ :: _, _ :: _, [], _, h => nomatch h
  | a :: k, b :: l, c :: m, h, h' => by
    rw [lex_cons] at h h' ⊢
    rcases h with h | ⟨rfl, h⟩
    · exact h'.elim (fun h' => .inl (Int.lt_trans h h')) fun h' => .inl (h'.1 ▸ h)
    · exact h'.imp id fun h' => ⟨h'.1, lex_trans k l m h h'.2⟩
theorem lex_tot : ∀ k l : List Int, lexLt k l = false → k ≠ l → lexLt l k = true
  | [], [], _, h => absurd rfl h
  | [], _ :: _, h, _ => nomatch h
  | _ :: _, [], _, _ => rfl
  | a :: k, b :: l, h, hn => by
    rw [lex_cons]
    have h : ¬ (a < b ∨ (a = b ∧ lexLt k l = true)) := fun q => by rw [(lex_cons a b k l).mpr q] at h; exact nv3 h
    refine Or.elim (Int.lt_trichotomy a b) (fun q => ?_) fun ž => Or.elim ž (fun q => ?_) fun q => ?_
    · exact absurd (.inl q) h
    · subst q
      refine .inr ⟨rfl, lex_tot k l (Bool.eq_false_iff.mpr fun q => h (.inr ⟨rfl, q⟩)) fun e => hn (by rw [e])⟩
    · exact .inl q
theorem told_lex (k l : List Int) : decide (toldBy k l = 1) = lexLt l k := by
  unfold toldBy
  by_cases e : k = l
  · rw [if_pos e, e, lex_irr]; rfl
  · rw [if_neg e]
    cases h : lexLt k l
    · rw [lex_tot k l h e]; rfl
    · cases h' : lexLt l k
      · rfl
      · have := lex_trans k l k h h'
        rw [lex_irr] at this; exact nv4 this
theorem fin3 : ∀ b01 b02 b12 : Bool, (b01 = true → b12 = true → b02 = true) → (b01 = false → b12 = false → b02 = false) → ∃ r ∈ perms, sR r 0 1 = b01 ∧ sR r 0 2 = b02 ∧ sR r 1 2 = b12 ∧ sR r 1 0 = !b01 ∧ sR r 2 0 = !b02 ∧ sR r 2 1 = !b12 := by decide
theorem perm_of {k : Nat → List Int} (hd : ∀ i j, i < 3 → j < 3 → i ≠ j → k i ≠ k j) : ∃ r ∈ perms, ∀ i j, i < 3 → j < 3 → decide (toldBy (k i) (k j) = 1) = sR r i j := by
  have flip : ∀ i j, k i ≠ k j → lexLt (k i) (k j) = !lexLt (k j) (k i) := fun i j hn => by
    cases h : lexLt (k j) (k i)
    · exact lex_tot _ _ h (Ne.symm hn)
    · cases h' : lexLt (k i) (k j)
      · rfl
      · have := lex_trans _ _ _ h h'
        rw [lex_irr] at this; exact nv4 this
  have f10 := flip 0 1 (hd 0 1 (by decide) (by decide) (by decide))
  have f20 := flip 0 2 (hd 0 2 (by decide) (by decide) (by decide))
  have f21 := flip 1 2 (hd 1 2 (by decide) (by decide) (by decide))
  obtain ⟨r, hr, h01, h02, h12, h10, h20, h21⟩ := fin3 (lexLt (k 1) (k 0)) (lexLt (k 2) (k 0)) (lexLt (k 2) (k 1)) (fun h1 h2 => lex_trans _ _ _ h2 h1) fun h1 h2 => by
    rw [h1] at f10
    rw [h2] at f21
    have := lex_trans _ _ _ f10 f21
    rw [f20] at this
    exact Bool.not_eq_true' _ ▸ this
  have self : ∀ i, lexLt (k i) (k i) = sR r i i := fun i => by rw [lex_irr]; unfold sR; rw [decide_eq_false (Nat.lt_irrefl _)]
  refine ⟨r, hr, fun i j hi hj => (told_lex _ _).trans ?_⟩
  exact all3 (p := fun i => ∀ j, j < 3 → lexLt (k j) (k i) = sR r i j) (all3 (self 0) h01.symm h02.symm) (all3 (f10.trans h10.symm) (self 1) h12.symm) (all3 (f20.trans h20.symm) (f21.trans h21.symm) (self 2)) i hi j hj
end
section
noncomputable def cmpBody : Sig → Option (Fl × Sig) := (seqF (setF 5 (i2 (vv 1) (vv 3))) (seqF (setF 6 (i2 (vv 2) (vv 3))) (seqF (ifF (c2 .Lt (vv 5) (vv 6)) (seqF (retF (negF (vv 4))) nextF) nextF) (seqF (ifF (c2 .Gt (vv 5) (vv 6)) (seqF (retF (vv 4)) nextF) nextF) nextF))))
theorem compare_eq : F_compare = seqF (loopF (itF (cslF 59 (vv 0))) (tupK [3, 4]) cmpBody) (seqF (retF (cc (.int 0))) nextF) := rfl
theorem item_tup (l : List Nat) {k : Nat} (h : k < l.length) (hz : l.length < 1000) : itemO (.tup (l.map natP)) (natP k) = some (natP (l.getD k 0)) := by
  show (if smallI (k : Int) = true then (seqIndex? (k : Int) (l.map natP).length).bind ((l.map natP)[·]?) else none) = _
  rw [if_pos (by unfold smallI; simp only [Bool.and_eq_true, decide_eq_true_eq]; lia)]
  have e : seqIndex? (k : Int) (l.map natP).length = some k := by
    unfold seqIndex?
    rw [List.length_map]
    simp
    lia
  rw [e, Option.bind_some, List.getElem?_map, List.getElem?_eq_getElem h, List.getD_eq_getElem?_getD, List.getElem?_eq_getElem h]
  rfl
theorem gt_nat (a b : Nat) : cmpO .Gt (natP a) (natP b) = some (decide (b < a)) := by
  show some (decide ((b : Int) < (a : Int))) = _
  congr 1; apply decide_eq_decide.mpr; omega
noncomputable def dirP (e : Nat × Int) : PV := .tup [natP e.1, .int e.2]
theorem cmp_step {c d : List Nat} (hc : c.length = 3) (hd : d.length = 3) {i : Nat} (hi : i < 3) (t : Int) {σ : Sig} (v1 : σ 1 = some (.pv (.tup (c.map natP)))) (v2 : σ 2 = some (.pv (.tup (d.map natP)))) :
    ∃ τ, cmpBody ((σ.set 3 (.pv (natP i))).set 4 (.pv (.int t))) = some (if c.getD i 0 < d.getD i 0 then .ret (.int (-t)) else if d.getD i 0 < c.getD i 0 then .ret (.int t) else .next, τ) ∧ τ 1 = some (.pv (.tup (c.map natP))) ∧ τ 2 = some (.pv (.tup (d.map natP))) := by
  generalize hρ : (σ.set 3 (.pv (natP i))).set 4 (.pv (.int t)) = ρ
  have r1 : vv 1 ρ = some (.tup (c.map natP)) := vv_of (by rw [← hρ]; exact v1)
  have r3' : vv 3 ρ = some (natP i) := vv_of (by rw [← hρ]; rfl)
  have e1 : i2 (vv 1) (vv 3) ρ = some (natP (c.getD i 0)) := (i2_of r1 r3').trans (item_tup c (by lia) (by lia))
  generalize hω : ρ.set 5 (.pv (natP (c.getD i 0))) = ω
  have w2 : vv 2 ω = some (.tup (d.map natP)) := vv_of (by rw [← hω, ← hρ]; exact v2)
  have w3 : vv 3 ω = some (natP i) := vv_of (by rw [← hω, ← hρ]; rfl)
  have e2 : i2 (vv 2) (vv 3) ω = some (natP (d.getD i 0)) := (i2_of w2 w3).trans (item_tup d (by lia) (by lia))
  generalize hτ : ω.set 6 (.pv (natP (d.getD i 0))) = τ
  have x4 : vv 4 τ = some (.int t) := vv_of (by rw [← hτ, ← hω, ← hρ]; rfl)
  have x5 : vv 5 τ = some (natP (c.getD i 0)) := vv_of (by rw [← hτ, ← hω]; rfl)
  have x6 : vv 6 τ = some (natP (d.getD i 0)) := vv_of (by rw [← hτ]; rfl)
  have c1 := (c2_of (op := .Lt) x5 x6).trans (lt_nat _ _)
  have c2' := (c2_of (op := .Gt) x5 x6).trans (gt_nat _ _)
  refine ⟨τ, ?_, by rw [← hτ, ← hω, ← hρ]; exact v1, by rw [← hτ, ← hω, ← hρ]; exact v2⟩
  unfold cmpBody
  rw [seqF_next (show setF 5 (i2 (vv 1) (vv 3)) ρ = some (.next, ω) by rw [← hω]; exact setF_of e1), seqF_next (show setF 6 (i2 (vv 2) (vv 3)) ω = some (.next, τ) by rw [← hτ]; exact setF_of e2)]
  by_cases q : c.getD i 0 < d.getD i 0
  · rw [if_pos q]
    rw [decide_eq_true q] at c1
    refine seqF_ret ?_
    rw [ifF_true c1]
    refine seqF_ret ?_
    unfold retF negF
    rw [x4]; rfl
  · rw [if_neg q]
    rw [decide_eq_false q] at c1
    rw [seqF_next (show ifF (c2 .Lt (vv 5) (vv 6)) (seqF (retF (negF (vv 4))) nextF) nextF τ = some (.next, τ) by rw [ifF_false c1]; rfl)]
    by_cases q2 : d.getD i 0 < c.getD i 0
    · rw [if_pos q2]
      rw [decide_eq_true q2] at c2'
      refine seqF_ret ?_
      rw [ifF_true c2']
      refine seqF_ret ?_
      unfold retF
      rw [x4]; rfl
    · rw [if_neg q2]
      rw [decide_eq_false q2] at c2'
      rw [seqF_next (show ifF (c2 .Gt (vv 5) (vv 6)) (seqF (retF (vv 4)) nextF) nextF τ = some (.next, τ) by rw [ifF_false c2']; rfl)]
      rfl
theorem cmp_loop {c d : List Nat} (hc : c.length = 3) (hd : d.length = 3) : ∀ (its : List (Nat × Int)) (σ : Sig), (∀ e ∈ its, e.1 < 3) → σ 1 = some (.pv (.tup (c.map natP))) → σ 2 = some (.pv (.tup (d.map natP))) →
    ∃ τ, (forF (tupK [3, 4]) cmpBody (its.map dirP) σ = some (.next, τ) ∧ cmpI c d its = 0) ∨ forF (tupK [3, 4]) cmpBody (its.map dirP) σ = some (.ret (.int (cmpI c d its)), τ)
  | [], σ, _, _, _ => ⟨σ, .inl ⟨rfl, rfl⟩⟩
  | (i, t) :: r, σ, hi, v1, v2 => by
    refine k1_3 (cmp_step hc hd (hi (i, t) (.head _)) t v1 v2) fun τ h w1 w2 => ?_
    have hk : tupK [3, 4] (dirP (i, t)) σ = some ((σ.set 3 (.pv (natP i))).set 4 (.pv (.int t))) := rfl
    have ec : cmpI c d ((i, t) :: r) = if c.getD i 0 < d.getD i 0 then -t else if d.getD i 0 < c.getD i 0 then t else cmpI c d r := rfl
    rw [List.map_cons, ec]
    by_cases q : c.getD i 0 < d.getD i 0
    · rw [if_pos q] at h ⊢
      refine ⟨τ, .inr ?_⟩
      show ((tupK [3, 4] (dirP (i, t)) σ).bind fun σ₁ => (cmpBody σ₁).bind fun r => _) = _
      rw [hk, Option.bind_some, h]; rfl
    · rw [if_neg q] at h ⊢
      by_cases q2 : d.getD i 0 < c.getD i 0
      · rw [if_pos q2] at h ⊢
        refine ⟨τ, .inr ?_⟩
        show ((tupK [3, 4] (dirP (i, t)) σ).bind fun σ₁ => (cmpBody σ₁).bind fun r => _) = _
        rw [hk, Option.bind_some, h]; rfl
      · rw [if_neg q2] at h ⊢
        rw [forF_cons hk h]
        exact cmp_loop hc hd r τ (fun e he => hi e (.tail _ he)) w1 w2
noncomputable def judgeP (f : Nat) (t : Tri) : PV := .inst 59 (.tup ((it3 f t).map dirP))
theorem compare_ok {c d : List Nat} (hc : c.length = 3) (hd : d.length = 3) {f : Nat} (hf : f ≤ 1) {t : Tri} (ht : Ones t) :
    Φ_compare [judgeP f t, .tup (c.map natP), .tup (d.map natP)] = some (.int (toldBy (keyM f t c) (keyM f t d))) := by
  obtain ⟨τ, h⟩ := cmp_loop hc hd (it3 f t) (argSig [judgeP f t, .tup (c.map natP), .tup (d.map natP)]) (fun e he => by
    unfold it3 at he
    simp only [List.mem_cons, List.not_mem_nil, or_false] at he
    rcases he with rfl | rfl | rfl
    · show f < 3; omega
    · show 1 - f < 3; omega
    · show 2 < 3; decide) rfl rfl
  rw [← cmpI_key ht]
  have e : itF (cslF 59 (vv 0)) (argSig [judgeP f t, .tup (c.map natP), .tup (d.map natP)]) = some ((it3 f t).map dirP) := rfl
  rcases h with ⟨h1, h2⟩ | h1
  · rw [h2]
    refine runF_of rfl (σ' := τ) ?_
    rw [compare_eq, seqF_next (loopF_of e h1)]
    exact seqF_ret rfl
  · refine runF_of rfl (σ' := τ) ?_
    rw [compare_eq]
    exact seqF_ret (loopF_of e h1)
noncomputable def sgP (v : Int) : PV := .str (if v = 0 then Str.ofString "0" else if v = -1 then Str.ofString "-1" else Str.ofString "1")
theorem told_three (k l : List Int) : toldBy k l = -1 ∨ toldBy k l = 0 ∨ toldBy k l = 1 := by
  unfold toldBy
  split
  · exact .inr (.inl rfl)
  · split
    · exact .inl rfl
    · exact .inr (.inr rfl)
theorem str_told {v : Int} (h : v = -1 ∨ v = 0 ∨ v = 1) : strΦ [.int v] = some (sgP v) := by
  rcases h with rfl | rfl | rfl <;> kernel_rfl
theorem sg_one {v : Int} (h : v = -1 ∨ v = 0 ∨ v = 1) : cmpO .Eq (sgP v) (.str (Str.ofString "1")) = some (decide (v = 1)) := by
  rcases h with rfl | rfl | rfl <;> kernel_rfl
theorem eqq_sg (n : Nat) (v : Int) : eqq n (sgP v) (sgP v) = some true := by
  unfold sgP
  exact (show eqq n (.str _) (.str _) = some (_ == _) by cases n <;> rfl).trans (congrArg some (beq_self_eq_true _))
noncomputable def signsP (ks : List (List Int)) : PV := .lst (ks.map fun k => .lst (ks.map fun l => sgP (toldBy k l)))
theorem eqq_lst (n : Nat) (l : List PV) (h : ∀ x ∈ l, eqq n x x = some true) : eqq (n + 1) (.lst l) (.lst l) = some true := by
  rw [eqq_lst_def, if_pos rfl]
  refine allO_true _ fun x hx => ?_
  rw [List.zipWith_self] at hx
  (refine k1_2 (List.mem_map.mp hx) fun y hy ž3 => ?_; subst ž3)
  exact h y hy
theorem signs_same (ks : List (List Int)) : cmpO .NotEq (signsP ks) (signsP ks) = some false := by
  show (eqq 8 (signsP ks) (signsP ks)).map _ = _
  have : eqq 8 (signsP ks) (signsP ks) = some true := eqq_lst 7 _ fun x hx => by
    (refine k1_2 (List.mem_map.mp hx) fun k _ ž3 => ?_; subst ž3)
    exact eqq_lst 6 _ fun y hy => by
      (refine k1_2 (List.mem_map.mp hy) fun l _ ž3 => ?_; subst ž3)
      exact eqq_sg 6 _
  rw [this]; rfl
theorem eqq_ints (n : Nat) : ∀ {l m : List Int}, l.length = m.length → allO (List.zipWith (eqq n) (l.map PV.int) (m.map PV.int)) = some (decide (l = m))
  | [], [], _ => rfl
  | a :: l, b :: m, h => by
    rw [List.map_cons, List.map_cons, List.zipWith_cons_cons]
    have e : eqq n (.int a) (.int b) = some (decide (a = b)) := by
      rw [eqq_zero_ii]
      congr 1
    have ih := eqq_ints n (l := l) (m := m) (by simpa using h)
    rw [e]
    unfold allO
    rw [ih]
    show some (decide (a = b) && decide (l = m)) = _
    rw [← Bool.decide_and]
    congr 1
    apply decide_eq_decide.mpr
    simp
  | [], _ :: _, h => by simp at h
  | _ :: _, [], h => by simp at h
theorem eq_itup (l m : List Int) (h : l.length = m.length) : cmpO .Eq (.tup (l.map PV.int)) (.tup (m.map PV.int)) = some (decide (l = m)) := by
  exact (eqq_tup_def 7 _ _).trans ((if_pos (by rw [List.length_map, List.length_map]; exact h)).trans (eqq_ints 7 h))
theorem lt_itup (l m : List Int) : ltTO (.tup (l.map PV.int)) (.tup (m.map PV.int)) = some (lexLt l m) := by
  show (intsO (l.map PV.int)).bind _ = _
  rw [intsO_map, Option.bind_some, intsO_map]; rfl
end
section
noncomputable abbrev Tok3 := List Nat × Nat
noncomputable def txP (t : Tok3) : PV := .str (mkS t.1)
noncomputable def kdP (t : Tok3) : PV := natP t.2
noncomputable def colM (t : Tok3) : List Nat := [t.1.length, t.2 % 4, t.2]
noncomputable def colP (t : Tok3) : PV := .tup ((colM t).map natP)
theorem three_map {α : Type} (x y z : Tok3) (g : Tok3 → α) : ([0, 1, 2].map fun k => g (([x, y, z] : List Tok3).getD k ([], 0))) = ([x, y, z] : List Tok3).map g := rfl
theorem item_three (g : Tok3 → PV) (x y z : Tok3) {k : Nat} (hk : k < 3) : itemO (.lst (([x, y, z] : List Tok3).map g)) (natP k) = some (g (([x, y, z] : List Tok3).getD k ([], 0))) := by
  refine item_f g [x, y, z] ?_ (by lia)
  obtain rfl | rfl | rfl : k = 0 ∨ k = 1 ∨ k = 2 := by lia
  all_goals rfl
theorem fmod_nat (a : Int) {b : Nat} (h : 0 < b) : ∃ n : Nat, a.fmod b = n ∧ n < b := by
  have h1 := Int.fmod_nonneg_of_pos a (b := (b : Int)) (by omega)
  have h2 := Int.fmod_lt_of_pos a (b := (b : Int)) (by omega)
  exact ⟨(a.fmod b).toNat, by omega, by omega⟩
noncomputable def turnE : Sig → Option PV := b2 .Sub (cc (.int 1)) (b2 .Mult (cc (.int 2)) (b2 .Mod (b2 .FloorDiv (b2 .FloorDiv (vv 4) (cc (.int 58656))) (b2 .Pow (cc (.int 2)) (vv 37))) (cc (.int 2))))
theorem pow_nat (a : Int) (k : Nat) (ha : a.natAbs < 2 ^ 60) (hk : k ≤ 1024) : PV.bin .Pow (.int a) (natP k) = some (.int (a ^ k)) := by
  show (if _ then _ else _) = _
  rw [if_pos ⟨by lia, by lia, ha⟩, Int.toNat_natCast]
theorem law_10 {rest : Int} {σ : Sig} (v4 : σ 4 = some (.pv (.int rest))) : ∃ t : Tri, Ones t ∧ F_law_10 σ = some (.next, σ.set 12 (.pv (.lst [.int t.1, .int t.2.1, .int t.2.2]))) := by
  obtain ⟨q, hq⟩ : ∃ q, q = rest.fdiv 58656 := ⟨_, rfl⟩
  obtain ⟨g, hg⟩ : ∃ g : Nat → Int, g = fun k => 1 - 2 * ((q.fdiv (2 ^ k)).fmod 2) := ⟨_, rfl⟩
  have hone : ∀ k, One (g k) := fun k => by
    refine k1_2 (fmod_nat (q.fdiv (2 ^ k)) (b := 2) (by decide)) fun n h1 h2 => ?_
    have h1 : (q.fdiv (2 ^ k)).fmod 2 = (n : Int) := h1
    unfold One
    rw [hg]
    show 1 - 2 * ((q.fdiv (2 ^ k)).fmod 2) = 1 ∨ 1 - 2 * ((q.fdiv (2 ^ k)).fmod 2) = -1
    rw [h1]; lia
  refine ⟨(g 0, g 1, g 2), ⟨hone 0, hone 1, hone 2⟩, ?_⟩
  have e : compO .lst (setK 37) [37] yesT (oneO turnE) 36 (itF (callO rangeΦ [(cc (.int 3))])) σ = some (.lst ([0, 1, 2].map fun k => .int (g k))) := by
    refine comp_map natP (fun k => .int (g k)) [0, 1, 2] (r3 σ) (by decide) fun k hk => ?_
    have hk3 : k ≤ 2 := by simp at hk; lia
    refine ⟨_, rfl, ?_⟩
    generalize hρ : ((σ.below 36).clear [37]).set 37 (.pv (natP k)) = ρ
    have e37 : vv 37 ρ = some (natP k) := vv_of (by rw [← hρ]; rfl)
    have e4 : vv 4 ρ = some (.int rest) := vv_of (by rw [← hρ]; exact v4)
    have p1 := pow_nat 2 k (by decide) (by lia)
    have p2 : ((2 : Int) ^ k) ≠ 0 ∧ ((2 : Int) ^ k).natAbs < 1073741824 := by
      obtain rfl | rfl | rfl : k = 0 ∨ k = 1 ∨ k = 2 := by lia
      all_goals decide
    have a1 : b2 .FloorDiv (vv 4) (cc (.int 58656)) ρ = some (.int q) := by rw [hq]; exact (b2_of e4 rfl).trans (fdv _ _ (by decide))
    have a2 : b2 .Pow (cc (.int 2)) (vv 37) ρ = some (.int ((2 : Int) ^ k)) := (b2_of rfl e37).trans p1
    have a3 : b2 .FloorDiv (b2 .FloorDiv (vv 4) (cc (.int 58656))) (b2 .Pow (cc (.int 2)) (vv 37)) ρ = some (.int (q.fdiv (2 ^ k))) := (b2_of a1 a2).trans (fdv _ _ p2)
    have a4 := (b2_of (op := .Mod) a3 (show cc (.int 2) ρ = some (.int 2) from rfl)).trans (fmd _ _ (by decide))
    have a5 := (b2_of (op := .Mult) (show cc (.int 2) ρ = some (.int 2) from rfl) a4).trans (mul_i _ _ (.inl (by decide)))
    have a6 := (b2_of (op := .Sub) (show cc (.int 1) ρ = some (.int 1) from rfl) a5).trans (sub_i _ _)
    rw [hg]
    exact a6
  show (compO .lst (setK 37) [37] yesT (oneO turnE) 36 (itF (callO rangeΦ [(cc (.int 3))])) σ).bind _ = _
  rw [e]; rfl
theorem tupF3 {f g h : Sig → Option PV} {a b c : PV} {σ : Sig} {i j k : Nat} (hf : f σ = some a) (hg : g σ = some b) (hh : h σ = some c) : tupF [i, j, k] [pvL f, pvL g, pvL h] σ = some (.next, ((σ.set i (.pv a)).set j (.pv b)).set k (.pv c)) := by
  unfold tupF seqL seqL seqL seqL pvL
  rw [hf, hg, hh]; rfl
theorem law_11 {rest : Int} {σ : Sig} (v4 : σ 4 = some (.pv (.int rest))) : ∃ f sh b : Nat, f ≤ 1 ∧ (1 ≤ sh ∧ sh ≤ 4) ∧ b < 48 ∧ F_law_11 σ = some (.next, ((σ.set 13 (.pv (natP f))).set 14 (.pv (natP sh))).set 15 (.pv (natP b))) := by
  refine k1_2 (fmod_nat (rest.fdiv 469248) (b := 2) (by decide)) fun f f1 f2 => ?_
  refine k1_2 (fmod_nat (rest.fdiv 938496) (b := 4) (by decide)) fun s s1 s2 => ?_
  refine k1_2 (fmod_nat (5 * rest) (b := 48) (by decide)) fun b b1 b2' => ?_
  have e4 : vv 4 σ = some (.int rest) := vv_of v4
  have x1 : b2 .Mod (b2 .FloorDiv (vv 4) (cc (.int 469248))) (cc (.int 2)) σ = some (natP f) := by
    have := (b2_of (op := .Mod) ((b2_of (op := .FloorDiv) e4 (show cc (.int 469248) σ = some (.int 469248) from rfl)).trans (fdv _ _ (by decide))) (show cc (.int 2) σ = some (.int 2) from rfl)).trans (fmd _ _ (by decide))
    rw [this]
    exact congrArg (fun z => some (PV.int z)) f1
  have x2 : b2 .Mod (b2 .FloorDiv (vv 4) (cc (.int 938496))) (cc (.int 4)) σ = some (natP s) := by
    have := (b2_of (op := .Mod) ((b2_of (op := .FloorDiv) e4 (show cc (.int 938496) σ = some (.int 938496) from rfl)).trans (fdv _ _ (by decide))) (show cc (.int 4) σ = some (.int 4) from rfl)).trans (fmd _ _ (by decide))
    rw [this]
    exact congrArg (fun z => some (PV.int z)) s1
  have x3 : b2 .Mod (b2 .Mult (cc (.int 5)) (vv 4)) (cc (.int 48)) σ = some (natP b) := by
    have := (b2_of (op := .Mod) ((b2_of (op := .Mult) (show cc (.int 5) σ = some (.int 5) from rfl) e4).trans (mul_i _ _ (.inl (by decide)))) (show cc (.int 48) σ = some (.int 48) from rfl)).trans (fmd _ _ (by decide))
    rw [this]
    exact congrArg (fun z => some (PV.int z)) b1
  refine ⟨f, 1 + s, b, by omega, by omega, b2', ?_⟩
  exact tupF3 x1 ((b2_of (op := .Add) (show cc (.int 1) σ = some (natP 1) from rfl) x2).trans (add_nats 1 s)) x3
theorem len_str (l : List Nat) (h : l.length ≤ 1000) : lenΦ [.str (mkS l)] = some (natP l.length) := by
  show (if (mkS l).length < 2 ^ 60 then some (PV.int ((mkS l).length : Nat)) else none) = _
  rw [mkS_len, if_pos (by lia)]
  rfl
theorem law_12 {x y z : Tok3} (hl : ∀ t ∈ [x, y, z], t.1.length ≤ 3) {σ : Sig} (v6 : σ 6 = some (.pv (.lst ([x, y, z].map kdP)))) (v7 : σ 7 = some (.pv (.lst ([x, y, z].map txP)))) : F_law_12 σ = some (.next, σ.set 16 (.pv (.lst ([x, y, z].map colP)))) := by
  have e : compO .lst (setK 37) [37] yesT (oneO (tupO [(callO lenΦ [(i2 (vv 7) (vv 37))]), (b2 .Mod (i2 (vv 6) (vv 37)) (cc (.int 4))), (i2 (vv 6) (vv 37))])) 36 (itF (callO rangeΦ [(cc (.int 3))])) σ = some (.lst ([0, 1, 2].map fun k => colP (([x, y, z] : List Tok3).getD k ([], 0)))) := by
    refine comp_map natP (fun k => colP (([x, y, z] : List Tok3).getD k ([], 0))) [0, 1, 2] (r3 σ) (by decide) fun k hk => ?_
    have hk3 : k < 3 := by simp at hk; lia
    refine ⟨_, rfl, ?_⟩
    generalize hρ : ((σ.below 36).clear [37]).set 37 (.pv (natP k)) = ρ
    have e37 : vv 37 ρ = some (natP k) := vv_of (by rw [← hρ]; rfl)
    have e6 : vv 6 ρ = some (.lst ([x, y, z].map kdP)) := vv_of (by rw [← hρ]; exact v6)
    have e7 : vv 7 ρ = some (.lst ([x, y, z].map txP)) := vv_of (by rw [← hρ]; exact v7)
    have i7 := (i2_of e7 e37).trans (item_three txP x y z hk3)
    have i6 := (i2_of e6 e37).trans (item_three kdP x y z hk3)
    have hlk : (([x, y, z] : List Tok3).getD k ([], 0)).1.length ≤ 1000 := by
      have : ([x, y, z] : List Tok3).getD k ([], 0) ∈ [x, y, z] := by
        obtain rfl | rfl | rfl : k = 0 ∨ k = 1 ∨ k = 2 := by lia
        all_goals simp
      have := hl _ this
      lia
    generalize ([x, y, z] : List Tok3).getD k ([], 0) = t at *
    exact tup3 ((call1 i7).trans (len_str _ hlk)) ((b2_of (op := .Mod) i6 (show cc (.int 4) ρ = some (natP 4) from rfl)).trans (mod_nat _ 4 (by decide))) i6
  show (compO .lst (setK 37) [37] yesT (oneO (tupO [(callO lenΦ [(i2 (vv 7) (vv 37))]), (b2 .Mod (i2 (vv 6) (vv 37)) (cc (.int 4))), (i2 (vv 6) (vv 37))])) 36 (itF (callO rangeΦ [(cc (.int 3))])) σ).bind _ = _
  rw [e, three_map]; rfl
theorem item3 (a b c : PV) : itemO (.lst [a, b, c]) (.int 0) = some a ∧ itemO (.lst [a, b, c]) (.int 1) = some b ∧ itemO (.lst [a, b, c]) (.int 2) = some c := ⟨rfl, rfl, rfl⟩
theorem law_13 {f : Nat} (hf : f ≤ 1) {t : Tri} {σ : Sig} (v12 : σ 12 = some (.pv (.lst [.int t.1, .int t.2.1, .int t.2.2]))) (v13 : σ 13 = some (.pv (natP f))) : F_law_13 σ = some (.next, σ.set 17 (.pv (judgeP f t))) := by
  have e12 := vv_of v12
  have e13 := vv_of v13
  refine k0_3 (item3 (.int t.1) (.int t.2.1) (.int t.2.2)) fun j0 j1 j2 => ?_
  have s1 : b2 .Sub (cc (.int 1)) (vv 13) σ = some (natP (1 - f)) := (b2_of (op := .Sub) (show cc (.int 1) σ = some (natP 1) from rfl) e13).trans (sub_nat 1 f hf)
  refine setF_of ((call1 (tup3 (tup2 e13 ((i2_of e12 rfl).trans j0)) (tup2 s1 ((i2_of e12 rfl).trans j1)) (tup2 rfl ((i2_of e12 rfl).trans j2)))).trans ?_)
  rfl
noncomputable def keyP (f : Nat) (t : Tri) (c : Tok3) : PV := .tup ((keyM f t (colM c)).map PV.int)
theorem mul_one {t : Int} (h : One t) (x : Nat) : PV.bin .Mult (.int t) (natP x) = some (.int (t * (x : Int))) := mul_i _ _ (.inl (by rcases h with rfl | rfl <;> decide))
theorem law_14 {f : Nat} (hf : f ≤ 1) {t : Tri} (ht : Ones t) (L : List Tok3) (hL : L.length ≤ 100) {σ : Sig} (v12 : σ 12 = some (.pv (.lst [.int t.1, .int t.2.1, .int t.2.2]))) (v13 : σ 13 = some (.pv (natP f))) (v16 : σ 16 = some (.pv (.lst (L.map colP)))) :
    F_law_14 σ = some (.next, σ.set 18 (.pv (.lst (L.map (keyP f t))))) := by
  refine setF_of ?_
  refine comp_map colP (keyP f t) L (by unfold itF vv; rw [v16]; rfl) (by omega) fun c ž1 => ?_
  refine ⟨_, rfl, ?_⟩
  generalize hρ : ((σ.below 36).clear [37]).set 37 (.pv (colP c)) = ρ
  have e37 : vv 37 ρ = some (.tup ((colM c).map natP)) := vv_of (by rw [← hρ]; rfl)
  have e12 : vv 12 ρ = some (.lst [.int t.1, .int t.2.1, .int t.2.2]) := vv_of (by rw [← hρ]; exact v12)
  have e13 : vv 13 ρ = some (natP f) := vv_of (by rw [← hρ]; exact v13)
  refine k0_3 (item3 (.int t.1) (.int t.2.1) (.int t.2.2)) fun j0 j1 j2 => ?_
  have s1 : b2 .Sub (cc (.int 1)) (vv 13) ρ = some (natP (1 - f)) := (b2_of (op := .Sub) (show cc (.int 1) ρ = some (natP 1) from rfl) e13).trans (sub_nat 1 f hf)
  have c3 : (colM c).length = 3 := rfl
  have k0 := (i2_of e37 e13).trans (item_tup (colM c) (k := f) (by omega) (by omega))
  have k1 := (i2_of e37 s1).trans (item_tup (colM c) (k := 1 - f) (by omega) (by omega))
  have k2 := (i2_of e37 (show cc (.int 2) ρ = some (natP 2) from rfl)).trans (item_tup (colM c) (k := 2) (by omega) (by omega))
  exact tup3 ((b2_of ((i2_of e12 rfl).trans j0) k0).trans (mul_one ht.1 _)) ((b2_of ((i2_of e12 rfl).trans j1) k1).trans (mul_one ht.2.1 _)) ((b2_of ((i2_of e12 rfl).trans j2) k2).trans (mul_one ht.2.2 _))
theorem inst_of {cA : Addr} {Φ : List PV → Option PV} {f : Sig → Option PV} {fs : List (Sig → Option PV)} {σ : Sig} {p : PV} {ps : List PV} (h1 : f σ = some (.inst cA p)) (h2 : seqO fs σ = some ps) : instO cA Φ f fs σ = Φ (.inst cA p :: ps) := by
  unfold instO
  rw [h1, Option.bind_some, h2]
  simp
theorem law_15 {f : Nat} (hf : f ≤ 1) {t : Tri} (ht : Ones t) (L : List Tok3) (hL : L.length ≤ 100) {σ : Sig} (v16 : σ 16 = some (.pv (.lst (L.map colP)))) (v17 : σ 17 = some (.pv (judgeP f t))) :
    F_law_15 σ = some (.next, σ.set 19 (.pv (signsP (L.map fun c => keyM f t (colM c))))) := by
  refine setF_of ?_
  unfold signsP
  rw [List.map_map]
  refine comp_map colP _ L (by unfold itF vv; rw [v16]; rfl) (by lia) fun c ž1 => ?_
  refine ⟨_, rfl, ?_⟩
  generalize hρ : ((σ.below 36).clear [37]).set 37 (.pv (colP c)) = ρ
  have w37 : ρ 37 = some (.pv (colP c)) := by rw [← hρ]; rfl
  have w16 : ρ 16 = some (.pv (.lst (L.map colP))) := by rw [← hρ]; exact v16
  have w17 : ρ 17 = some (.pv (judgeP f t)) := by rw [← hρ]; exact v17
  show _ = some (PV.lst ((L.map fun c => keyM f t (colM c)).map fun l => sgP (toldBy (keyM f t (colM c)) l)))
  rw [List.map_map]
  refine comp_map colP _ L (by unfold itF vv; rw [w16]; rfl) (by lia) fun d ž1 => ?_
  refine ⟨_, rfl, ?_⟩
  generalize hω : ((ρ.below 38).clear [39]).set 39 (.pv (colP d)) = ω
  have x37 : vv 37 ω = some (.tup ((colM c).map natP)) := vv_of (by rw [← hω]; exact w37)
  have x39 : vv 39 ω = some (.tup ((colM d).map natP)) := vv_of (by rw [← hω]; rfl)
  have x17 : vv 17 ω = some (judgeP f t) := vv_of (by rw [← hω]; exact w17)
  have ec := compare_ok (c := colM c) (d := colM d) rfl rfl hf ht
  have ei : instO 59 Φ_compare (vv 17) [(vv 37), (vv 39)] ω = some (.int (toldBy (keyM f t (colM c)) (keyM f t (colM d)))) := by
    exact (inst_of x17 (show seqO [(vv 37), (vv 39)] ω = some [.tup ((colM c).map natP), .tup ((colM d).map natP)] from seq2 x37 x39)).trans ec
  exact (call1 ei).trans (str_told (told_three _ _))
theorem law_16 {f : Nat} {t : Tri} (L : List Tok3) (hL : L.length ≤ 100) {σ : Sig} (v18 : σ 18 = some (.pv (.lst (L.map (keyP f t))))) (v19 : σ 19 = some (.pv (signsP (L.map fun c => keyM f t (colM c))))) : F_law_16 σ = some (.next, σ) := by
  have e : compO .lst (setK 37) [37] yesT (oneO (compO .lst (setK 39) [39] yesT (oneO (iteO (c2 .Eq (vv 37) (vv 39)) (cc (.str (Str.ofString "0"))) (iteO (ltT (vv 37) (vv 39)) (cc (.str (Str.ofString "-1"))) (cc (.str (Str.ofString "1")))))) 38 (itF (vv 18)))) 36 (itF (vv 18)) σ = some (signsP (L.map fun c => keyM f t (colM c))) := by
    unfold signsP
    rw [List.map_map]
    refine comp_map (keyP f t) _ L (by unfold itF vv; rw [v18]; rfl) (by lia) fun c ž1 => ?_
    refine ⟨_, rfl, ?_⟩
    generalize hρ : ((σ.below 36).clear [37]).set 37 (.pv (keyP f t c)) = ρ
    have w37 : ρ 37 = some (.pv (keyP f t c)) := by rw [← hρ]; rfl
    have w18 : ρ 18 = some (.pv (.lst (L.map (keyP f t)))) := by rw [← hρ]; exact v18
    show _ = some (PV.lst ((L.map fun c => keyM f t (colM c)).map fun l => sgP (toldBy (keyM f t (colM c)) l)))
    rw [List.map_map]
    refine comp_map (keyP f t) _ L (by unfold itF vv; rw [w18]; rfl) (by lia) fun d ž1 => ?_
    refine ⟨_, rfl, ?_⟩
    generalize hω : ((ρ.below 38).clear [39]).set 39 (.pv (keyP f t d)) = ω
    have x37 : vv 37 ω = some (.tup ((keyM f t (colM c)).map PV.int)) := vv_of (by rw [← hω]; exact w37)
    have x39 : vv 39 ω = some (.tup ((keyM f t (colM d)).map PV.int)) := vv_of (by rw [← hω]; rfl)
    have t1 : c2 .Eq (vv 37) (vv 39) ω = some (decide (keyM f t (colM c) = keyM f t (colM d))) := (c2_of x37 x39).trans (eq_itup _ _ rfl)
    have t2 : ltT (vv 37) (vv 39) ω = some (lexLt (keyM f t (colM c)) (keyM f t (colM d))) := by
      unfold ltT
      rw [x37, x39, Option.bind_some, Option.bind_some]
      exact lt_itup _ _
    show iteO _ _ _ ω = some (sgP (toldBy (keyM f t (colM c)) (keyM f t (colM d))))
    generalize keyM f t (colM c) = k at *
    generalize keyM f t (colM d) = l at *
    unfold iteO
    rw [t1, Option.bind_some]
    unfold toldBy
    by_cases q : k = l
    · rw [decide_eq_true q, if_pos rfl, if_pos q]; rfl
    · rw [decide_eq_false q, if_neg (by simp), if_neg q]
      rw [t2, Option.bind_some]
      cases lexLt k l <;> rfl
  unfold F_law_16
  rw [ifF_false ((c2_of (vv_of v19) e).trans (signs_same _))]; rfl
end
section
theorem law_0 (σ : Sig) : F_law_0 σ = some (.next, σ.set 1 (.ol [.int 168, .int 2648884])) := rfl
noncomputable def nBody : Sig → Option (Fl × Sig) := seqF (augO .Add 1 (b2 .Mod (vv 2) (cc (.int 2))) (vv 3)) nextF
theorem law_1_eq : F_law_1 = loopF (enumF (sl2 (vv 0) noO (ptO (cc (.int 60))))) (tupK [2, 3]) nBody := rfl
theorem enumL_ints : ∀ (ns : List Int) (k : Nat), enumL k (ns.map PV.int) = (ns.zipIdx k).map fun e => PV.tup [.int (e.2 : Nat), .int e.1]
  | [], k => rfl
  | n :: ns, k => by
    rw [List.map_cons, List.zipIdx_cons, List.map_cons, ← enumL_ints ns (k + 1)]
    rfl
theorem n_turn (a b : Int) {i : Nat} {n : Int} {σ : Sig} (v1 : σ 1 = some (.ol [.int a, .int b])) (v2 : σ 2 = some (.pv (natP i))) (v3 : σ 3 = some (.pv (.int n))) :
    ∃ a' b' : Int, nBody σ = some (.next, σ.set 1 (.ol [.int a', .int b'])) := by
  have e0 : b2 .Mod (vv 2) (cc (.int 2)) σ = some (natP (i % 2)) := (b2_of (vv_of v2) (show cc (.int 2) σ = some (natP 2) from rfl)).trans (mod_nat i 2 (by decide))
  have e3 := vv_of v3
  have key : ∀ (j : Nat) (x : Int) (L : List PV), i % 2 = j → oItem (.ol [.int a, .int b]) (natP j) = some (.int x) → oSet (.ol [.int a, .int b]) (natP j) (.int (x + n)) = some (.ol L) → nBody σ = some (.next, σ.set 1 (.ol L)) := fun j x L hj h1 h2 => by
    rw [hj] at e0
    refine (seqF_next (σ₁ := σ.set 1 (.ol L)) ?_).trans rfl
    unfold augO
    rw [v1, Option.bind_some, e0, Option.bind_some, h1, Option.bind_some, e3, Option.bind_some]
    show (some (PV.int (x + n))).bind _ = _
    rw [Option.bind_some, h2]; rfl
  have h : i % 2 = 0 ∨ i % 2 = 1 := by lia
  refine Or.elim h (fun h => ?_) fun h => ?_
  · exact ⟨a + n, b, key 0 a _ h rfl rfl⟩
  · exact ⟨a, b + n, key 1 b _ h rfl rfl⟩
theorem pickL_map {α β : Type} (f : α → β) (xs : List α) (lo hi : Option Int) : pickL (xs.map f) lo hi = (pickL xs lo hi).map f := by
  unfold pickL
  rw [List.length_map, List.map_filterMap]
  congr 1
  funext i
  exact List.getElem?_map
theorem law_1 {ns : List Int} (hns : ns.length ≤ 63) {σ : Sig} (v0 : σ 0 = some (.pv (.arg (ns.map PV.int)))) (v1 : σ 1 = some (.ol [.int 168, .int 2648884])) : ∃ (τ : Sig) (a b : Int), F_law_1 σ = some (.next, τ) ∧ τ 1 = some (.ol [.int a, .int b]) := by
  obtain ⟨ms, hms⟩ : ∃ ms : List Int, sliceO (.arg (ns.map PV.int)) none (some 60) = some (.lst (ms.map PV.int)) := by
    refine ⟨pickL ns none (some 60), ?_⟩
    have : sliceO (.arg (ns.map PV.int)) none (some 60) = if (ns.map PV.int).length ≤ 65536 then some (.lst (pickL (ns.map PV.int) none (some 60))) else none := rfl
    rw [this, if_pos (by rw [List.length_map]; lia), pickL_map]
  have key := forF_inv (k := tupK [2, 3]) (F := nBody) (ms.zipIdx 0) (fun e => PV.tup [.int (e.2 : Nat), .int e.1]) (fun ž1 τ => ∃ a b : Int, τ 1 = some (.ol [.int a, .int b])) ?_ (σ := σ) ⟨_, _, v1⟩
  · obtain ⟨τ, h1, a, b, h3⟩ := key
    refine ⟨τ, a, b, ?_, h3⟩
    rw [law_1_eq]
    refine loopF_of ?_ h1
    rw [← enumL_ints]
    unfold enumF sl2 noO ptO
    rw [vv_of v0, Option.bind_some, Option.bind_some]
    show ((sliceO (.arg (ns.map PV.int)) none (some 60))).bind enumO = _
    rw [hms]
    rfl
  · intro done x rs τ hd hI
    refine k2_1 hI fun a b h2 => ?_
    refine k2_1 (n_turn a b (i := x.2) (n := x.1) (σ := (τ.set 2 (.pv (.int (x.2 : Nat)))).set 3 (.pv (.int x.1))) h2 rfl rfl) fun a' b' m2 => ?_
    exact ⟨_, _, rfl, m2, a', b', rfl⟩
theorem law_2 (a b : Int) {σ : Sig} (v1 : σ 1 = some (.pv (.lst [.int a, .int b]))) : F_law_2 σ = some (.next, σ.set 4 (.pv (.int (a + (b + 0))))) :=
  setF_of ((call1 (vv_of v1)).trans (sum_ints [a, b]))
theorem meth_of {T : String} {Φ : List PV → Option PV} {f : Sig → Option PV} {fs : List (Sig → Option PV)} {σ : Sig} {p : PV} {ps : List PV} (h1 : f σ = some p) (ht : tyP p = some T) (h2 : seqO fs σ = some ps) : methO T Φ f fs σ = Φ (p :: ps) := by
  unfold methO
  rw [h1, Option.bind_some, if_pos ht, h2]; rfl
theorem law_3 (σ : Sig) : F_law_3 σ = some (.next, σ.set 5 (.pv (.lst (opsS.map PV.str)))) := by
  have e : splitΦ [.str rowText, .str (Str.ofString " ")] = some (.lst (opsS.map PV.str)) := by
    show (if _ then _ else _) = _
    rw [if_pos (by decide +kernel)]
    rfl
  refine setF_of ?_
  exact (meth_of (f := cc (.str rowText)) rfl rfl (show seqO [cc (.str (Str.ofString " "))] σ = some [.str (Str.ofString " ")] from rfl)).trans e
noncomputable def Tr (x y z : Tok3) : Prop := ∃ i0 i1 j, i0 < 48 ∧ i1 < 48 ∧ i0 ≠ i1 ∧ j < 26 ∧ x = (opC i0, 7 + i0) ∧ y = (opC i1, 7 + i1) ∧ z = ([97 + j], 256 + j)
theorem law_4 {rest : Int} {σ : Sig} (v4 : σ 4 = some (.pv (.int rest))) : ∃ x y z, Tr x y z ∧ F_law_4 σ = some (.next, σ.set 6 (.pv (.lst ([x, y, z].map kdP)))) := by
  refine k1_2 (fmod_nat rest (b := 48) (by decide)) fun i i1 i2' => ?_
  refine k1_2 (fmod_nat (rest.fdiv 48) (b := 47) (by decide)) fun e e1 e2 => ?_
  refine k1_2 (fmod_nat (rest + 1 + (e : Int)) (b := 48) (by decide)) fun k k1 k2 => ?_
  refine k1_2 (fmod_nat (rest.fdiv 2256) (b := 26) (by decide)) fun j j1 j2 => ?_
  have hik : i ≠ k := by
    have h1 : rest.fmod 48 = (i : Int) := i1
    have h2 : (rest + 1 + (e : Int)).fmod 48 = (k : Int) := k1
    rw [Int.fmod_eq_emod_of_nonneg _ (by decide)] at h1 h2
    omega
  refine ⟨(opC i, 7 + i), (opC k, 7 + k), ([97 + j], 256 + j), ⟨i, k, j, i2', k2, hik, j2, rfl, rfl, rfl⟩, ?_⟩
  have e4 := vv_of v4
  have x1 : b2 .Mod (vv 4) (cc (.int 48)) σ = some (natP i) := ((b2_of e4 rfl).trans (fmd _ 48 (by decide))).trans (congrArg (fun z => some (PV.int z)) i1)
  have x2 : b2 .Mod (b2 .FloorDiv (vv 4) (cc (.int 48))) (cc (.int 47)) σ = some (.int (e : Int)) := ((b2_of ((b2_of e4 rfl).trans (fdv _ 48 (by decide))) rfl).trans (fmd _ 47 (by decide))).trans (congrArg (fun z => some (PV.int z)) e1)
  have x3 : b2 .Mod (b2 .Add (b2 .Add (vv 4) (cc (.int 1))) (b2 .Mod (b2 .FloorDiv (vv 4) (cc (.int 48))) (cc (.int 47)))) (cc (.int 48)) σ = some (natP k) :=
    ((b2_of ((b2_of ((b2_of e4 (show cc (.int 1) σ = some (.int 1) from rfl)).trans (add_i _ _)) x2).trans (add_i _ _)) rfl).trans (fmd _ 48 (by decide))).trans (congrArg (fun z => some (PV.int z)) k1)
  have x4 : b2 .Mod (b2 .FloorDiv (vv 4) (cc (.int 2256))) (cc (.int 26)) σ = some (natP j) := ((b2_of ((b2_of e4 rfl).trans (fdv _ 2256 (by decide))) rfl).trans (fmd _ 26 (by decide))).trans (congrArg (fun z => some (PV.int z)) j1)
  refine setF_of ?_
  unfold lstO seqO seqO seqO seqO
  rw [(b2_of (op := .Add) (show cc (.int 7) σ = some (natP 7) from rfl) x1).trans (add_nats _ _), (b2_of (op := .Add) (show cc (.int 7) σ = some (natP 7) from rfl) x3).trans (add_nats _ _), (b2_of (op := .Add) (show cc (.int 256) σ = some (natP 256) from rfl) x4).trans (add_nats _ _)]
  rfl
theorem typed_item {i : Nat} (h : i < 48) : itemO (.lst (opsS.map PV.str)) (natP i) = some (.str (mkS (opC i))) := by
  have hl : i < opsS.length := by rw [ops_len]; exact h
  refine item_f PV.str opsS ?_ (by lia)
  unfold opC mkS
  rw [List.getD_eq_getElem?_getD, List.getElem?_eq_getElem hl, Option.getD_some]
theorem chr_ok97 {j : Nat} (h : j < 26) : chrΦ [natP (97 + j)] = some (.str (mkS [97 + j])) := by
  show (if _ then _ else _) = _
  rw [if_pos (by simp only [Bool.or_eq_false_iff, decide_eq_false_iff_not]; lia)]
  rfl
theorem law_5 {x y z : Tok3} (h : Tr x y z) {σ : Sig} (v5 : σ 5 = some (.pv (.lst (opsS.map PV.str)))) (v6 : σ 6 = some (.pv (.lst ([x, y, z].map kdP)))) : F_law_5 σ = some (.next, σ.set 7 (.pv (.lst ([x, y, z].map txP)))) := by
  (refine k3_7 h fun i k j hi hk ž6 => ?_; obtain - := ž6; intro hj ž8; subst ž8; intro ž9; subst ž9; intro ž10; subst ž10)
  have e5 := vv_of v5
  have e6 := vv_of v6
  refine k0_3 (item3 (natP (7 + i)) (natP (7 + k)) (natP (256 + j))) fun j0 j1 j2 => ?_
  have s1 := (b2_of (op := .Sub) ((i2_of (g := cc (.int 0)) e6 rfl).trans j0) (show cc (.int 7) σ = some (natP 7) from rfl)).trans (sub_nat _ 7 (by lia))
  have s2 := (b2_of (op := .Sub) ((i2_of (g := cc (.int 1)) e6 rfl).trans j1) (show cc (.int 7) σ = some (natP 7) from rfl)).trans (sub_nat _ 7 (by lia))
  have s3 := (b2_of (op := .Sub) ((i2_of (g := cc (.int 2)) e6 rfl).trans j2) (show cc (.int 159) σ = some (natP 159) from rfl)).trans (sub_nat _ 159 (by lia))
  rw [show 7 + i - 7 = i by lia] at s1
  rw [show 7 + k - 7 = k by lia] at s2
  rw [show 256 + j - 159 = 97 + j by lia] at s3
  refine setF_of ?_
  unfold lstO seqO seqO seqO seqO
  rw [(i2_of e5 s1).trans (typed_item hi), (i2_of e5 s2).trans (typed_item hk), (call1 s3).trans (chr_ok97 hj)]
  rfl
theorem Tr.sy {x y z : Tok3} (h : Tr x y z) : ∀ t ∈ [x, y, z], Sy t.1 t.2 := by
  (refine k3_7 h fun i k j hi hk ž6 => ?_; obtain - := ž6; intro hj ž8; subst ž8; intro ž9; subst ž9; intro ž10; subst ž10)
  intro t ht
  simp only [List.mem_cons, List.not_mem_nil, or_false] at ht
  rcases ht with rfl | rfl | rfl
  · exact .inl ⟨i, hi, rfl, rfl⟩
  · exact .inl ⟨k, hk, rfl, rfl⟩
  · exact .inr ⟨j, hj, rfl, rfl⟩
theorem Tr.ne {x y z : Tok3} (h : Tr x y z) : x.2 ≠ y.2 ∧ x.2 ≠ z.2 ∧ y.2 ≠ z.2 := by
  (refine k3_7 h fun i k j hi hk h hj ž8 => ?_; subst ž8; intro ž9; subst ž9; intro ž10; subst ž10)
  exact ⟨by show 7 + i ≠ 7 + k; lia, by show 7 + i ≠ 256 + j; lia, by show 7 + k ≠ 256 + j; lia⟩
end
section
theorem law_6 (a b : Int) {σ : Sig} (v1 : σ 1 = some (.pv (.lst [.int a, .int b]))) : ∃ ds : List Nat, ds.length = 6 ∧ (∀ d ∈ ds, d < 3) ∧ F_law_6 σ = some (.next, σ.set 8 (.pv (.lst (ds.map natP)))) := by
  obtain ⟨g, hg⟩ : ∃ g : Nat → Nat, ∀ k, g k < 3 ∧ ((a.fdiv (3 ^ k)).fmod 3) = (g k : Int) := by
    refine ⟨fun k => ((a.fdiv (3 ^ k)).fmod 3).toNat, fun k => ?_⟩
    refine k1_2 (fmod_nat (a.fdiv (3 ^ k)) (b := 3) (by decide)) fun n h1 h2 => ?_
    have h1 : (a.fdiv (3 ^ k)).fmod 3 = (n : Int) := h1
    show ((a.fdiv (3 ^ k)).fmod 3).toNat < 3 ∧ (a.fdiv (3 ^ k)).fmod 3 = (((a.fdiv (3 ^ k)).fmod 3).toNat : Int)
    rw [h1, Int.toNat_natCast]
    exact ⟨h2, rfl⟩
  refine ⟨(List.range 6).map g, rfl, fun d hd => ?_, ?_⟩
  · (refine k1_2 (List.mem_map.mp hd) fun k _ ž3 => ?_; subst ž3)
    exact (hg k).1
  refine setF_of ?_
  rw [List.map_map]
  refine comp_map natP (fun k => natP (g k)) (List.range 6) (r6 σ) (by decide) fun k hk => ?_
  have hk6 : k < 6 := List.mem_range.mp hk
  refine ⟨_, rfl, ?_⟩
  generalize hρ : ((σ.below 36).clear [37]).set 37 (.pv (natP k)) = ρ
  have e37 : vv 37 ρ = some (natP k) := vv_of (by rw [← hρ]; rfl)
  have e1 : vv 1 ρ = some (.lst [.int a, .int b]) := vv_of (by rw [← hρ]; exact v1)
  have a1 : i2 (vv 1) (cc (.int 0)) ρ = some (.int a) := (i2_of e1 rfl).trans rfl
  have p1 := pow_nat 3 k (by decide) (by lia)
  have p2 : ((3 : Int) ^ k) ≠ 0 ∧ ((3 : Int) ^ k).natAbs < 1073741824 := by
    obtain rfl | rfl | rfl | rfl | rfl | rfl : k = 0 ∨ k = 1 ∨ k = 2 ∨ k = 3 ∨ k = 4 ∨ k = 5 := by lia
    all_goals decide
  have a2 : b2 .Pow (cc (.int 3)) (vv 37) ρ = some (.int ((3 : Int) ^ k)) := (b2_of rfl e37).trans p1
  have a3 := (b2_of (op := .FloorDiv) a1 a2).trans (fdv _ _ p2)
  have a4 := (b2_of (op := .Mod) a3 (show cc (.int 3) ρ = some (.int 3) from rfl)).trans (fmd _ _ (by decide))
  exact a4.trans (congrArg (fun z => some (PV.int z)) (hg k).2)
noncomputable def tokAt (x y z : Tok3) (d : Nat) : Tok3 := ([x, y, z] : List Tok3).getD d ([], 0)
theorem comp_toks (g : Tok3 → PV) (x y z : Tok3) {ds : List Nat} (hl : ds.length = 6) (h3 : ∀ d ∈ ds, d < 3) {i : Nat} (hi : i < 36) {σ : Sig} (vi : σ i = some (.pv (.lst ([x, y, z].map g)))) (v8 : σ 8 = some (.pv (.lst (ds.map natP)))) :
    compO .lst (setK 37) [37] yesT (oneO (i2 (vv i) (vv 37))) 36 (itF (vv 8)) σ = some (.lst ((ds.map (tokAt x y z)).map g)) := by
  rw [List.map_map]
  refine comp_map natP (fun d => g (tokAt x y z d)) ds (by unfold itF vv; rw [v8]; rfl) (by lia) fun d hd => ?_
  refine ⟨_, rfl, ?_⟩
  have e37 : vv 37 (((σ.below 36).clear [37]).set 37 (.pv (natP d))) = some (natP d) := vv_of rfl
  have ei : vv i (((σ.below 36).clear [37]).set 37 (.pv (natP d))) = some (.lst ([x, y, z].map g)) := vv_of (by
    have h1 : ((37 : Nat) = i) = False := by simp; lia
    show (if i = 37 then _ else _) = _
    rw [if_neg (by lia)]
    show (if ([37] : List Nat).contains i then none else (if i < 36 then σ i else none)) = _
    rw [if_neg (by simp; lia), if_pos hi]
    exact vi)
  exact (i2_of ei e37).trans (item_three g x y z (h3 d hd))
theorem sy_at {x y z : Tok3} (h : Tr x y z) {d : Nat} (hd : d < 3) : Sy (tokAt x y z d).1 (tokAt x y z d).2 := by
  refine h.sy _ ?_
  obtain rfl | rfl | rfl : d = 0 ∨ d = 1 ∨ d = 2 := by lia
  all_goals simp [tokAt]
theorem law_7 {x y z : Tok3} (h : Tr x y z) {ds : List Nat} (hl : ds.length = 6) (h3 : ∀ d ∈ ds, d < 3) {σ : Sig} (v7 : σ 7 = some (.pv (.lst ([x, y, z].map txP)))) (v8 : σ 8 = some (.pv (.lst (ds.map natP)))) :
    F_law_7 σ = some (.next, σ.set 10 (.pv (.lst ((((ds.map (tokAt x y z)).map fun (t : Tok3) => t.2) ++ [0]).map natP)))) := by
  have e := comp_toks txP x y z hl h3 (by decide) v7 v8
  have hs : ∀ t ∈ ds.map (tokAt x y z), Sy t.1 t.2 := fun t ht => by
    (refine k1_2 (List.mem_map.mp ht) fun d hd ž3 => ?_; subst ž3)
    exact sy_at h (h3 d hd)
  have hL : (ds.map (tokAt x y z)).length = 6 := by rw [List.length_map]; exact hl
  generalize ds.map (tokAt x y z) = L at *
  have ej : joinΦ [.str (Str.ofString " "), .lst (L.map txP)] = some (.str (mkS (textOf L))) := by
    cases L with
    | nil => cases hL
    | cons t r => exact join_toks t r (fun x hx => (sy_len (hs x hx)).2) (by lia)
  refine setF_of ((call1 ?_).trans (law_cut L hs (by lia)))
  exact (meth_of (f := cc (.str (Str.ofString " "))) rfl rfl (show seqO [_] σ = some [.lst (L.map txP)] by unfold seqO seqO; rw [e]; rfl)).trans ej
theorem ne_nats (l : List Nat) : cmpO .NotEq (.lst (l.map natP)) (.lst (l.map natP)) = some false := by
  exact ne_of_eqq (r := true) (by rw [eqq_lst_def, if_pos rfl, eqq_nats 7 rfl, decide_eq_true rfl])
theorem law_8 {x y z : Tok3} {ds : List Nat} (hl : ds.length = 6) (h3 : ∀ d ∈ ds, d < 3) {σ : Sig} (v6 : σ 6 = some (.pv (.lst ([x, y, z].map kdP)))) (v8 : σ 8 = some (.pv (.lst (ds.map natP))))
    (v10 : σ 10 = some (.pv (.lst ((((ds.map (tokAt x y z)).map fun (t : Tok3) => t.2) ++ [0]).map natP)))) : F_law_8 σ = some (.next, σ) := by
  have e := comp_toks kdP x y z hl h3 (by decide) v6 v8
  have e1 : (ds.map (tokAt x y z)).map kdP = ((ds.map (tokAt x y z)).map fun (t : Tok3) => t.2).map natP := by rw [List.map_map (g := natP)]; rfl
  rw [e1] at e
  have ea := (b2_of (op := .Add) e (show lstO [(cc (.int 0))] σ = some (.lst ([0].map natP)) from rfl)).trans (add_lsts _ [0] (by rw [List.length_map, List.length_map, List.length_singleton]; lia))
  unfold F_law_8
  rw [ifF_false ((c2_of (vv_of v10) ea).trans (ne_nats _))]; rfl
theorem is_t (v : Int) : Φ_ISTERMINAL [.int v] = some (.bool (decide (v < 256))) := rfl
theorem is_n (v : Int) : Φ_ISNONTERMINAL [.int v] = some (.bool (decide (256 ≤ v))) := rfl
theorem eqz_int (v : Int) : cmpO .Eq (.int v) (.int 0) = some (decide (v = 0)) := by
  show eqq 8 (.int v) (.int 0) = _
  rw [eqq_zero_ii]; congr 1
theorem is_e (v : Int) : Φ_ISEOF [.int v] = some (.bool (decide (v = 0))) := by
  refine runF_of rfl (σ' := argSig [.int v]) ?_
  refine seqF_ret ?_
  show ((cmpO .Eq (.int v) (.int 0)).map PV.bool).bind _ = _
  rw [eqz_int]; rfl
noncomputable def termBody : Sig → Option (Fl × Sig) := (seqF (ifF (c2 .NotEq (tupO [(ofB (c2 .Is (callO Φ_ISTERMINAL [(vv 11)]) (ofB (c2 .Lt (vv 11) (cc (.int 256)))))), (ofB (c2 .Is (callO Φ_ISNONTERMINAL [(vv 11)]) (ofB (c2 .Gt (vv 11) (cc (.int 255)))))), (ofB (c2 .Is (callO Φ_ISEOF [(vv 11)]) (ofB (c2 .Eq (vv 11) (cc (.int 0))))))]) (tupO [(cc (.bool true)), (cc (.bool true)), (cc (.bool true))])) (seqF (retF (cc (.bool false))) nextF) nextF) nextF)
theorem law_9_eq : F_law_9 = loopF (itF (b2 .Add (vv 10) (lstO [(cc (.int 255)), (negF (cc (.int 1)))]))) (setK 11) termBody := rfl
theorem term_turn {v : Int} {σ : Sig} (v11 : σ 11 = some (.pv (.int v))) : termBody σ = some (.next, σ) := by
  have e1 : cmpO .Lt (.int v) (.int 256) = some (decide (v < 256)) := rfl
  have e2 : cmpO .Gt (.int v) (.int 255) = some (decide (255 < v)) := rfl
  have e3 := eqz_int v
  have i1 : cmpO .Is (.bool (decide (v < 256))) (.bool (decide (v < 256))) = some true := congrArg some (beq_self_eq_true _)
  have i2' : cmpO .Is (.bool (decide (256 ≤ v))) (.bool (decide (255 < v))) = some true := by
    rw [show decide (256 ≤ v) = decide (255 < v) from decide_eq_decide.mpr (by lia)]
    exact congrArg some (beq_self_eq_true _)
  have i3 : cmpO .Is (.bool (decide (v = 0))) (.bool (decide (v = 0))) = some true := congrArg some (beq_self_eq_true _)
  have i4 : cmpO .NotEq (.tup [.bool true, .bool true, .bool true]) (.tup [.bool true, .bool true, .bool true]) = some false := by decide
  have t := is_t v
  have n := is_n v
  have e := is_e v
  unfold termBody
  refine (seqF_next (σ₁ := σ) ?_).trans rfl
  simp (config := {decide := true, implicitDefEqProofs := false}) only [ifF, c2, ofB, tupO, seqO, callO, vv, cc, v11, Option.bind_some, Option.map_some, t, n, e, e1, e2, e3, i1, i2', i3, i4, if_true, if_false, nextF]
theorem law_9 {l : List Nat} (hl : l.length ≤ 1000) {σ : Sig} (v10 : σ 10 = some (.pv (.lst (l.map natP)))) : ∃ τ, F_law_9 σ = some (.next, τ) ∧ Kp [11] σ τ := by
  have key := forF_inv (k := setK 11) (F := termBody) (l.map (fun n : Nat => (n : Int)) ++ [255, -1]) PV.int (fun ž1 τ => Kp [11] σ τ) ?_ (σ := σ) (Kp.refl _ _)
  · refine k1_2 key fun τ h1 h2 => ?_
    refine ⟨τ, ?_, h2⟩
    rw [law_9_eq]
    refine loopF_of ?_ h1
    have e1 : PV.bin .Add (.lst (l.map natP)) (.lst ([255, -1].map PV.int)) = some (.lst ((l.map (fun n : Nat => (n : Int)) ++ [255, -1]).map PV.int)) := by
      show (if _ then _ else _) = _
      rw [if_pos (by rw [List.length_map, List.length_map]; show l.length + 2 ≤ 65536; lia), ints_nat, ← List.map_append]
    unfold itF
    rw [b2_of (vv_of v10) (show lstO [(cc (.int 255)), (negF (cc (.int 1)))] σ = some (.lst ([255, -1].map PV.int)) from rfl), e1]
    rfl
  · intro done v rs τ hd hI
    exact ⟨τ.set 11 (.pv (.int v)), τ.set 11 (.pv (.int v)), rfl, term_turn rfl, hI.set (by decide) _⟩
end
section
theorem counts3 : ∀ (ds : List Nat), (∀ d ∈ ds, d < 3) → ds.count 0 + ds.count 1 + ds.count 2 = ds.length
  | [], _ => rfl
  | d :: ds, h => by
    have ih := counts3 ds fun x hx => h x (.tail _ hx)
    have hd := h d (.head _)
    rw [List.count_cons, List.count_cons, List.count_cons, List.length_cons]
    obtain rfl | rfl | rfl : d = 0 ∨ d = 1 ∨ d = 2 := by lia
    all_goals simp; lia
theorem signs_item (ks : List (List Int)) (h3 : ks.length = 3) : SignsOk (signsP ks) fun a b => decide (toldBy (ks.getD a []) (ks.getD b []) = 1) := by
  intro a b ha hb
  have ga : ks[a]? = some (ks.getD a []) := by rw [List.getD_eq_getElem?_getD, List.getElem?_eq_getElem (by lia), Option.getD_some]
  have gb : ks[b]? = some (ks.getD b []) := by rw [List.getD_eq_getElem?_getD, List.getElem?_eq_getElem (by lia), Option.getD_some]
  exact ⟨_, _, item_f (fun k => PV.lst (ks.map fun l => sgP (toldBy k l))) ks ga (by lia), item_f (fun l => sgP (toldBy (ks.getD a []) l)) ks gb (by lia), sg_one (told_three _ _)⟩
theorem perm_here {f : Nat} {t : Tri} (ht : Ones t) {x y z : Tok3} (h : Tr x y z) : ∃ r ∈ perms, ∀ i j, i < 3 → j < 3 → decide (toldBy ((([x, y, z] : List Tok3).map fun c => keyM f t (colM c)).getD i []) ((([x, y, z] : List Tok3).map fun c => keyM f t (colM c)).getD j []) = 1) = sR r i j := by
  refine k0_3 h.ne fun n1 n2 n3 => ?_
  have key : ∀ {a b a0 a1 b0 b1 : Int} {m n : Nat}, m ≠ n → a = t.2.2 * (m : Int) → b = t.2.2 * (n : Int) → [a0, a1, a] ≠ [b0, b1, b] := fun {a b a0 a1 b0 b1 m n} hmn ha hb e => by
    injection e with _ e
    injection e with _ e
    injection e with e _
    rw [ha, hb] at e
    have h0 : t.2.2 ≠ 0 := by (refine Or.elim ht.2.2 (fun e => ?_) fun e => ?_) <;> rw [e] <;> decide
    exact hmn (Int.ofNat.inj (Int.eq_of_mul_eq_mul_left h0 e))
  refine perm_of (k := fun i => (([x, y, z] : List Tok3).map fun c => keyM f t (colM c)).getD i []) fun i j hi hj => ?_
  exact all3 (p := fun i => ∀ j, j < 3 → i ≠ j → (([x, y, z] : List Tok3).map fun c => keyM f t (colM c)).getD i [] ≠ (([x, y, z] : List Tok3).map fun c => keyM f t (colM c)).getD j []) (all3 (fun h => absurd rfl h) (fun ž1 => key n1 rfl rfl) (fun ž1 => key n2 rfl rfl)) (all3 (fun ž1 => key n1.symm rfl rfl) (fun h => absurd rfl h) (fun ž1 => key n3 rfl rfl)) (all3 (fun ž1 => key n2.symm rfl rfl) (fun ž1 => key n3.symm rfl rfl) (fun h => absurd rfl h)) i hi j hj
theorem law_17 {f : Nat} {t : Tri} (ht : Ones t) {x y z : Tok3} (h : Tr x y z) {ds : List Nat} (hl : ds.length = 6) (h3 : ∀ d ∈ ds, d < 3) {σ : Sig} (v8 : σ 8 = some (.pv (.lst (ds.map natP)))) (v19 : σ 19 = some (.pv (signsP ([x, y, z].map fun c => keyM f t (colM c))))) :
    ∃ X : List (List Nat × Nat), (X.length ≤ 900 ∧ ∀ e ∈ X, e.1.length = 6) ∧ Sieve X (turnsM X) (duesM (turnsM X)) ∧ F_law_17 σ = some (.next, (σ.set 21 (.pv (.dct []))).set 20 (.pv (.lst (X.map rowP)))) := by
  refine k1_2 (perm_here (f := f) ht h) fun r hr hs => ?_
  have hsum : ds.count 0 + ds.count 1 + ds.count 2 = 6 := (counts3 ds h3).trans hl
  have hok := ordM_ok [ds.count 0, ds.count 1, ds.count 2] (sR r) 6
  refine ⟨ordM [ds.count 0, ds.count 1, ds.count 2] (sR r) 6, ⟨?_, fun e he => (hok.1 e he).2⟩, sieve_r hsum hr, ?_⟩
  · have := hok.2
    have e : (3 : Nat) ^ 6 = 729 := by decide
    lia
  have ec : compO .lst (setK 37) [37] yesT (oneO (methO "list" lcntΦ (vv 8) [(vv 37)])) 36 (itF (callO rangeΦ [(cc (.int 3))])) σ = some (.lst ([ds.count 0, ds.count 1, ds.count 2].map natP)) := by
    refine comp_map natP (fun k => natP (ds.count k)) [0, 1, 2] (r3 σ) (by decide) fun k hk => ?_
    refine ⟨_, rfl, ?_⟩
    exact count_nat ds k v8 rfl
  have e := orders_ok (c := [ds.count 0, ds.count 1, ds.count 2]) rfl (signs_item (([x, y, z] : List Tok3).map fun c => keyM f t (colM c)) rfl)
  rw [ordM_congr _ (s' := sR r) (fun a b ha hb => hs a b ha hb) 6] at e
  exact tupR2 ((call2 ec (vv_of v19)).trans e) rfl
theorem law_18 {σ : Sig} {p : PV} (v21 : σ 21 = some (.pv p)) : F_law_18 σ = some (.next, σ.set 22 (.pv p)) := setF_of (vv_of v21)
theorem law_21 (T : List Nat) {σ : Sig} (v26 : σ 26 = some (.pv (.lst (T.map natP)))) : F_law_21 σ = some (.next, σ.set 27 (.pv (.lst ((duesM T).map natP)))) := by
  rw [law21_eq]
  exact setF_of (due_ok T v26)
theorem law_ret (σ : Sig) : seqF F_law_24 nextF σ = some (.ret (.bool true), σ) := rfl
theorem frz_at {i : Nat} {F : Sig → Option (Fl × Sig)} {σ : Sig} {lv : LV} (h : σ i = some lv) : frz i F σ = F (σ.set i (.pv (frzV lv))) := by unfold frz; rw [h]; rfl
theorem pure_law (ns : List Int) (hns : ns.length ≤ 63) : Φ_law [.arg (ns.map PV.int)] = some (.bool true) := by
  suffices h : ∃ σ', F_law (argSig [.arg (ns.map PV.int)]) = some (.ret (.bool true), σ') by
    refine k1_1 h fun σ' h => ?_
    exact runF_of rfl h
  have v0 : argSig [.arg (ns.map PV.int)] 0 = some (.pv (.arg (ns.map PV.int))) := rfl
  generalize argSig [.arg (ns.map PV.int)] = σ at *
  unfold F_law
  rw [seqF_next (law_0 σ)]
  refine k3_2 (law_1 hns (σ := σ.set 1 (.ol [.int 168, .int 2648884])) v0 rfl) fun τ a b h1 h2 => ?_
  rw [seqF_next h1, frz_at h2]
  rw [seqF_next (law_2 a b rfl), seqF_next (law_3 _)]
  have w1 : (((τ.set 1 (.pv (frzV (.ol [.int a, .int b])))).set 4 (.pv (.int (a + (b + 0))))).set 5 (.pv (.lst (opsS.map PV.str)))) 1 = some (.pv (.lst [.int a, .int b])) := rfl
  have w4 : (((τ.set 1 (.pv (frzV (.ol [.int a, .int b])))).set 4 (.pv (.int (a + (b + 0))))).set 5 (.pv (.lst (opsS.map PV.str)))) 4 = some (.pv (.int (a + (b + 0)))) := rfl
  have w5 : (((τ.set 1 (.pv (frzV (.ol [.int a, .int b])))).set 4 (.pv (.int (a + (b + 0))))).set 5 (.pv (.lst (opsS.map PV.str)))) 5 = some (.pv (.lst (opsS.map PV.str))) := rfl
  generalize ((τ.set 1 (.pv (frzV (.ol [.int a, .int b])))).set 4 (.pv (.int (a + (b + 0))))).set 5 (.pv (.lst (opsS.map PV.str))) = σ₁ at *
  generalize a + (b + 0) = rest at *
  refine k3_2 (law_4 w4) fun x y z hT h4 => ?_
  rw [seqF_next h4, seqF_next (law_5 hT (σ := σ₁.set 6 (.pv (.lst ([x, y, z].map kdP)))) w5 rfl)]
  refine k1_3 (law_6 a b (σ := (σ₁.set 6 (.pv (.lst ([x, y, z].map kdP)))).set 7 (.pv (.lst ([x, y, z].map txP)))) w1) fun ds hl hd3 h6 => ?_
  rw [seqF_next h6]
  generalize hσ₂ : ((σ₁.set 6 (.pv (.lst ([x, y, z].map kdP)))).set 7 (.pv (.lst ([x, y, z].map txP)))).set 8 (.pv (.lst (ds.map natP))) = σ₂
  have x4 : σ₂ 4 = some (.pv (.int rest)) := by rw [← hσ₂]; exact w4
  have x6 : σ₂ 6 = some (.pv (.lst ([x, y, z].map kdP))) := by rw [← hσ₂]; rfl
  have x7 : σ₂ 7 = some (.pv (.lst ([x, y, z].map txP))) := by rw [← hσ₂]; rfl
  have x8 : σ₂ 8 = some (.pv (.lst (ds.map natP))) := by rw [← hσ₂]; rfl
  clear hσ₂
  rw [seqF_next (law_7 hT hl hd3 x7 x8)]
  obtain ⟨L, hL⟩ : ∃ L, L = ((ds.map (tokAt x y z)).map fun (t : Tok3) => t.2) ++ [0] := ⟨_, rfl⟩
  have hLl : L.length ≤ 1000 := by rw [hL, List.length_append, List.length_map, List.length_map, List.length_singleton]; lia
  have h8 := law_8 hl hd3 (σ := σ₂.set 10 (.pv (.lst (L.map natP)))) x6 x8 (by rw [← hL]; rfl)
  rw [← hL, seqF_next h8]
  refine k1_2 (law_9 hLl (σ := σ₂.set 10 (.pv (.lst (L.map natP)))) rfl) fun σ₃ h9 k9 => ?_
  rw [seqF_next h9]
  have y4 : σ₃ 4 = some (.pv (.int rest)) := (k9 4 (by decide)).trans x4
  have y6 : σ₃ 6 = some (.pv (.lst ([x, y, z].map kdP))) := (k9 6 (by decide)).trans x6
  have y7 : σ₃ 7 = some (.pv (.lst ([x, y, z].map txP))) := (k9 7 (by decide)).trans x7
  have y8 : σ₃ 8 = some (.pv (.lst (ds.map natP))) := (k9 8 (by decide)).trans x8
  refine k1_2 (law_10 y4) fun t ht h10 => ?_
  rw [seqF_next h10]
  refine k3_4 (law_11 (σ := σ₃.set 12 (.pv (.lst [.int t.1, .int t.2.1, .int t.2.2]))) y4) fun f sh b' hf hsh hb h11 => ?_
  rw [seqF_next h11]
  generalize hσ₄ : (((σ₃.set 12 (.pv (.lst [.int t.1, .int t.2.1, .int t.2.2]))).set 13 (.pv (natP f))).set 14 (.pv (natP sh))).set 15 (.pv (natP b')) = σ₄
  have z6 : σ₄ 6 = some (.pv (.lst ([x, y, z].map kdP))) := by rw [← hσ₄]; exact y6
  have z7 : σ₄ 7 = some (.pv (.lst ([x, y, z].map txP))) := by rw [← hσ₄]; exact y7
  have z8 : σ₄ 8 = some (.pv (.lst (ds.map natP))) := by rw [← hσ₄]; exact y8
  have z12 : σ₄ 12 = some (.pv (.lst [.int t.1, .int t.2.1, .int t.2.2])) := by rw [← hσ₄]; rfl
  have z13 : σ₄ 13 = some (.pv (natP f)) := by rw [← hσ₄]; rfl
  have z14 : σ₄ 14 = some (.pv (natP sh)) := by rw [← hσ₄]; rfl
  have z15 : σ₄ 15 = some (.pv (natP b')) := by rw [← hσ₄]; rfl
  clear hσ₄
  rw [seqF_next (law_12 (fun t ht => (sy_len (hT.sy t ht)).2) z6 z7)]
  rw [seqF_next (law_13 hf (σ := σ₄.set 16 (.pv (.lst ([x, y, z].map colP)))) z12 z13)]
  rw [seqF_next (law_14 hf ht [x, y, z] (Nat.le_of_ble_eq_true rfl) (σ := (σ₄.set 16 (.pv (.lst ([x, y, z].map colP)))).set 17 (.pv (judgeP f t))) z12 z13 rfl)]
  rw [seqF_next (law_15 hf ht [x, y, z] (Nat.le_of_ble_eq_true rfl) (σ := ((σ₄.set 16 (.pv (.lst ([x, y, z].map colP)))).set 17 (.pv (judgeP f t))).set 18 (.pv (.lst ([x, y, z].map (keyP f t))))) rfl rfl)]
  rw [seqF_next (law_16 (f := f) (t := t) [x, y, z] (Nat.le_of_ble_eq_true rfl) rfl rfl)]
  generalize hσ₅ : (((σ₄.set 16 (.pv (.lst ([x, y, z].map colP)))).set 17 (.pv (judgeP f t))).set 18 (.pv (.lst ([x, y, z].map (keyP f t))))).set 19 (.pv (signsP ([x, y, z].map fun c => keyM f t (colM c)))) = σ₅
  have u8 : σ₅ 8 = some (.pv (.lst (ds.map natP))) := by rw [← hσ₅]; exact z8
  have u14 : σ₅ 14 = some (.pv (natP sh)) := by rw [← hσ₅]; exact z14
  have u15 : σ₅ 15 = some (.pv (natP b')) := by rw [← hσ₅]; exact z15
  have u19 : σ₅ 19 = some (.pv (signsP ([x, y, z].map fun c => keyM f t (colM c)))) := by rw [← hσ₅]; rfl
  clear hσ₅
  (refine k1_3 (law_17 ht hT hl hd3 u8 u19) fun X ž2 => ?_; obtain ⟨hX, hX6⟩ := ž2; intro V h17)
  rw [seqF_next h17, seqF_next (law_18 (p := .dct []) rfl)]
  generalize hσ₆ : ((σ₅.set 21 (.pv (.dct []))).set 20 (.pv (.lst (X.map rowP)))).set 22 (.pv (.dct [])) = σ₆
  have t14 : σ₆ 14 = some (.pv (natP sh)) := by rw [← hσ₆]; exact u14
  have t15 : σ₆ 15 = some (.pv (natP b')) := by rw [← hσ₆]; exact u15
  refine k1_3 (law_19 X hX (σ := σ₆) (by rw [← hσ₆]; rfl) (by rw [← hσ₆]; rfl) (by rw [← hσ₆]; rfl)) fun σ₇ h19 k19 s22 => ?_
  have t20 : σ₆ 20 = some (.pv (.lst (X.map rowP))) := by rw [← hσ₆]; rfl
  clear hσ₆
  rw [seqF_next h19]
  have s14 : σ₇ 14 = some (.pv (natP sh)) := (k19 14 (by decide)).trans t14
  have s15 : σ₇ 15 = some (.pv (natP b')) := (k19 15 (by decide)).trans t15
  have s20 : σ₇ 20 = some (.pv (.lst (X.map rowP))) := (k19 20 (by decide)).trans t20
  rw [seqF_next (law_20 X hX hX6 s20)]
  rw [seqF_next (law_21 (turnsM X) rfl)]
  generalize hσ₈ : (σ₇.set 26 (.pv (.lst ((X.map fun x => turnM x.1).map natP)))).set 27 (.pv (.lst ((duesM (turnsM X)).map natP))) = σ₈
  have H : S23 X (turnsM X) (duesM (turnsM X)) sh b' σ₈ := ⟨by rw [← hσ₈]; exact s14, by rw [← hσ₈]; exact s15, by rw [← hσ₈]; exact s20, by rw [← hσ₈]; exact s22, by rw [← hσ₈]; rfl, by rw [← hσ₈]; rfl⟩
  clear hσ₈
  rw [seqF_next (law_22 X hX _ V.hD V.same V.cnt H.v20 H.v22 H.v27)]
  refine k1_1 (law_23 V hsh hb H) fun σ₉ h23 => ?_
  rw [seqF_next h23]
  exact ⟨σ₉, law_ret σ₉⟩
end
end Mine
end
namespace Mine
open PySem PySem.W PySem.Calls PyProof.Rows
section
theorem repL_ints {prog : Program} {w : World} {G : Gh} : ∀ {vs : List Value} {ns : List Int}, IntsAre vs ns → RepL prog w G vs (ns.map PV.int)
  | _, _, .nil => .nil
  | _, _, .cons n t h => .cons (.int n t) (repL_ints h)
theorem kAt_mem {h : Heap} {as : List Addr} {a : Addr} {o : Obj} (hm : (a, o) ∈ kAt h as) : a ∈ as := by
  unfold kAt at hm
  obtain ⟨i, hi, e⟩ := List.mem_filterMap.mp hm
  obtain ⟨o', _, e⟩ := Option.map_eq_some_iff.mp e
  cases e
  exact hi
set_option tactic.hygienic true in
theorem holds02 (main : ∀ C : Wd, C.prog = P02 → KOk C → ∃ d, d ≤ 50 ∧ ∃ Φ, CallOK C d (.ref 130) Φ ∧ ∀ ns : List Int, ns.length ≤ 63 → Φ [.arg (ns.map PV.int)] = some (.bool true)) : PySem.Challenge.rw_xh0032_02.Holds := by
  refine holds_law (by rw [PySem.W.Fast.te9446332074065402090]; kernel_rfl) fun said => ?_
  refine holds_openX (q := q02) (loose := [Str.ofString "EXACT_TOKEN_TYPES"]) (Xt := fun s => xlAt q02 [] s && recOk [] s) (XP := XL q02 []) (Yf := seen02) (Ya := want02) (N := 4448) left02 (fun s e => xl_of s (Bool.and_eq_true_iff.mp e).1) XL.keeps (by rfl) (by rfl) (by rfl) (fun s e => recFacts_of (Bool.and_eq_true_iff.mp e).2) (by rfl) said ?k2 ?k3 ?hw ?hc
  case k2 => decide +kernel
  case k3 => exact ⟨rfl, rfl, rfl, rfl, rfl, by decide +kernel⟩
  case hw => w_witness2
  intro w s₀ s₁ mg mb G Y fa o pm cd doc dV kV ho hd hcd hD hmg hg args vals as hlaid hpre hlay hrd hwl hlo
  clear hD hcd hd
  wrow_args hpre hlay hrd hwl hlo
  rename_i ns _ _ _ _ _ _ _ a vs _ hL _ _ _ hI _ hlen _
  have Y1 : seenK (kAt s₀.heap as02) = wantK w.params := congrArg Prod.fst Y
  have Y2 : (s₀.heap.isNs cStatics, s₀.heap.nsMap cStatics sharingNotToldKey, s₀.heap.nsMap cStatics "sys.int_max_str_digits", s₀.heap.isNs mainGlobals, s₀.heap.nsMap mainGlobals (Str.ofString "law")) = (true, (none : Option Value), (none : Option Value), true, some (Value.ref 130)) := congrArg (fun x => x.2.1) Y
  have Y3 : s₀.toks = 570 := congrArg (fun x => x.2.2.1) Y
  have Y4 : noted s₀.heap 76 72 = true := congrArg (fun x => x.2.2.2.1) Y
  have Y5 : fnCd (kAt s₀.heap as02) 77 = .ref 76 := congrArg (fun x => x.2.2.2.2.1) Y
  have Y6 : modIn (kAt s₀.heap as02) 4 = true := congrArg (fun x => x.2.2.2.2.2) Y
  simp only [Prod.mk.injEq] at Y2
  obtain ⟨y1, y2, y3, y4, y5⟩ := Y2
  have kp := Laid.keeps hlaid
  let C : Wd := ⟨P02, w, kAt s₀.heap as02, mg, mb, s₀.heap.nsMap cStatics, some (76, 72)⟩
  obtain ⟨d, hd50, Φ, hc, hΦ⟩ := main C rfl ⟨Y1, Y5, rfl, Y6⟩
  have hfa : fa = 130 := by
    have e : mg (Str.ofString "law") = some (.ref 130) := (Heap.Ns.agree G.T.g ((Heap.Ns.of_isNs y4).keeps kp) _).trans y5
    have e2 : some (Value.ref fa) = some (.ref 130) := (Eq.symm hmg).trans e
    cases e2; rfl
  subst hfa
  have N1 := noted_code Y4
  have N1c : s₁.heap.IsCode 76 72 #[] := N1.1.keeps kp
  have N1t : s₁.heap.TableAt 76 72 #[] := N1.2.keeps kp
  let G₀ : Gh := ⟨res s₁.heap (fun b => b ≠ 72), fun ž1 => none, some (76, 72)⟩
  have up : ∀ b o, b ≠ 72 → s₁.heap.get? b = some o → G₀.h.get? b = some o := fun b o hb e => (res_get ..).mpr ⟨hb, e⟩
  have upN : ∀ b m, b ≠ 72 → s₁.heap.Ns b m → G₀.h.Ns b m := fun b m hb ⟨o, es, ep, ho, r⟩ => ⟨o, es, ep, up b o hb ho, r⟩
  have inn : In G₀ s₁ := ⟨fun b o e => ((res_get ..).mp e).2, Nat.lt_of_lt_of_le (by decide) (X.script_toks hlaid Y3), fun t x e => (nomatch e), fun c P e => by
    have e2 : some ((76 : Addr), (72 : Addr)) = some (c, P) := e
    rw [Option.some.injEq, Prod.mk.injEq] at e2
    obtain ⟨rfl, rfl⟩ := e2
    obtain ⟨⟨o, vs, ho, _⟩, _⟩ := id N1t
    refine ⟨⟨o, up _ _ (by decide) ho⟩, ?_, by decide, #[], N1c, N1t⟩
    cases q : G₀.h.get? 72 with
    | none => rfl
    | some o => exact absurd rfl ((res_get ..).mp q).1⟩
  have bs : Bs C G₀ := by
    refine ⟨fun b o e => up b o (fun h => ?_) (kp _ _ (kAt_in s₀.heap as02 b o e)), upN _ _ (by decide) G.T.g, upN _ _ (by decide) G.T.b, upN _ _ (by decide) ((Heap.Ns.of_isNs y1).keeps kp), y3, y2, ?_, G.T.builtins, rfl⟩
    · have := kAt_mem (as := as02) (PySem.W.mem_of_lookupK (show List.lookup b (kAt s₀.heap as02) = some o from e))
      rw [h] at this
      exact absurd this (by decide)
    · obtain ⟨mc, hn, r⟩ := G.T.nolimit
      exact ⟨mc, upN _ _ (by decide) hn, r⟩
  have hL₀ : G₀.h.IsList a vs.toArray := by
    obtain ⟨o, ho, hc', r⟩ := hL
    refine ⟨o, up a o (fun h => ?_) ho, hc', r⟩
    rw [h, N1t.2] at ho
    cases ho; cases hc'
  refine wpAny_mono (hc callerA _ s₁ G₀ [.ref a] [.arg (ns.map PV.int)] (.bool true) ⟨rfl, ?_, ?_⟩ bs inn (.cons (.arg hL₀ (repL_ints hI)) .nil) (hΦ ns ?_)) (fun v s' h => ?_) fun ž1 ž2 h => h
  · have h1 : callerA.depth + 50 < recursionLimit := by decide
    lia
  · have h1 : callerA.units + 8 * 50 + 200 < cLine := by decide
    lia
  · lia
  · obtain ⟨G', x, r⟩ := h
    cases r
    refine ⟨.inl ⟨_, _, [], rfl, fun ž1 => rfl, ReadsW.bool true, ?_, fun ž1 => ⟨List.nodup_nil, fun ž1 hm => (nomatch hm)⟩⟩, (x.old s₁.heap (Nat.le_refl _) ⟨.of_keep fun ž1 ž2 e => e, fun c P e => by
      have e2 : some ((76 : Addr), (72 : Addr)) = some (c, P) := e
      rw [Option.some.injEq, Prod.mk.injEq] at e2
      obtain ⟨rfl, rfl⟩ := e2
      exact ⟨#[], N1t⟩⟩).1, x.os, x.gens (by rw [hg]; exact AllBare.empty)⟩
    first | rfl | wrow_post
end
end Mine
namespace Mine
open PySem PySem.W
section
theorem all02 : PySem.Challenge.rw_xh0032_02.Holds := holds02 fun C hp hk => ⟨4, by decide, Φ_law, ok_law hk 0, pure_law⟩
end
end Mine
theorem PySem.Challenge.cw_xh0032_02_holds : PySem.Challenge.rw_xh0032_02.Holds :=
  Mine.all02
