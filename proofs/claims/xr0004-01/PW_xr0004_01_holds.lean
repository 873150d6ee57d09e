import PyProof.Rows.All
import Wide.All
import OpenK.AllK
import Wide.FinOn
import PyProof.FactsBase
import PyProof.TableTree
import PyProof.FactsTree
import PyProof.PlainAttrs
import PyProof.IsiBase
import PyProof.FactsAll.object
import OpenK.KCls
import KE.KSuperObj
import KE.KSuper
import PyProof.WalksPairs
import PyProof.GenCompT
import PyProof.JoinWalk
import KE.KCallOwn
import Lean
import PySem.Challenge.RW_xr0004_01
set_option Elab.async false
set_option maxRecDepth 100000
set_option linter.unusedVariables false

namespace Mine
open PySem PySem.W PyProof.Rows
set_option maxHeartbeats 8000000
open_top hd for PySem.Challenge.rw_xr0004_01
end Mine

namespace Mine
universe u0 u1 u2 u3 u4 u5 u6 u7 u8 u9 u10 u11 u12 u13 u14 u15 u16 u17 u18 u19 u20 u21 u22 u23
theorem xA {p0 : Prop} {r : Prop} {P : Prop} (h : p0 ∧ (r)) (f : p0 → r → P) : P := f h.1 h.2
theorem xE {α0 : Sort u0} {r : α0 → Prop} {P : Prop} (h : ∃ x0, r x0) (f : ∀ x0, r x0 → P) : P := Exists.elim h f
theorem xEA {α0 : Sort u0} {p1 : α0 → Prop} {r : α0 → Prop} {P : Prop} (h : ∃ x0, p1 x0 ∧ (r x0)) (f : ∀ x0, p1 x0 → r x0 → P) : P := Exists.elim h fun x0 h => xA h (f x0)
theorem xEEA {α0 : Sort u0} {α1 : Sort u1} {p2 : α0 → α1 → Prop} {r : α0 → α1 → Prop} {P : Prop} (h : ∃ x0, ∃ x1, p2 x0 x1 ∧ (r x0 x1)) (f : ∀ x0, ∀ x1, p2 x0 x1 → r x0 x1 → P) : P := Exists.elim h fun x0 h => xEA h (f x0)
theorem xAE {α0 : Sort u0} {p0 : Prop} {r : α0 → Prop} {P : Prop} (h : p0 ∧ (∃ x0, r x0)) (f : p0 → ∀ x0, r x0 → P) : P := xE h.2 (f h.1)
theorem xEEEA {α0 : Sort u0} {α1 : Sort u1} {α2 : Sort u2} {p3 : α0 → α1 → α2 → Prop} {r : α0 → α1 → α2 → Prop} {P : Prop} (h : ∃ x0, ∃ x1, ∃ x2, p3 x0 x1 x2 ∧ (r x0 x1 x2)) (f : ∀ x0, ∀ x1, ∀ x2, p3 x0 x1 x2 → r x0 x1 x2 → P) : P := Exists.elim h fun x0 h => xEEA h (f x0)
theorem xEE {α0 : Sort u0} {α1 : Sort u1} {r : α0 → α1 → Prop} {P : Prop} (h : ∃ x0, ∃ x1, r x0 x1) (f : ∀ x0, ∀ x1, r x0 x1 → P) : P := Exists.elim h fun x0 h => xE h (f x0)
theorem xEEE {α0 : Sort u0} {α1 : Sort u1} {α2 : Sort u2} {r : α0 → α1 → α2 → Prop} {P : Prop} (h : ∃ x0, ∃ x1, ∃ x2, r x0 x1 x2) (f : ∀ x0, ∀ x1, ∀ x2, r x0 x1 x2 → P) : P := Exists.elim h fun x0 h => xEE h (f x0)
theorem xAA {p0 : Prop} {p1 : Prop} {r : Prop} {P : Prop} (h : p0 ∧ (p1 ∧ (r))) (f : p0 → p1 → r → P) : P := xA h.2 (f h.1)
theorem xEAA {α0 : Sort u0} {p1 : α0 → Prop} {p2 : α0 → Prop} {r : α0 → Prop} {P : Prop} (h : ∃ x0, p1 x0 ∧ (p2 x0 ∧ (r x0))) (f : ∀ x0, p1 x0 → p2 x0 → r x0 → P) : P := Exists.elim h fun x0 h => xAA h (f x0)
theorem xEEAA {α0 : Sort u0} {α1 : Sort u1} {p2 : α0 → α1 → Prop} {p3 : α0 → α1 → Prop} {r : α0 → α1 → Prop} {P : Prop} (h : ∃ x0, ∃ x1, p2 x0 x1 ∧ (p3 x0 x1 ∧ (r x0 x1))) (f : ∀ x0, ∀ x1, p2 x0 x1 → p3 x0 x1 → r x0 x1 → P) : P := Exists.elim h fun x0 h => xEAA h (f x0)
theorem xAAA {p0 : Prop} {p1 : Prop} {p2 : Prop} {r : Prop} {P : Prop} (h : p0 ∧ (p1 ∧ (p2 ∧ (r)))) (f : p0 → p1 → p2 → r → P) : P := xAA h.2 (f h.1)
theorem xEEEAA {α0 : Sort u0} {α1 : Sort u1} {α2 : Sort u2} {p3 : α0 → α1 → α2 → Prop} {p4 : α0 → α1 → α2 → Prop} {r : α0 → α1 → α2 → Prop} {P : Prop} (h : ∃ x0, ∃ x1, ∃ x2, p3 x0 x1 x2 ∧ (p4 x0 x1 x2 ∧ (r x0 x1 x2))) (f : ∀ x0, ∀ x1, ∀ x2, p3 x0 x1 x2 → p4 x0 x1 x2 → r x0 x1 x2 → P) : P := Exists.elim h fun x0 h => xEEAA h (f x0)
theorem xEAAA {α0 : Sort u0} {p1 : α0 → Prop} {p2 : α0 → Prop} {p3 : α0 → Prop} {r : α0 → Prop} {P : Prop} (h : ∃ x0, p1 x0 ∧ (p2 x0 ∧ (p3 x0 ∧ (r x0)))) (f : ∀ x0, p1 x0 → p2 x0 → p3 x0 → r x0 → P) : P := Exists.elim h fun x0 h => xAAA h (f x0)
theorem xEEAAA {α0 : Sort u0} {α1 : Sort u1} {p2 : α0 → α1 → Prop} {p3 : α0 → α1 → Prop} {p4 : α0 → α1 → Prop} {r : α0 → α1 → Prop} {P : Prop} (h : ∃ x0, ∃ x1, p2 x0 x1 ∧ (p3 x0 x1 ∧ (p4 x0 x1 ∧ (r x0 x1)))) (f : ∀ x0, ∀ x1, p2 x0 x1 → p3 x0 x1 → p4 x0 x1 → r x0 x1 → P) : P := Exists.elim h fun x0 h => xEAAA h (f x0)
theorem xEEEAAA {α0 : Sort u0} {α1 : Sort u1} {α2 : Sort u2} {p3 : α0 → α1 → α2 → Prop} {p4 : α0 → α1 → α2 → Prop} {p5 : α0 → α1 → α2 → Prop} {r : α0 → α1 → α2 → Prop} {P : Prop} (h : ∃ x0, ∃ x1, ∃ x2, p3 x0 x1 x2 ∧ (p4 x0 x1 x2 ∧ (p5 x0 x1 x2 ∧ (r x0 x1 x2)))) (f : ∀ x0, ∀ x1, ∀ x2, p3 x0 x1 x2 → p4 x0 x1 x2 → p5 x0 x1 x2 → r x0 x1 x2 → P) : P := Exists.elim h fun x0 h => xEEAAA h (f x0)
theorem xAEEA {α0 : Sort u0} {α1 : Sort u1} {p0 : Prop} {p3 : α0 → α1 → Prop} {r : α0 → α1 → Prop} {P : Prop} (h : p0 ∧ (∃ x0, ∃ x1, p3 x0 x1 ∧ (r x0 x1))) (f : p0 → ∀ x0, ∀ x1, p3 x0 x1 → r x0 x1 → P) : P := xEEA h.2 (f h.1)
theorem xEEEEAA {α0 : Sort u0} {α1 : Sort u1} {α2 : Sort u2} {α3 : Sort u3} {p4 : α0 → α1 → α2 → α3 → Prop} {p5 : α0 → α1 → α2 → α3 → Prop} {r : α0 → α1 → α2 → α3 → Prop} {P : Prop} (h : ∃ x0, ∃ x1, ∃ x2, ∃ x3, p4 x0 x1 x2 x3 ∧ (p5 x0 x1 x2 x3 ∧ (r x0 x1 x2 x3))) (f : ∀ x0, ∀ x1, ∀ x2, ∀ x3, p4 x0 x1 x2 x3 → p5 x0 x1 x2 x3 → r x0 x1 x2 x3 → P) : P := Exists.elim h fun x0 h => xEEEAA h (f x0)
theorem xAEA {α0 : Sort u0} {p0 : Prop} {p2 : α0 → Prop} {r : α0 → Prop} {P : Prop} (h : p0 ∧ (∃ x0, p2 x0 ∧ (r x0))) (f : p0 → ∀ x0, p2 x0 → r x0 → P) : P := xEA h.2 (f h.1)
theorem xAAAA {p0 : Prop} {p1 : Prop} {p2 : Prop} {p3 : Prop} {r : Prop} {P : Prop} (h : p0 ∧ (p1 ∧ (p2 ∧ (p3 ∧ (r))))) (f : p0 → p1 → p2 → p3 → r → P) : P := xAAA h.2 (f h.1)
theorem xAAAAA {p0 : Prop} {p1 : Prop} {p2 : Prop} {p3 : Prop} {p4 : Prop} {r : Prop} {P : Prop} (h : p0 ∧ (p1 ∧ (p2 ∧ (p3 ∧ (p4 ∧ (r)))))) (f : p0 → p1 → p2 → p3 → p4 → r → P) : P := xAAAA h.2 (f h.1)
theorem xAAAAAA {p0 : Prop} {p1 : Prop} {p2 : Prop} {p3 : Prop} {p4 : Prop} {p5 : Prop} {r : Prop} {P : Prop} (h : p0 ∧ (p1 ∧ (p2 ∧ (p3 ∧ (p4 ∧ (p5 ∧ (r))))))) (f : p0 → p1 → p2 → p3 → p4 → p5 → r → P) : P := xAAAAA h.2 (f h.1)
theorem xAAAAAAA {p0 : Prop} {p1 : Prop} {p2 : Prop} {p3 : Prop} {p4 : Prop} {p5 : Prop} {p6 : Prop} {r : Prop} {P : Prop} (h : p0 ∧ (p1 ∧ (p2 ∧ (p3 ∧ (p4 ∧ (p5 ∧ (p6 ∧ (r)))))))) (f : p0 → p1 → p2 → p3 → p4 → p5 → p6 → r → P) : P := xAAAAAA h.2 (f h.1)
theorem xAAAAAAAA {p0 : Prop} {p1 : Prop} {p2 : Prop} {p3 : Prop} {p4 : Prop} {p5 : Prop} {p6 : Prop} {p7 : Prop} {r : Prop} {P : Prop} (h : p0 ∧ (p1 ∧ (p2 ∧ (p3 ∧ (p4 ∧ (p5 ∧ (p6 ∧ (p7 ∧ (r))))))))) (f : p0 → p1 → p2 → p3 → p4 → p5 → p6 → p7 → r → P) : P := xAAAAAAA h.2 (f h.1)
theorem xEEEE {α0 : Sort u0} {α1 : Sort u1} {α2 : Sort u2} {α3 : Sort u3} {r : α0 → α1 → α2 → α3 → Prop} {P : Prop} (h : ∃ x0, ∃ x1, ∃ x2, ∃ x3, r x0 x1 x2 x3) (f : ∀ x0, ∀ x1, ∀ x2, ∀ x3, r x0 x1 x2 x3 → P) : P := Exists.elim h fun x0 h => xEEE h (f x0)
theorem xEEEEE {α0 : Sort u0} {α1 : Sort u1} {α2 : Sort u2} {α3 : Sort u3} {α4 : Sort u4} {r : α0 → α1 → α2 → α3 → α4 → Prop} {P : Prop} (h : ∃ x0, ∃ x1, ∃ x2, ∃ x3, ∃ x4, r x0 x1 x2 x3 x4) (f : ∀ x0, ∀ x1, ∀ x2, ∀ x3, ∀ x4, r x0 x1 x2 x3 x4 → P) : P := Exists.elim h fun x0 h => xEEEE h (f x0)
theorem xEEEEEE {α0 : Sort u0} {α1 : Sort u1} {α2 : Sort u2} {α3 : Sort u3} {α4 : Sort u4} {α5 : Sort u5} {r : α0 → α1 → α2 → α3 → α4 → α5 → Prop} {P : Prop} (h : ∃ x0, ∃ x1, ∃ x2, ∃ x3, ∃ x4, ∃ x5, r x0 x1 x2 x3 x4 x5) (f : ∀ x0, ∀ x1, ∀ x2, ∀ x3, ∀ x4, ∀ x5, r x0 x1 x2 x3 x4 x5 → P) : P := Exists.elim h fun x0 h => xEEEEE h (f x0)
theorem xEEEEEEE {α0 : Sort u0} {α1 : Sort u1} {α2 : Sort u2} {α3 : Sort u3} {α4 : Sort u4} {α5 : Sort u5} {α6 : Sort u6} {r : α0 → α1 → α2 → α3 → α4 → α5 → α6 → Prop} {P : Prop} (h : ∃ x0, ∃ x1, ∃ x2, ∃ x3, ∃ x4, ∃ x5, ∃ x6, r x0 x1 x2 x3 x4 x5 x6) (f : ∀ x0, ∀ x1, ∀ x2, ∀ x3, ∀ x4, ∀ x5, ∀ x6, r x0 x1 x2 x3 x4 x5 x6 → P) : P := Exists.elim h fun x0 h => xEEEEEE h (f x0)
theorem xEEEEEEEE {α0 : Sort u0} {α1 : Sort u1} {α2 : Sort u2} {α3 : Sort u3} {α4 : Sort u4} {α5 : Sort u5} {α6 : Sort u6} {α7 : Sort u7} {r : α0 → α1 → α2 → α3 → α4 → α5 → α6 → α7 → Prop} {P : Prop} (h : ∃ x0, ∃ x1, ∃ x2, ∃ x3, ∃ x4, ∃ x5, ∃ x6, ∃ x7, r x0 x1 x2 x3 x4 x5 x6 x7) (f : ∀ x0, ∀ x1, ∀ x2, ∀ x3, ∀ x4, ∀ x5, ∀ x6, ∀ x7, r x0 x1 x2 x3 x4 x5 x6 x7 → P) : P := Exists.elim h fun x0 h => xEEEEEEE h (f x0)
theorem xEEEEEEEEE {α0 : Sort u0} {α1 : Sort u1} {α2 : Sort u2} {α3 : Sort u3} {α4 : Sort u4} {α5 : Sort u5} {α6 : Sort u6} {α7 : Sort u7} {α8 : Sort u8} {r : α0 → α1 → α2 → α3 → α4 → α5 → α6 → α7 → α8 → Prop} {P : Prop} (h : ∃ x0 x1 x2 x3 x4 x5 x6 x7 x8, r x0 x1 x2 x3 x4 x5 x6 x7 x8) (f : ∀ x0 x1 x2 x3 x4 x5 x6 x7 x8, r x0 x1 x2 x3 x4 x5 x6 x7 x8 → P) : P := Exists.elim h fun x0 h => xEEEEEEEE h (f x0)
theorem xEEEEEEEEEEEEEEEEEEE {α0 : Sort u0} {α1 : Sort u1} {α2 : Sort u2} {α3 : Sort u3} {α4 : Sort u4} {α5 : Sort u5} {α6 : Sort u6} {α7 : Sort u7} {α8 : Sort u8} {α9 : Sort u9} {α10 : Sort u10} {α11 : Sort u11} {α12 : Sort u12} {α13 : Sort u13} {α14 : Sort u14} {α15 : Sort u15} {α16 : Sort u16} {α17 : Sort u17} {α18 : Sort u18} {r : α0 → α1 → α2 → α3 → α4 → α5 → α6 → α7 → α8 → α9 → α10 → α11 → α12 → α13 → α14 → α15 → α16 → α17 → α18 → Prop} {P : Prop} (h : ∃ x0 x1 x2 x3 x4 x5 x6 x7 x8 x9 x10 x11 x12 x13 x14 x15 x16 x17 x18, r x0 x1 x2 x3 x4 x5 x6 x7 x8 x9 x10 x11 x12 x13 x14 x15 x16 x17 x18) (f : ∀ x0 x1 x2 x3 x4 x5 x6 x7 x8 x9 x10 x11 x12 x13 x14 x15 x16 x17 x18, r x0 x1 x2 x3 x4 x5 x6 x7 x8 x9 x10 x11 x12 x13 x14 x15 x16 x17 x18 → P) : P := xEEEEEEEEE h fun x0 x1 x2 x3 x4 x5 x6 x7 x8 h => xE h fun x9 h => xEEEEEEEEE h (f x0 x1 x2 x3 x4 x5 x6 x7 x8 x9)
theorem xEEEEEEEEEEEEEEEEEEEE {α0 : Sort u0} {α1 : Sort u1} {α2 : Sort u2} {α3 : Sort u3} {α4 : Sort u4} {α5 : Sort u5} {α6 : Sort u6} {α7 : Sort u7} {α8 : Sort u8} {α9 : Sort u9} {α10 : Sort u10} {α11 : Sort u11} {α12 : Sort u12} {α13 : Sort u13} {α14 : Sort u14} {α15 : Sort u15} {α16 : Sort u16} {α17 : Sort u17} {α18 : Sort u18} {α19 : Sort u19} {r : α0 → α1 → α2 → α3 → α4 → α5 → α6 → α7 → α8 → α9 → α10 → α11 → α12 → α13 → α14 → α15 → α16 → α17 → α18 → α19 → Prop} {P : Prop} (h : ∃ x0 x1 x2 x3 x4 x5 x6 x7 x8 x9 x10 x11 x12 x13 x14 x15 x16 x17 x18 x19, r x0 x1 x2 x3 x4 x5 x6 x7 x8 x9 x10 x11 x12 x13 x14 x15 x16 x17 x18 x19) (f : ∀ x0 x1 x2 x3 x4 x5 x6 x7 x8 x9 x10 x11 x12 x13 x14 x15 x16 x17 x18 x19, r x0 x1 x2 x3 x4 x5 x6 x7 x8 x9 x10 x11 x12 x13 x14 x15 x16 x17 x18 x19 → P) : P := xEEEEEEEEE h fun x0 x1 x2 x3 x4 x5 x6 x7 x8 h => xEE h fun x9 x10 h => xEEEEEEEEE h (f x0 x1 x2 x3 x4 x5 x6 x7 x8 x9 x10)
theorem nS {β : Type u1} {a : β} {P : Prop} (h : none = some a) : P := nomatch h
theorem nT {β : Type u1} {a : β} {P : Prop} (h : some a = none) : P := nomatch h
theorem nF {P : Prop} (h : false = true) : P := nomatch h
theorem nG {P : Prop} (h : true = false) : P := nomatch h
theorem nM {β : Type u1} {a : β} {P : Prop} (h : a ∈ []) : P := absurd h List.not_mem_nil
theorem nZ {n : Nat} {P : Prop} (h : n < 0) : P := absurd h (Nat.not_lt_zero n)
end Mine

namespace Mine
open PySem PyProof.Rows

/-- plain values -/
inductive V where
  | none
  | bool (b : Bool)
  | int (i : Int)
  | flt (x : UInt64)
  | str (s : Str)
  | byt (b : Array UInt8)
  | tup (l : List V)
  | lst (l : List V)
  | mat (t : Str) (b e c f : Nat)

noncomputable def sizeName : Str := "_initial_size"
/-- the frozen part of the heap: what is never written again -/
noncomputable abbrev Fz := Addr → Option Obj
noncomputable def Le (F F' : Fz) : Prop := ∀ b o, F b = some o → F' b = some o
noncomputable def Sub (F : Fz) (h : Heap) : Prop := ∀ b o, F b = some o → h.get? b = some o
theorem Le.rfl {F : Fz} : Le F F := fun _ _ e => e
theorem Le.trans {F F' F'' : Fz} (a : Le F F') (b : Le F' F'') : Le F F'' := fun x o e => b x o (a x o e)

/-- a match, as it lies frozen -/
noncomputable def MatAt (F : Fz) (a : Addr) (t : Str) (b e c f : Nat) : Prop := ∃ (o : Obj) (T : Addr) (oT : Obj) (tk : Tok) (p q r u : Value) (n : Nat), F a = some o ∧ o.cls = .type "re.Match" ∧ o.data = .fields #[.str t tk, p, q, r, u, .ref T] ∧
  F T = some oT ∧ oT.cls = .type "tuple" ∧ oT.data = .seq #[rawInt b, rawInt e, rawInt c, rawInt f] n ∧ o.dict = Option.none
theorem MatAt.mono {F F' : Fz} (h : Le F F') {a : Addr} {t : Str} {b e c f : Nat} (m : MatAt F a t b e c f) : MatAt F' a t b e c f := by
  (refine xEEEEEEEEE m ?_; clear m; intro o T oT tk p q r u n qr0; refine xAAAA qr0 ?_; clear qr0; intro h1 h2 h3 h4 h5)
  exact ⟨o, T, oT, tk, p, q, r, u, n, h _ _ h1, h2, h3, h _ _ h4, h5⟩
mutual
inductive Rd (F : Fz) : Value → V → Prop
  | none : Rd F .none .none
  | bool {b : Bool} : Rd F (.bool b) (.bool b)
  | int {i : Int} {t : Tok} : Rd F (.int i t) (.int i)
  | flt {x : UInt64} {t : Tok} : t ≠ 0 → Rd F (.float x t) (.flt x)
  | str {x : Str} {t : Tok} : Rd F (.str x t) (.str x)
  | byt {x : Array UInt8} {t : Tok} : Rd F (.bytes x t) (.byt x)
  | tup {a : Addr} {o : Obj} {xs : Array Value} {n : Nat} {l : List V} : F a = some o → o.cls = .type "tuple" → o.data = .seq xs n → RdL F xs.toList l → Rd F (.ref a) (.tup l)
  | lst {a : Addr} {o : Obj} {xs : Array Value} {n : Nat} {l : List V} : F a = some o → o.cls = .type "list" → o.data = .seq xs n → RdL F xs.toList l → Rd F (.ref a) (.lst l)
  | mat {a : Addr} {t : Str} {b e c f : Nat} : MatAt F a t b e c f → Rd F (.ref a) (.mat t b e c f)
inductive RdL (F : Fz) : List Value → List V → Prop
  | nil : RdL F [] []
  | cons {v : Value} {vs : List Value} {x : V} {l : List V} : Rd F v x → RdL F vs l → RdL F (v :: vs) (x :: l)
end

theorem RdL.ind {F : Fz} {P : List Value → List V → Prop} (h0 : P [] []) (h1 : ∀ v vs x l, Rd F v x → RdL F vs l → P vs l → P (v :: vs) (x :: l)) {vs : List Value} {l : List V} (r : RdL F vs l) : P vs l :=
  RdL.rec (motive_1 := fun _ _ _ => True) (motive_2 := fun vs l _ => P vs l) trivial trivial trivial (fun _ => trivial) trivial trivial (fun _ _ _ _ _ => trivial) (fun _ _ _ _ _ => trivial) (fun _ => trivial) h0 (fun a b _ ih => h1 _ _ _ _ a b ih) r
theorem Rd.mono {F F' : Fz} (h : Le F F') {v : Value} {x : V} (r : Rd F v x) : Rd F' v x :=
  Rd.rec (motive_1 := fun v x _ => Rd F' v x) (motive_2 := fun vs l _ => RdL F' vs l) .none .bool .int (fun h => .flt h) .str .byt (fun e c d _ ih => .tup (h _ _ e) c d ih) (fun e c d _ ih => .lst (h _ _ e) c d ih) (fun m => .mat (m.mono h)) .nil (fun _ _ a b => .cons a b) r
theorem RdL.mono {F F' : Fz} (h : Le F F') {vs : List Value} {l : List V} (r : RdL F vs l) : RdL F' vs l := r.ind .nil fun _ _ _ _ a _ ih => .cons (a.mono h) ih

section
variable {F : Fz} {P : Value → Prop} {v : Value}
@[elab_as_elim] theorem Rd.ie {i : Int} (r : Rd F v (.int i)) (h : ∀ t, P (.int i t)) : P v := by cases r; exact h _
@[elab_as_elim] theorem Rd.se {x : Str} (r : Rd F v (.str x)) (h : ∀ t, P (.str x t)) : P v := by cases r; exact h _
@[elab_as_elim] theorem Rd.fe {x : UInt64} (r : Rd F v (.flt x)) (h : ∀ t, t ≠ 0 → P (.float x t)) : P v := by cases r; exact h _ ‹_›
@[elab_as_elim] theorem Rd.be {x : Array UInt8} (r : Rd F v (.byt x)) (h : ∀ t, P (.bytes x t)) : P v := by cases r; exact h _
@[elab_as_elim] theorem Rd.ne (r : Rd F v .none) (h : P .none) : P v := by cases r; exact h
@[elab_as_elim] theorem Rd.oe {b : Bool} (r : Rd F v (.bool b)) (h : P (.bool b)) : P v := by cases r; exact h
@[elab_as_elim] theorem Rd.le {l : List V} (r : Rd F v (.lst l)) (h : ∀ a o xs n, F a = some o → o.cls = .type "list" → o.data = .seq xs n → RdL F xs.toList l → P (.ref a)) : P v := by
  cases r with
  | lst e c d q => exact h _ _ _ _ e c d q
@[elab_as_elim] theorem Rd.te {l : List V} (r : Rd F v (.tup l)) (h : ∀ a o xs n, F a = some o → o.cls = .type "tuple" → o.data = .seq xs n → RdL F xs.toList l → P (.ref a)) : P v := by
  cases r with
  | tup e c d q => exact h _ _ _ _ e c d q
@[elab_as_elim] theorem Rd.me {t : Str} {b e c f : Nat} (r : Rd F v (.mat t b e c f)) (h : ∀ a (o : Obj) (T : Addr) (oT : Obj) (tk : Tok) (p q r u : Value) (n : Nat), F a = some o → o.cls = .type "re.Match" → o.data = .fields #[.str t tk, p, q, r, u, .ref T] →
    F T = some oT → oT.cls = .type "tuple" → oT.data = .seq #[rawInt b, rawInt e, rawInt c, rawInt f] n → o.dict = Option.none → P (.ref a)) : P v := by
  cases r with
  | mat m =>
    (refine xEEEEEEEEE m ?_; clear m; intro o T oT tk p q r u n qr1; refine xAAAAAA qr1 ?_; clear qr1; intro h1 h2 h3 h4 h5 h6 h7)
    exact h _ o T oT tk p q r u n h1 h2 h3 h4 h5 h6 h7
end
section
variable {F : Fz} {P : List Value → Prop} {vs : List Value}
@[elab_as_elim] theorem RdL.nile (r : RdL F vs []) (h : P []) : P vs := by cases r; exact h
@[elab_as_elim] theorem RdL.conse {x : V} {l : List V} (r : RdL F vs (x :: l)) (h : ∀ v vs', Rd F v x → RdL F vs' l → P (v :: vs')) : P vs := by
  cases r with
  | cons a b => exact h _ _ a b
end
theorem RdL.length {F : Fz} {vs : List Value} {l : List V} (r : RdL F vs l) : vs.length = l.length := r.ind (P := fun vs l => vs.length = l.length) rfl fun _ _ _ _ _ _ ih => congrArg (· + 1) ih
theorem RdL.get {F : Fz} {vs : List Value} {l : List V} (r : RdL F vs l) {i : Nat} {x : V} (e : l[i]? = some x) : ∃ v, vs[i]? = some v ∧ Rd F v x := by
  refine r.ind (P := fun vs l => ∀ i : Nat, l[i]? = some x → ∃ v, vs[i]? = some v ∧ Rd F v x) (fun i e => nT e.symm) (fun v _ _ _ a _ ih i => ?_) i e
  cases i with
  | zero => exact fun e => ⟨v, rfl, Option.some.inj e ▸ a⟩
  | succ i => exact ih i
theorem RdL.get' {F : Fz} {vs : List Value} {l : List V} (r : RdL F vs l) {i : Nat} {v : Value} (e : vs[i]? = some v) : ∃ x, l[i]? = some x ∧ Rd F v x := by
  refine r.ind (P := fun vs l => ∀ i : Nat, vs[i]? = some v → ∃ x, l[i]? = some x ∧ Rd F v x) (fun i e => nT e.symm) (fun _ _ x _ a _ ih i => ?_) i e
  cases i with
  | zero => exact fun e => ⟨x, rfl, Option.some.inj e ▸ a⟩
  | succ i => exact ih i
theorem RdL.append {F : Fz} {vs : List Value} {l : List V} {vs' : List Value} {l' : List V} (r : RdL F vs l) (h : RdL F vs' l') : RdL F (vs ++ vs') (l ++ l') := r.ind (P := fun vs l => RdL F (vs ++ vs') (l ++ l')) h fun _ _ _ _ a _ ih => .cons a ih
theorem RdL.snoc {F : Fz} {vs : List Value} {l : List V} {v : Value} {x : V} (h : RdL F vs l) (hx : Rd F v x) : RdL F (vs ++ [v]) (l ++ [x]) := h.append (.cons hx .nil)
theorem RdL.take {F : Fz} {vs : List Value} {l : List V} (n : Nat) (r : RdL F vs l) : RdL F (vs.take n) (l.take n) :=
  r.ind (P := fun vs l => ∀ n, RdL F (vs.take n) (l.take n)) (fun n => Nat.casesOn n .nil fun _ => .nil) (fun _ _ _ _ a _ ih n => Nat.casesOn n .nil fun n => .cons a (ih n)) n
theorem RdL.drop {F : Fz} {vs : List Value} {l : List V} (n : Nat) (r : RdL F vs l) : RdL F (vs.drop n) (l.drop n) :=
  r.ind (P := fun vs l => ∀ n, RdL F (vs.drop n) (l.drop n)) (fun n => Nat.casesOn n .nil fun _ => .nil) (fun _ _ _ _ a b ih n => Nat.casesOn n (.cons a b) ih) n

/-- a step of the run: only the heap and the tokens change; what lives is kept; the frozen part grows by new objects only -/
noncomputable def Same (s s' : Shared) : Prop := s'.os = s.os ∧ (AllBare s.gens → AllBare s'.gens)
theorem Same.rfl {s : Shared} : Same s s := ⟨_root_.rfl, id⟩
theorem Same.trans {s s' s'' : Shared} (a : Same s s') (b : Same s' s'') : Same s s'' := ⟨b.1.trans a.1, fun h => b.2 (a.2 h)⟩
theorem Same.of {s s' : Shared} (h : ∃ h' tk, s' = { s with heap := h', toks := tk }) : Same s s' := by (refine xEE h ?_; clear h; intro h' t qq0; subst qq0); exact ⟨_root_.rfl, id⟩
structure Mv (F : Fz) (s : Shared) (F' : Fz) (s' : Shared) : Prop where
  eq : Same s s'
  up : Le F F'
  sub : Sub F' s'.heap
  new : ∀ b o, F' b = some o → F b = some o ∨ s.heap.get? b = none
  kp : ∀ b o, s.heap.get? b = some o → s'.heap.get? b = some o
  tk : s.toks ≤ s'.toks

theorem Mv.refl {F : Fz} {s : Shared} (h : Sub F s.heap) : Mv F s F s := ⟨⟨rfl, id⟩, Le.rfl, h, fun _ _ e => .inl e, fun _ _ e => e, Nat.le_refl _⟩
theorem Mv.toks {F : Fz} {s : Shared} (h : Sub F s.heap) {t : Nat} (ht : s.toks ≤ t) : Mv F s F { s with toks := t } := ⟨⟨rfl, id⟩, Le.rfl, h, fun _ _ e => .inl e, fun _ _ e => e, ht⟩
theorem Mv.keep {F : Fz} {s : Shared} {h' : Heap} {t : Nat} (h : Sub F s.heap) (k : ∀ b o, s.heap.get? b = some o → h'.get? b = some o) (ht : s.toks ≤ t) : Mv F s F { s with heap := h', toks := t } :=
  ⟨⟨rfl, id⟩, Le.rfl, fun b o e => k b o (h b o e), fun _ _ e => .inl e, k, ht⟩
theorem Mv.trans {F F' F'' : Fz} {s s' s'' : Shared} (a : Mv F s F' s') (b : Mv F' s' F'' s'') : Mv F s F'' s'' := by
  refine ⟨a.eq.trans b.eq, a.up.trans b.up, b.sub, fun x o e => ?_, fun x o e => b.kp x o (a.kp x o e), Nat.le_trans a.tk b.tk⟩
  · rcases b.new x o e with h | h
    · exact a.new x o h
    · refine .inr ?_
      cases q : s.heap.get? x with
      | none => rfl
      | some o' => rw [a.kp x o' q] at h; injection h
/-- freeze one more object, new since s -/
noncomputable def put (F : Fz) (a : Addr) (o : Obj) : Fz := fun b => if b = a then some o else F b
theorem put_self (F : Fz) (a : Addr) (o : Obj) : put F a o a = some o := by simp [put]
theorem put_le {F : Fz} {a : Addr} {o : Obj} (h : F a = Option.none ∨ F a = some o) : Le F (put F a o) := fun b o' e => by
  by_cases hb : b = a
  · subst hb
    rcases h with h | h
    · rw [h] at e; injection e
    · rw [h] at e; (injection e with e; subst e); simp [put]
  · simp [put, hb, e]
theorem Mv.put {F : Fz} {s : Shared} {F' : Fz} {s' : Shared} (m : Mv F s F' s') {a : Addr} {o : Obj} (hn : s.heap.get? a = none) (ho : s'.heap.get? a = some o) : Mv F s (put F' a o) s' := by
  have h' : F' a = Option.none ∨ F' a = some o := by
    cases q : F' a with
    | none => exact .inl rfl
    | some o' => rw [m.sub a o' q] at ho; exact .inr ho
  refine ⟨m.eq, m.up.trans (put_le h'), fun b o' e => ?_, fun b o' e => ?_, m.kp, m.tk⟩
  · by_cases hb : b = a
    · subst hb; simp [Mine.put] at e; subst e; exact ho
    · simp [Mine.put, hb] at e; exact m.sub b o' e
  · by_cases hb : b = a
    · subst hb; exact .inr hn
    · simp [Mine.put, hb] at e; exact m.new b o' e
theorem get_none_size (h : Heap) : h.get? h.objs.size = none := by
  cases q : h.get? h.objs.size with
  | none => rfl
  | some o => exact absurd (Heap.lt_size q) (Nat.lt_irrefl _)
/-- an object made and frozen -/
theorem Mv.push {F : Fz} {s : Shared} (h : Sub F s.heap) {o : Obj} (hf : o.isFreed = false) {t : Nat} (ht : s.toks ≤ t) : Mv F s (Mine.put F s.heap.objs.size o) { s with heap := s.heap.push o, toks := t } :=
  (Mv.keep h (fun b o' e => Heap.get?_push_of_some o e) ht).put (get_none_size _) (Heap.get?_push_size _ hf)

/-- names in a frozen dict -/
noncomputable def NsF (F : Fz) (a : Addr) (m : Str → Option Value) : Prop := ∃ o es ep, F a = some o ∧ o.data = .dict es ep ∧ StrKeys es ∧ ∀ name, nsFind es name = m name
theorem NsF.ns {F : Fz} {a : Addr} {m : Str → Option Value} {h : Heap} (x : NsF F a m) (k : Sub F h) : h.Ns a m := xEEEA x fun o es ep e r => ⟨o, es, ep, k _ _ e, r⟩
theorem NsF.mono {F F' : Fz} {a : Addr} {m : Str → Option Value} (x : NsF F a m) (k : Le F F') : NsF F' a m := xEEEA x fun o es ep e r => ⟨o, es, ep, k _ _ e, r⟩

structure Gl where
  prog : Program
  w : World
  mg : Str → Option Value
  mb : Str → Option Value
  kk : List (Addr × Obj)

/-- a def of the text -/
structure Fd where
  name : Str
  params : Arguments
  body : List Stmt
  scope : Scope

noncomputable def CodeF (F : Fz) (cd : Value) (q : Str) : Prop := ∃ c o vs t, cd = .ref c ∧ F c = some o ∧ o.data = .fields vs ∧ vs[1]? = some (.str q t)
theorem CodeF.rec_ {F : Fz} {cd : Value} {q : Str} {h : Heap} (x : CodeF F cd q) (k : Sub F h) : h.CodeRec cd q := xEEEEAA x fun c o vs t e g r => ⟨c, o, vs, t, e, k _ _ g, r⟩
theorem CodeF.mono {F F' : Fz} {cd : Value} {q : Str} (x : CodeF F cd q) (k : Le F F') : CodeF F' cd q := xEEEEAA x fun c o vs t e g r => ⟨c, o, vs, t, e, k _ _ g, r⟩

noncomputable def FnF (F : Fz) (mg : Str → Option Value) (d : Fd) : Prop :=
  ∃ a o pm code doc, mg d.name = some (.ref a) ∧ F a = some o ∧ o.data = .func (Calls.docDef d.name d.params d.body d.scope pm code doc) ∧ CodeF F code d.name
theorem FnF.mono {F F' : Fz} {mg : Str → Option Value} {d : Fd} (x : FnF F mg d) (k : Le F F') : FnF F' mg d :=
  xEEEEE x fun a o pm code doc h => xAAA h fun h1 h2 h3 h4 => ⟨a, o, pm, code, doc, h1, k _ _ h2, h3, h4.mono k⟩

noncomputable def rxCode : Array Nat := #[14, 8, 1, 3, 3, 1, 1, 37, 0, 16, 37, 17, 0, 13, 11, 9, 0, 67043328, 126, 126, 0, 0, 0, 0, 0, 13, 11, 9, 0, 67043328, 126, 126, 0, 0, 0, 0, 0, 17, 1, 1]
/-- the compiled pattern, as it lies frozen -/
noncomputable def PatAt (F : Fz) (P : Addr) : Prop := ∃ (o : Obj) (fs : Array Value) (T : Addr) (oT : Obj) (cs : Array Value) (n : Nat), F P = some o ∧ o.cls = .type "re.Pattern" ∧ o.dict = none ∧ o.data = .fields fs ∧ Builtin.Re.reRawNat (fs.getD 6 .none) = 0 ∧ Builtin.Re.reRawNat (fs.getD 2 .none) = 1 ∧
  fs.getD 5 .none = .ref T ∧ F T = some oT ∧ oT.data = .seq cs n ∧ (cs.map Builtin.Re.reRawOf).map (·.toNat) = rxCode
theorem PatAt.mono {F F' : Fz} {P : Addr} (h : PatAt F P) (l : Le F F') : PatAt F' P := by
  (refine xEEEEEE h ?_; clear h; intro o fs T oT cs n qr2; refine xAAAAAAAA qr2 ?_; clear qr2; intro h1 h2 h3 h4 h5 h6 h7 h8 qr3; refine xA qr3 ?_; clear qr3; intro h9 h10)
  exact ⟨o, fs, T, oT, cs, n, l _ _ h1, h2, h3, h4, h5, h6, h7, l _ _ h8, h9, h10⟩

/-- what the frozen part knows of the program -/
structure Pg (g : Gl) (defs : List Fd) (F : Fz) : Prop where
  gl : NsF F mainGlobals g.mg
  bl : NsF F builtinsNs g.mb
  lim : ∃ mc, NsF F cStatics mc ∧ mc "sys.recursionlimit" = Option.none ∧ mc sharingNotToldKey = Option.none
  bi : ∀ x : Str, x ≠ "__name__" → g.mb x = bootBuiltins x
  fn : ∀ d ∈ defs, FnF F g.mg d
  pat : ∃ P, g.mg "ESCAPED_CHAR_RE" = some (.ref P) ∧ PatAt F P
  kin : ∀ a o, g.kk.lookup a = some o → F a = some o
theorem Pg.mono {g : Gl} {defs : List Fd} {F F' : Fz} (x : Pg g defs F) (k : Le F F') : Pg g defs F' :=
  ⟨x.gl.mono k, x.bl.mono k, xEA x.lim fun mc a b => ⟨mc, a.mono k, b⟩, x.bi, fun d hd => (x.fn d hd).mono k, xEA x.pat fun P a b => ⟨P, a, b.mono k⟩, fun a o e => k a o (x.kin a o e)⟩

noncomputable abbrev Rho := Str → Option V

/-- the state bears the frozen part -/
structure Bs (g : Gl) (defs : List Fd) (F : Fz) (s : Shared) : Prop where
  pg : Pg g defs F
  sub : Sub F s.heap
  tk : s.toks ≠ 0
theorem Bs.mv {g : Gl} {defs : List Fd} {F F' : Fz} {s s' : Shared} (x : Bs g defs F s) (m : Mv F s F' s') : Bs g defs F' s' := ⟨x.pg.mono m.up, m.sub, by have := m.tk; have := x.tk; lia⟩
theorem Bs.lim {g : Gl} {defs : List Fd} {F : Fz} {s : Shared} (x : Bs g defs F s) : s.heap.NoLimit := xEAA x.pg.lim fun mc a b _ => ⟨mc, a.ns x.sub, b⟩
theorem Bs.nb {g : Gl} {defs : List Fd} {F : Fz} {s : Shared} (x : Bs g defs F s) : NoneBooked s.heap := xEAA x.pg.lim fun mc a _ b => ⟨mc, a.ns x.sub, b⟩

/-- the state suits a frame's names -/
structure Ok (g : Gl) (defs : List Fd) (F : Fz) (env : Env) (ρ : Rho) (s : Shared) : Prop extends Bs g defs F s where
  kind : env.scope.kind = .function
  gl : env.globals = mainGlobals
  bi : env.builtins = builtinsNs
  loc : ∃ m, s.heap.Ns env.locals m ∧ ∀ x V, ρ x = some V → env.kindOf x = some .local → ∃ v, m x = some v ∧ Rd F v V
  cel : ∀ x V, ρ x = some V → (env.kindOf x = some .cell ∨ env.kindOf x = some .free) → ∃ c v, env.cells.lookup x = some c ∧ s.heap.IsCell c (some v) ∧ Rd F v V
  fl : F env.locals = none
  fc : ∀ x c, env.cells.lookup x = some c → F c = none ∧ ∃ v, s.heap.IsCell c v

theorem Mv.new_none {F : Fz} {s : Shared} {F' : Fz} {s' : Shared} (m : Mv F s F' s') {a : Addr} {o : Obj} (ha : s.heap.get? a = some o) (hf : F a = none) : F' a = none := by
  cases q : F' a with
  | none => rfl
  | some o' =>
    rcases m.new a o' q with h | h
    · rw [hf] at h; injection h
    · rw [ha] at h; injection h

theorem Ok.mv {g : Gl} {defs : List Fd} {F : Fz} {env : Env} {ρ : Rho} {s : Shared} {F' : Fz} {s' : Shared} (x : Ok g defs F env ρ s) (m : Mv F s F' s') : Ok g defs F' env ρ s' where
  toBs := x.toBs.mv m
  kind := x.kind
  gl := x.gl
  bi := x.bi
  loc := xEA x.loc fun n hn hv => ⟨n, hn.keeps m.kp, fun y V e k => xEA (hv y V e k) fun v a b => ⟨v, a, b.mono m.up⟩⟩
  cel := fun y V e k => xEEAA (x.cel y V e k) fun c v a b d => ⟨c, v, a, b.keeps m.kp, d.mono m.up⟩
  fl := by
    (refine xEA x.loc fun n qq1 _ => ?_; refine xEEEA qq1 ?_; clear qq1; intro o _ _ ho _)
    exact m.new_none ho x.fl
  fc := fun y c e => by
    refine xAE (x.fc y c e) fun h1 v hv => ?_
    refine xEA (id hv) fun o ho hd => ?_
    exact ⟨m.new_none ho h1, v, hv.keeps m.kp⟩

/-- room on the stacks -/
structure Room (d : Nat) (A : Around) : Prop where
  hd : A.handled = none
  dp : A.depth + d < 1000
  un : A.units + 8 * d < 9000
  fr : ∃ l, A.frames = some l
theorem Room.le {d d' : Nat} {A : Around} (h : Room d A) (l : d' ≤ d) : Room d' A := ⟨h.hd, by have := h.dp; lia, by have := h.un; lia, h.fr⟩
theorem Room.deeper {d : Nat} {A : Around} {env : Env} (h : Room (d + 1) A) : Room d (A.deeper env) :=
  ⟨h.hd, by have := h.dp; show A.depth + 1 + d < 1000; lia, by have := h.un; show A.units + 3 + 8 * d < 9000; lia, xE h.fr fun l e => ⟨env :: l, by show A.frames.map _ = _; rw [e]; rfl⟩⟩
theorem Room.in1 {d : Nat} {A : Around} (h : Room (d + 1) A) : Room d A.in1 := ⟨h.hd, by have := h.dp; show A.depth + d < 1000; lia, by have := h.un; show A.units + 1 + 8 * d < 9000; lia, h.fr⟩

/-- what a value's tree comes to -/
noncomputable def Res (F : Fz) (s : Shared) (x : V) (v : Value) (s' : Shared) : Prop := ∃ F', Mv F s F' s' ∧ Rd F' v x

noncomputable def Ev (g : Gl) (defs : List Fd) (d : Nat) (env : Env) (ρ : Rho) (e : Expr) (x : V) : Prop :=
  ∀ (A : Around) (E : Value → Shared → Prop) (F : Fz) (s : Shared), Room d A → Ok g defs F env ρ s → wpAny (model g.prog g.w) A (eval e env) (Res F s x) E s

theorem Ev.le {g : Gl} {defs : List Fd} {d d' : Nat} {env : Env} {ρ : Rho} {e : Expr} {x : V} (h : Ev g defs d env ρ e x) (l : d ≤ d') : Ev g defs d' env ρ e x :=
  fun A E F s r ok => h A E F s (r.le l) ok

/-- the same for a tree that is no eval (an operator, a call) -/
noncomputable def Tr (g : Gl) (defs : List Fd) (d : Nat) (args : List V) (t : List Value → Sem Value) (x : V) : Prop :=
  ∀ (A : Around) (E : Value → Shared → Prop) (F : Fz) (s : Shared) (vs : List Value), Room d A → Bs g defs F s → RdL F vs args → wpAny (model g.prog g.w) A (t vs) (Res F s x) E s

/-- an end from a rule: the tokens' order comes by itself -/
noncomputable def Res0 (F : Fz) (s : Shared) (x : V) (v : Value) (s' : Shared) : Prop := s.toks ≤ s'.toks → Res F s x v s'
theorem up {g : Gl} {A : Around} {E : Value → Shared → Prop} {F : Fz} {s : Shared} {t : Sem Value} {x : V} (h : wpAny (model g.prog g.w) A t (Res0 F s x) E s) : wpAny (model g.prog g.w) A t (Res F s x) E s :=
  wpAny_mono (wpAny_toks_of (Nat.le_refl _) h) (fun _ _ h => h.2 h.1) fun _ _ h => h.2

section
variable {g : Gl} {defs : List Fd} {d : Nat} {env : Env} {ρ : Rho}

theorem res_mono {A : Around} {E : Value → Shared → Prop} {F F' : Fz} {s s' : Shared} {t : Sem Value} {x : V} (m : Mv F s F' s') (h : wpAny (model g.prog g.w) A t (Res F' s' x) E s') : wpAny (model g.prog g.w) A t (Res F s x) E s' :=
  wpAny_mono h (fun _ _ h => xEA h fun F₂ m₂ r₂ => ⟨F₂, m.trans m₂, r₂⟩) fun _ _ h => h

theorem Ev.int {i : Int} {k : Nat} {pos : Pos} : Ev g defs d env ρ (.Constant (.int i) k pos) (.int i) := fun _ _ F s _ ok => wpAny_Constant_int ⟨F, Mv.toks ok.sub (Nat.le_succ _), .int⟩
theorem Ev.str {x : Str} {k : Nat} {pos : Pos} : Ev g defs d env ρ (.Constant (.str x) k pos) (.str x) := fun _ _ F s _ ok => Calls.Constant_str ⟨F, Mv.toks ok.sub (Nat.le_succ _), .str⟩
theorem Ev.none {k : Nat} {pos : Pos} : Ev g defs d env ρ (.Constant .none k pos) .none := fun _ _ F s _ ok => wpAny_Constant_none ⟨F, Mv.refl ok.sub, .none⟩
theorem Ev.bool {b : Bool} {k : Nat} {pos : Pos} : Ev g defs d env ρ (.Constant (.bool b) k pos) (.bool b) := fun _ _ F s _ ok => wpAny_Constant_bool ⟨F, Mv.refl ok.sub, .bool⟩
theorem Ev.flt {x : UInt64} {k : Nat} {pos : Pos} : Ev g defs d env ρ (.Constant (.float x) k pos) (.flt x) := fun _ _ F s _ ok => AutoFloatOps.wpAny_Constant_float ⟨F, Mv.toks ok.sub (Nat.le_succ _), .flt ok.tk⟩
theorem Ev.byt {x : List UInt8} {k : Nat} {pos : Pos} : Ev g defs d env ρ (.Constant (.bytes x) k pos) (.byt x.toArray) := fun _ _ F s _ ok => by
  show wpAny _ _ (mkTextBytes x.toArray) _ _ _
  exact wpAny_mkTextBytes ⟨F, Mv.toks ok.sub (Nat.le_succ _), .byt⟩

theorem Ev.name {x : Str} {pos : Pos} {v : V} (hρ : ρ x = some v) (hk : env.kindOf x = some .local ∨ env.kindOf x = some .cell ∨ env.kindOf x = some .free) (hd : (x == ("__debug__" : Str)) = false)
    (hc : (x == ("__classdict__" : Str)) = false) : Ev g defs d env ρ (.Name x pos) v := fun A E F s _ ok => by
  rcases hk with hk | hk | hk
  · refine xEA ok.loc fun m hn hm => ?_
    refine xEA (hm x v hρ hk) fun u hu hr => ?_
    exact wpAny_Name (wpAny_loadName_local ok.kind hk hn hu ⟨F, Mv.refl ok.sub, hr⟩) hd
  · refine xEEAA (ok.cel x v hρ (.inl hk)) fun c u hc' hu hr => ?_
    exact wpAny_Name (wpAny_loadName_cell ok.kind hk hc' hu ⟨F, Mv.refl ok.sub, hr⟩) hd
  · refine xEEAA (ok.cel x v hρ (.inr hk)) fun c u hc' hu hr => ?_
    exact wpAny_Name (wpAny_loadName_free ok.kind hk hc' hu ⟨F, Mv.refl ok.sub, hr⟩ hc) hd

/-- a name of the module -/
theorem ev_global {x : Str} {pos : Pos} {v : Value} {A : Around} {E : Value → Shared → Prop} {F : Fz} {s : Shared} {Q : Value → Shared → Prop} (ok : Ok g defs F env ρ s) (hv : g.mg x = some v) (h : Q v s)
    (hk : env.kindOf x = some .globalImplicit) (hd : (x == ("__debug__" : Str)) = false) : wpAny (model g.prog g.w) A (eval (.Name x pos) env) Q E s :=
  Calls.Name_function_global ok.kind hk (Calls.loadGlobal_global (by rw [ok.gl]; exact ok.pg.gl.ns ok.sub) hv h) hd
theorem ev_builtin {x : Str} {pos : Pos} {v : Value} {A : Around} {E : Value → Shared → Prop} {F : Fz} {s : Shared} {Q : Value → Shared → Prop} (ok : Ok g defs F env ρ s) (hg : g.mg x = Option.none) (hv : bootBuiltins x = some v) (h : Q v s)
    (hn : x ≠ "__name__") (hk : env.kindOf x = some .globalImplicit) (hd : (x == ("__debug__" : Str)) = false) : wpAny (model g.prog g.w) A (eval (.Name x pos) env) Q E s :=
  Calls.Name_function_global ok.kind hk (Calls.loadGlobal_builtin (by rw [ok.gl]; exact ok.pg.gl.ns ok.sub) hg (by rw [ok.bi]; exact ok.pg.bl.ns ok.sub) ((ok.pg.bi x hn).trans hv) h) hd

/-- a scalar of the module -/
theorem Ev.const {x : Str} {pos : Pos} {v : Value} {c : V} (hv : g.mg x = some v) (hc : ∀ F, Rd F v c) (hk : env.kindOf x = some .globalImplicit) (hd : (x == ("__debug__" : Str)) = false) :
    Ev g defs d env ρ (.Name x pos) c := fun _ _ F s _ ok => ev_global ok hv ⟨F, Mv.refl ok.sub, hc F⟩ hk hd

theorem Ev.binop {l r : Expr} {op : Operator} {pos : Pos} {a b c : V} (hl : Ev g defs d env ρ l a) (hr : Ev g defs d env ρ r b)
    (h : Tr g defs d [a, b] (fun vs => match vs with | [x, y] => binaryOp op x y | _ => unsupported "") c) : Ev g defs d env ρ (.BinOp l op r pos) c := fun A E F s rm ok => by
  refine wpAny_BinOp (wpAny_mono (hl A E F s rm ok) (fun va s₁ h₁ => ?_) fun _ _ h => h)
  (refine xEA h₁ ?_; clear h₁; intro F₁ m₁ r₁)
  refine wpAny_mono (hr A E F₁ s₁ rm (ok.mv m₁)) (fun vb s₂ h₂ => ?_) fun _ _ h => h
  (refine xEA h₂ ?_; clear h₂; intro F₂ m₂ r₂)
  exact res_mono (m₁.trans m₂) (h A E F₂ s₂ [va, vb] rm ((ok.mv m₁).mv m₂).toBs (.cons (r₁.mono m₂.up) (.cons r₂ .nil)))

theorem Ev.unop {x : Expr} {op : UnaryOp} {pos : Pos} {a c : V} (hx : Ev g defs d env ρ x a)
    (h : Tr g defs d [a] (fun vs => match vs with | [x] => unaryOp op x | _ => unsupported "") c) : Ev g defs d env ρ (.UnaryOp op x pos) c := fun A E F s rm ok => by
  refine wpAny_UnaryOp (wpAny_mono (hx A E F s rm ok) (fun va s₁ h₁ => ?_) fun _ _ h => h)
  (refine xEA h₁ ?_; clear h₁; intro F₁ m₁ r₁)
  exact res_mono m₁ (h A E F₁ s₁ [va] rm (ok.mv m₁).toBs (.cons r₁ .nil))

theorem Ev.cmp {l r : Expr} {op : CmpOp} {pos : Pos} {a b c : V} (hl : Ev g defs d env ρ l a) (hr : Ev g defs d env ρ r b)
    (h : Tr g defs d [a, b] (fun vs => match vs with | [x, y] => compareOp op x y | _ => unsupported "") c) (hm : behindInMarks op r = false) : Ev g defs d env ρ (.Compare l [op] [r] pos) c := fun A E F s rm ok => by
  refine wpAny_Compare1 (wpAny_mono (hl A E F s rm ok) (fun va s₁ h₁ => ?_) fun _ _ h => h) hm
  (refine xEA h₁ ?_; clear h₁; intro F₁ m₁ r₁)
  refine wpAny_mono (hr A E F₁ s₁ rm (ok.mv m₁)) (fun vb s₂ h₂ => ?_) fun _ _ h => h
  (refine xEA h₂ ?_; clear h₂; intro F₂ m₂ r₂)
  exact res_mono (m₁.trans m₂) (h A E F₂ s₂ [va, vb] rm ((ok.mv m₁).mv m₂).toBs (.cons (r₁.mono m₂.up) (.cons r₂ .nil)))

/-- a test -/
noncomputable def ResB (F : Fz) (s : Shared) (b : Bool) (b' : Bool) (s' : Shared) : Prop := b' = b ∧ ∃ F', Mv F s F' s'
noncomputable def Is (g : Gl) (defs : List Fd) (d : Nat) (env : Env) (ρ : Rho) (e : Expr) (b : Bool) : Prop :=
  ∀ (A : Around) (E : Value → Shared → Prop) (F : Fz) (s : Shared), Room d A → Ok g defs F env ρ s → wpAny (model g.prog g.w) A (isTrue e env (eval e env)) (ResB F s b) E s

theorem Is.cmp {l r : Expr} {op : CmpOp} {pos : Pos} {a b : V} {c : Bool} (hl : Ev g defs d env ρ l a) (hr : Ev g defs d env ρ r b)
    (h : Tr g defs d [a, b] (fun vs => match vs with | [x, y] => compareOp op x y | _ => unsupported "") (.bool c)) (hm : behindInMarks op r = false) : Is g defs d env ρ (.Compare l [op] [r] pos) c := fun A E F s rm ok => by
  refine wpAny_isTrue_Compare1 (wpAny_mono (hl A E F s rm ok) (fun va s₁ h₁ => ?_) fun _ _ h => h) hm
  (refine xEA h₁ ?_; clear h₁; intro F₁ m₁ r₁)
  refine wpAny_mono (hr A E F₁ s₁ rm (ok.mv m₁)) (fun vb s₂ h₂ => ?_) fun _ _ h => h
  (refine xEA h₂ ?_; clear h₂; intro F₂ m₂ r₂)
  refine wpAny_mono (h A E F₂ s₂ [va, vb] rm ((ok.mv m₁).mv m₂).toBs (.cons (r₁.mono m₂.up) (.cons r₂ .nil))) (fun v s₃ h₃ => ?_) fun _ _ h => h
  (refine xEA h₃ ?_; clear h₃; intro F₃ m₃ r₃)
  cases r₃
  exact wpAny_truthy_bool ⟨rfl, F₃, (m₁.trans m₂).trans m₃⟩

theorem Is.or2 {a b : Expr} {pos : Pos} {x y : Bool} (ha : Is g defs d env ρ a x) (hb : x = false → Is g defs d env ρ b y) : Is g defs d env ρ (.BoolOp .Or [a, b] pos) (x || y) := fun A E F s rm ok => by
  refine wpAny_isTrue_BoolOp (wpAny_allTrue_Or_cons (wpAny_mono (ha A E F s rm ok) (fun v s₁ h₁ => ?_) fun _ _ h => h))
  (refine xAE h₁ ?_; clear h₁; intro qq2 F₁ m₁; subst qq2)
  cases v with
  | true => exact ⟨rfl, F₁, m₁⟩
  | false =>
    refine wpAny_allTrue_Or_cons (wpAny_mono (hb rfl A E F₁ s₁ rm (ok.mv m₁)) (fun u s₂ h₂ => ?_) fun _ _ h => h)
    (refine xAE h₂ ?_; clear h₂; intro qq3 F₂ m₂; subst qq3)
    cases u with
    | true => exact ⟨rfl, F₂, m₁.trans m₂⟩
    | false => exact wpAny_allTrue_Or_nil ⟨rfl, F₂, m₁.trans m₂⟩

theorem Ev.ifexp {t b o : Expr} {pos : Pos} {c : Bool} {x : V} (ht : Is g defs d env ρ t c) (hb : c = true → Ev g defs d env ρ b x) (ho : c = false → Ev g defs d env ρ o x) : Ev g defs d env ρ (.IfExp t b o pos) x := fun A E F s rm ok => by
  refine wpAny_IfExp (wpAny_mono (ht A E F s rm ok) (fun v s₁ h₁ => ?_) fun _ _ h => h)
  (refine xAE h₁ ?_; clear h₁; intro qq4 F₁ m₁; subst qq4)
  cases v with
  | true => exact res_mono m₁ (hb rfl A E F₁ s₁ rm (ok.mv m₁))
  | false => exact res_mono m₁ (ho rfl A E F₁ s₁ rm (ok.mv m₁))
end
end Mine

namespace Mine
open PySem PyProof.Rows PySem.W

/-- operators over plain values -/
noncomputable def small (i : Int) : Bool := decide (-(2 ^ 64 : Int) < i) && decide (i < (2 ^ 64 : Int))
noncomputable def bI {β : Type} (x : V) (f : Int → Option β) : Option β := match x with | .int i => f i | _ => none
noncomputable def bF {β : Type} (x : V) (f : UInt64 → Option β) : Option β := match x with | .flt i => f i | _ => none
noncomputable def bS {β : Type} (x : V) (f : Str → Option β) : Option β := match x with | .str i => f i | _ => none
noncomputable def bY {β : Type} (x : V) (f : Array UInt8 → Option β) : Option β := match x with | .byt i => f i | _ => none
noncomputable def bO {β : Type} (x : V) (f : Bool → Option β) : Option β := match x with | .bool i => f i | _ => none
noncomputable def bL {β : Type} (x : V) (f : List V → Option β) : Option β := match x with | .lst i => f i | _ => none
noncomputable def bT {β : Type} (x : V) (f : List V → Option β) : Option β := match x with | .tup i => f i | _ => none
noncomputable def bM {β : Type} (x : V) (f : Str → Nat → Nat → Nat → Nat → Option β) : Option β := match x with | .mat t b e c d => f t b e c d | _ => none
noncomputable def bN {β : Type} (x : V) (f : Option β) : Option β := match x with | .none => f | _ => none
noncomputable def bNil {β : Type} (x : List V) (f : Option β) : Option β := match x with | [] => f | _ :: _ => none
noncomputable def b1 {β : Type} (x : List V) (f : V → Option β) : Option β := match x with | [] => none | a :: r => bNil r (f a)
noncomputable def b2 {β : Type} (x : List V) (f : V → V → Option β) : Option β := match x with | [] => none | a :: r => b1 r (f a)
noncomputable def b3 {β : Type} (x : List V) (f : V → V → V → Option β) : Option β := match x with | [] => none | a :: r => b2 r (f a)
noncomputable def oB {α β : Type} (x : Option α) (f : α → Option β) : Option β := match x with | some a => f a | none => none
noncomputable def oO {β : Type} (x y : Option β) : Option β := match x with | some a => some a | none => y
section
variable {β : Type} {c : β} {x : V} {P : V → Prop}
@[elab_as_elim] theorem iX {f : Int → Option β} (h : bI x f = some c) (k : ∀ i, f i = some c → P (.int i)) : P x := by
  revert h; cases x <;> first | exact fun h => nS h | exact fun h => k _ h
@[elab_as_elim] theorem sX {f : Str → Option β} (h : bS x f = some c) (k : ∀ i, f i = some c → P (.str i)) : P x := by
  revert h; cases x <;> first | exact fun h => nS h | exact fun h => k _ h
@[elab_as_elim] theorem fX {f : UInt64 → Option β} (h : bF x f = some c) (k : ∀ i, f i = some c → P (.flt i)) : P x := by
  revert h; cases x <;> first | exact fun h => nS h | exact fun h => k _ h
@[elab_as_elim] theorem tX {f : List V → Option β} (h : bT x f = some c) (k : ∀ i, f i = some c → P (.tup i)) : P x := by
  revert h; cases x <;> first | exact fun h => nS h | exact fun h => k _ h
@[elab_as_elim] theorem lX {f : List V → Option β} (h : bL x f = some c) (k : ∀ i, f i = some c → P (.lst i)) : P x := by
  revert h; cases x <;> first | exact fun h => nS h | exact fun h => k _ h
@[elab_as_elim] theorem mX {f : Str → Nat → Nat → Nat → Nat → Option β} (h : bM x f = some c) (k : ∀ t b e i j, f t b e i j = some c → P (.mat t b e i j)) : P x := by
  revert h; cases x <;> first | exact fun h => nS h | exact fun h => k _ _ _ _ _ h
@[elab_as_elim] theorem nX {f : Option β} (h : bN x f = some c) (k : f = some c → P .none) : P x := by
  revert h; cases x <;> first | exact fun h => nS h | exact fun h => k h
@[elab_as_elim] theorem yX {f : Array UInt8 → Option β} (h : bY x f = some c) (k : ∀ i, f i = some c → P (.byt i)) : P x := by
  revert h; cases x <;> first | exact fun h => nS h | exact fun h => k _ h
end
section
variable {β : Type} {c : β} {F : Fz} {v : Value} {x : V} {P : Value → Prop}
@[elab_as_elim] theorem iR {f : Int → Option β} (r : Rd F v x) (h : bI x f = some c) (k : ∀ i t, f i = some c → P (.int i t)) : P v :=
  iX (P := fun x => Rd F v x → P v) h (fun i h r => Rd.ie r fun t => k i t h) r
@[elab_as_elim] theorem fltR {f : UInt64 → Option β} (r : Rd F v x) (h : bF x f = some c) (k : ∀ i t, t ≠ 0 → f i = some c → P (.float i t)) : P v :=
  fX (P := fun x => Rd F v x → P v) h (fun i h r => Rd.fe r fun t ht => k i t ht h) r
@[elab_as_elim] theorem sR {f : Str → Option β} (r : Rd F v x) (h : bS x f = some c) (k : ∀ i t, f i = some c → P (.str i t)) : P v :=
  sX (P := fun x => Rd F v x → P v) h (fun i h r => Rd.se r fun t => k i t h) r
@[elab_as_elim] theorem yR {f : Array UInt8 → Option β} (r : Rd F v x) (h : bY x f = some c) (k : ∀ i t, f i = some c → P (.bytes i t)) : P v :=
  yX (P := fun x => Rd F v x → P v) h (fun i h r => Rd.be r fun t => k i t h) r
@[elab_as_elim] theorem lR {f : List V → Option β} (r : Rd F v x) (h : bL x f = some c) (k : ∀ a o xs n l, F a = some o → o.cls = .type "list" → o.data = .seq xs n → RdL F xs.toList l → f l = some c → P (.ref a)) : P v :=
  lX (P := fun x => Rd F v x → P v) h (fun i h r => Rd.le r fun a o xs n e c d rl => k a o xs n i e c d rl h) r
@[elab_as_elim] theorem tR {f : List V → Option β} (r : Rd F v x) (h : bT x f = some c) (k : ∀ a o xs n l, F a = some o → o.cls = .type "tuple" → o.data = .seq xs n → RdL F xs.toList l → f l = some c → P (.ref a)) : P v :=
  tX (P := fun x => Rd F v x → P v) h (fun i h r => Rd.te r fun a o xs n e c d rl => k a o xs n i e c d rl h) r
end
section
variable {β : Type} {c : β} {F : Fz} {P : List Value → Prop}
@[elab_as_elim] theorem r1E {vs : List Value} {xs : List V} {f : V → Option β} (r : RdL F vs xs) (h : b1 xs f = some c) (k : ∀ v x, Rd F v x → f x = some c → P [v]) : P vs := by
  revert r h
  cases xs with
  | nil => exact fun _ h => nS h
  | cons x xs =>
    cases xs with
    | nil => exact fun r h => RdL.conse r fun v _ a r => RdL.nile r (k v x a h)
    | cons y ys => exact fun _ h => nS h
@[elab_as_elim] theorem r2E {vs : List Value} {xs : List V} {f : V → V → Option β} (r : RdL F vs xs) (h : b2 xs f = some c) (k : ∀ v x u y, Rd F v x → Rd F u y → f x y = some c → P [v, u]) : P vs := by
  revert r h
  cases xs with
  | nil => exact fun _ h => nS h
  | cons x xs => exact fun r h => RdL.conse r fun v _ a r => r1E (P := fun vs => P (v :: vs)) r h fun u y b h => k v x u y a b h
@[elab_as_elim] theorem r3E {vs : List Value} {xs : List V} {f : V → V → V → Option β} (r : RdL F vs xs) (h : b3 xs f = some c) (k : ∀ v x u y t z, Rd F v x → Rd F u y → Rd F t z → f x y z = some c → P [v, u, t]) : P vs := by
  revert r h
  cases xs with
  | nil => exact fun _ h => nS h
  | cons x xs => exact fun r h => RdL.conse r fun v _ a r => r2E (P := fun vs => P (v :: vs)) r h fun u y t z b d h => k v x u y t z a b d h
@[elab_as_elim] theorem r0E {vs : List Value} {xs : List V} {f : Option β} (r : RdL F vs xs) (h : bNil xs f = some c) (k : f = some c → P []) : P vs := by
  revert r h
  cases xs with
  | nil => exact fun r h => RdL.nile r (k h)
  | cons x xs => exact fun _ h => nS h
end
section
variable {β : Type} {c : β} {P : Prop}
theorem oBE {α : Type} {x : Option α} {f : α → Option β} (h : oB x f = some c) (k : ∀ a, x = some a → f a = some c → P) : P := by
  cases x with
  | none => exact nS h
  | some a => exact k a rfl h
theorem oE {a b : Option β} (h : oO a b = some c) (k1 : a = some c → P) (k2 : b = some c → P) : P := by
  cases a with
  | none => exact k2 h
  | some a => exact k1 h
theorem iS {p : Prop} [Decidable p] {x : Option β} (h : (if p then x else none) = some c) (k : p → x = some c → P) : P := by
  by_cases hc : p
  · rw [if_pos hc] at h; exact k hc h
  · rw [if_neg hc] at h; exact nS h
theorem iN {p : Prop} [Decidable p] {x : Option β} (h : (if p then none else x) = some c) (k : ¬ p → x = some c → P) : P := by
  by_cases hc : p
  · rw [if_pos hc] at h; exact nS h
  · rw [if_neg hc] at h; exact k hc h
theorem jE {p : Prop} [Decidable p] {x z : Option β} (h : (if p then x else z) = some c) (k1 : p → x = some c → P) (k2 : z = some c → P) : P := by
  by_cases hc : p
  · rw [if_pos hc] at h; exact k1 hc h
  · rw [if_neg hc] at h; exact k2 h
@[elab_as_elim] theorem jS {a b : β} {P : β → Prop} (h : some a = some b) (k : P a) : P b := Option.some.inj h ▸ k
end
noncomputable def addV (a b : V) : Option V :=
  oO (bI a fun a => oO (bI b fun b => some (.int (a + b))) (bF b fun b => if small a then some (.flt (Float64.add (Float64.ofInt a) b)) else none))
  (oO (bF a fun a => bF b fun b => some (.flt (Float64.add a b)))
  (oO (bS a fun a => bS b fun b => if a.length + b.length ≤ 16777216 then some (.str (a ++ b)) else none)
  (bY a fun a => bY b fun b => if a.size + b.size ≤ 16777216 then some (.byt (a ++ b)) else none)))
noncomputable def subV (a b : V) : Option V :=
  oO (bI a fun a => oO (bI b fun b => some (.int (a - b))) (bF b fun b => if small a then some (.flt (Float64.sub (Float64.ofInt a) b)) else none))
  (bF a fun a => bF b fun b => some (.flt (Float64.sub a b)))
noncomputable def mulV (a b : V) : Option V :=
  oO (bI a fun a => oO (bI b fun b => if small a then some (.int (a * b)) else none) (bF b fun b => if small a then some (.flt (Float64.mul (Float64.ofInt a) b)) else none))
  (oO (bF a fun a => bF b fun b => some (.flt (Float64.mul a b)))
  (oO (bS a fun a => bI b fun n => if a.length ≤ 1 ∧ 0 ≤ n ∧ n ≤ 1000000 then some (.str (Txt.mul a n)) else none)
  (bL a fun l => bI b fun n => if l.length ≤ 1000 ∧ 0 ≤ n ∧ n ≤ 1000 then some (.lst (List.replicate n.toNat l).flatten) else none)))
noncomputable def fdvV (a b : V) : Option V := bI a fun a => bI b fun b => if b = 0 then none else if b.natAbs < 1073741824 then some (.int (a.fdiv b)) else none
noncomputable def modV (a b : V) : Option V :=
  oO (bI a fun a => bI b fun b => if b = 0 then none else some (.int (a.fmod b)))
  (bF a fun a => bF b fun b => if Float64.isZero b then none else some (.flt (Float64.divmod a b).snd))
noncomputable def powV (a b : V) : Option V := bI a fun a => bI b fun n => if 0 ≤ n ∧ n ≤ 1000000 ∧ a.natAbs < 2 ^ 64 then some (.int (a ^ n.toNat)) else none
noncomputable def divV (a b : V) : Option V :=
  oO (bI a fun a => bI b fun b => if b = 0 then none else if Float64.isInf (Float64.ofFrac (decide (a < 0) != decide (b < 0)) a.natAbs b.natAbs) then none else some (.flt (Float64.ofFrac (decide (a < 0) != decide (b < 0)) a.natAbs b.natAbs)))
  (bF a fun a => bF b fun b => if Float64.isZero b then none else some (.flt (Float64.div a b)))
noncomputable def binV (op : Operator) (a b : V) : Option V := match op with
  | .Add => addV a b
  | .Sub => subV a b
  | .Mult => mulV a b
  | .FloorDiv => fdvV a b
  | .Mod => modV a b
  | .Pow => powV a b
  | .Div => divV a b
  | _ => none

theorem small_of {a : Int} (h : small a = true) : -(2 ^ 64 : Int) < a ∧ a < (2 ^ 64 : Int) := by
  unfold small at h
  rw [Bool.and_eq_true, decide_eq_true_eq, decide_eq_true_eq] at h
  exact h
theorem small_fits {a : Int} (h : small a = true) : a.natAbs < 2 ^ 1023 := by
  have := small_of h
  have e : (2 : Nat) ^ 64 ≤ 2 ^ 1023 := Nat.pow_le_pow_right (by decide) (by decide)
  omega

section
variable {g : Gl} {defs : List Fd} {d : Nat}

noncomputable def binT (op : Operator) : List Value → Sem Value := fun vs => match vs with | [x, y] => binaryOp op x y | _ => unsupported ""
noncomputable def unT (op : UnaryOp) : List Value → Sem Value := fun vs => match vs with | [x] => unaryOp op x | _ => unsupported ""
noncomputable def cmpT (op : CmpOp) : List Value → Sem Value := fun vs => match vs with | [x, y] => compareOp op x y | _ => unsupported ""

/-- two operands, told apart -/
theorem tr2 {op : Operator} {a b c : V} (h : ∀ (A : Around) (E : Value → Shared → Prop) (F : Fz) (s : Shared) (x y : Value), Room d A → Bs g defs F s → Rd F x a → Rd F y b →
    wpAny (model g.prog g.w) A (binaryOp op x y) (Res0 F s c) E s) : Tr g defs d [a, b] (binT op) c := fun A E F s vs rm bs r => by
  refine RdL.conse r fun _ _ r1 r => ?_
  · refine RdL.conse r fun _ _ r2 r => ?_
    · (first | refine Rd.ie r fun _ => ?_ | refine Rd.se r fun _ => ?_ | refine Rd.fe r fun _ _ => ?_ | refine Rd.be r fun _ => ?_ | refine Rd.ne r ?_ | refine RdL.nile r ?_ | cases r)
      exact up (h A E F s _ _ rm bs r1 r2)

theorem resT {F : Fz} {s : Shared} {h' : Shared} {x : V} {v : Value} {t : Tok} (bs : Bs g defs F s) (e : h' = { s with toks := t }) (r : Rd F v x) : Res0 F s x v h' := fun ht => by
  subst e
  exact ⟨F, Mv.toks bs.sub ht, r⟩

theorem list_mul {A : Around} {E : Value → Shared → Prop} {s : Shared} {l : Addr} {vs : List Value} {x : Int} {u : Tok} {Q : Value → Shared → Prop}
    (hl : s.heap.IsList l vs.toArray) (hlo : -(2 ^ 63 : Int) ≤ x) (hhi : x < 2 ^ 63) (hsz : vs.length * x.toNat ≤ 2 ^ 24)
    (h : Q (.ref s.heap.objs.size) { s with heap := s.heap.push { cls := .type "list", data := .seq (List.replicate x.toNat vs).flatten.toArray } }) : wpAny (model g.prog g.w) A (binaryOp .Mult (.ref l) (.int x u)) Q E s := by
  (refine xEAA (id hl) fun qq0 ho hcl qr0 => xE qr0 fun k hd => ?_; obtain (⟨(cls), (d), (data), (sl)⟩) := qq0)
  simp only at hcl hd
  subst hcl hd
  have hsz' : vs.toArray.size * x.toNat ≤ 2 ^ 24 := by simpa using hsz
  refine wpAny_binaryOp_repeat_ref (T := "list") (U := "int") (by decide) ⟨_, ho, rfl⟩ (fun s' => typeIs_int s' x u) noFill_list_mul F.fills_int_mul F.slot_int_rmul repeat_list F.slot_int_index.lookup
    (call_meets F.slot_int_rmul (typeIs_int s x u) F.entry_int_rmul (F.args_int_rmul_2 _ _) (lm_int_rmul_list_any x u l vs.toArray k d sl)
      ⟨ho, rfl, ⟨_, ho, rfl⟩, call_meets F.slot_list_mul ⟨_, ho, rfl⟩ F.entry_list_mul (F.args_list_mul_2 _ _)
        (lm_list_mul_any l vs.toArray k d sl x u (by simp [Builtin.List.listFitsIndex]; omega) (by omega) (by simp [Builtin.List.listTooLong, sizeLine]; omega))
        ⟨ho, ?_⟩⟩)
  rw [listMul_foldl_if]
  exact h

theorem RdL.flat {F : Fz} {vs : List Value} {l : List V} (h : RdL F vs l) : ∀ n : Nat, RdL F (List.replicate n vs).flatten (List.replicate n l).flatten
  | 0 => .nil
  | n + 1 => by
    rw [List.replicate_succ, List.replicate_succ, List.flatten_cons, List.flatten_cons]
    exact h.append (RdL.flat h n)

/-- a list made and frozen -/
theorem res_list {F : Fz} {s : Shared} {vs : List Value} {l : List V} (bs : Bs g defs F s) (h : RdL F vs l) {n : Nat} : Res0 F s (.lst l) (.ref s.heap.objs.size) { s with heap := s.heap.push { cls := .type "list", data := .seq vs.toArray n } } := fun _ => by
  have m := Mv.push bs.sub (o := { cls := .type "list", data := .seq vs.toArray n }) rfl (Nat.le_refl s.toks)
  exact ⟨_, m, .lst (put_self _ _ _) rfl rfl (by simpa using h.mono m.up)⟩
theorem res_tup {F : Fz} {s : Shared} {vs : List Value} {l : List V} (bs : Bs g defs F s) (h : RdL F vs l) {n : Nat} : Res0 F s (.tup l) (.ref s.heap.objs.size) { s with heap := s.heap.push { cls := .type "tuple", data := .seq vs.toArray n } } := fun _ => by
  have m := Mv.push bs.sub (o := { cls := .type "tuple", data := .seq vs.toArray n }) rfl (Nat.le_refl s.toks)
  exact ⟨_, m, .tup (put_self _ _ _) rfl rfl (by simpa using h.mono m.up)⟩

theorem Tr.add {a b c : V} (h : addV a b = some c) : Tr g defs d [a, b] (binT .Add) c :=
  tr2 fun A E F s x y rm bs r1 r2 => oE h
    (fun h => iR r1 h fun i t h => oE h (fun h => iR r2 h fun j u h => jS h (PyProof.Rows.add_int (resT bs rfl .int)))
      fun h => fltR r2 h fun j u _ h => iS h fun hs h => jS h (add_if_fits (small_fits hs) (resT bs rfl (.flt bs.tk))))
    fun h => oE h (fun h => fltR r1 h fun i t _ h => fltR r2 h fun j u _ h => jS h (add_float (resT bs rfl (.flt bs.tk))))
    fun h => oE h (fun h => sR r1 h fun i t h => sR r2 h fun j u h => iS h fun hs h => jS h (PyProof.Rows.add_str (fun t' tk => resT bs rfl .str) (by rw [sizeLine]; exact hs)))
    fun h => yR r1 h fun i t h => yR r2 h fun j u h => iS h fun hs h => jS h (KBy.add_bytes hs (fun t' tk => resT bs rfl .byt))
theorem Tr.sub {a b c : V} (h : subV a b = some c) : Tr g defs d [a, b] (binT .Sub) c :=
  tr2 fun A E F s x y rm bs r1 r2 => oE h
    (fun h => iR r1 h fun i t h => oE h (fun h => iR r2 h fun j u h => jS h (PyProof.Rows.sub_int (resT bs rfl .int)))
      fun h => fltR r2 h fun j u _ h => iS h fun hs h => jS h (sub_if_fits (small_fits hs) (resT bs rfl (.flt bs.tk))))
    fun h => fltR r1 h fun i t _ h => fltR r2 h fun j u _ h => jS h (sub_float (resT bs rfl (.flt bs.tk)))
theorem le_big {n m : Int} (h : n ≤ m) (h' : m ≤ 1000000) : n < 2 ^ 63 := by omega
theorem ge_big {n : Int} (h : 0 ≤ n) : -(2 ^ 63 : Int) ≤ n := by omega
theorem Tr.mul {a b c : V} (h : mulV a b = some c) : Tr g defs d [a, b] (binT .Mult) c :=
  tr2 fun A E F s x y rm bs r1 r2 => oE h
    (fun h => iR r1 h fun i t h => oE h (fun h => iR r2 h fun j u h => iS h fun hs h => jS h (PyProof.Rows.mul_int (resT bs rfl .int) (IntMulOk.of_left (intBits_le_64 (small_of hs).1 (small_of hs).2))))
      fun h => fltR r2 h fun j u _ h => iS h fun hs h => jS h (mul_if_fits (small_fits hs) (resT bs rfl (.flt bs.tk))))
    fun h => oE h (fun h => fltR r1 h fun i t _ h => fltR r2 h fun j u _ h => jS h (mul_float (resT bs rfl (.flt bs.tk))))
    fun h => oE h (fun h => sR r1 h fun i t h => iR r2 h fun j u h => iS h fun hs h => jS h (SB.mul (mulOk_of 1 1000000 hs.1 (by have := hs.2.2; omega) (by have := hs.2.1; omega) (by decide) (by decide)) (fun t' tk => resT bs rfl .str)))
    fun h => lR r1 h fun a o xs n l e c dd r h => iR r2 h fun j u h => iS h fun hs h => jS h
      (list_mul (vs := xs.toList) ⟨o, bs.sub _ _ e, c, n, by simpa using dd⟩ (ge_big hs.2.1) (le_big hs.2.2 (by decide)) (Nat.le_trans (Nat.mul_le_mul (r.length ▸ hs.1) (Int.toNat_le.mpr hs.2.2)) (by decide)) (res_list bs (r.flat _)))
theorem Tr.fdv {a b c : V} (h : fdvV a b = some c) : Tr g defs d [a, b] (binT .FloorDiv) c :=
  tr2 fun A E F s x y rm bs r1 r2 => iR r1 h fun i t h => iR r2 h fun j u h => iN h fun hb h => iS h fun hs h => jS h
    (AutoIntOps.floordiv_1 (by simpa using hb) (by rw [PyProof.noPylong_small hs]; exact Bool.false_ne_true) (show Res0 F s _ _ _ from resT bs rfl .int))
theorem Tr.mod {a b c : V} (h : modV a b = some c) : Tr g defs d [a, b] (binT .Mod) c :=
  tr2 fun A E F s x y rm bs r1 r2 => oE h
    (fun h => iR r1 h fun i t h => iR r2 h fun j u h => iN h fun hb h => jS h (PyProof.Rows.mod_int hb (resT bs rfl .int)))
    fun h => fltR r1 h fun i t _ h => fltR r2 h fun j u _ h => iN h fun hb h => jS h (AutoFloatOps.mod_1 hb (show Res0 F s _ _ _ from resT bs rfl (.flt bs.tk)))
theorem Tr.pow {a b c : V} (h : powV a b = some c) : Tr g defs d [a, b] (binT .Pow) c :=
  tr2 fun A E F s x y rm bs r1 r2 => iR r1 h fun i t h => iR r2 h fun j u h => iS h fun hs h => jS h (pow_int_small hs.1 hs.2.1 hs.2.2 (resT bs rfl .int))
theorem Tr.div {a b c : V} (h : divV a b = some c) : Tr g defs d [a, b] (binT .Div) c :=
  tr2 fun A E F s x y rm bs r1 r2 => oE h
    (fun h => iR r1 h fun i t h => iR r2 h fun j u h => iN h fun hb h => iN h fun hi h => jS h (AutoIntOps.truediv_2 (by simpa using hb) (by simpa using hi) (show Res0 F s _ _ _ from resT bs rfl (.flt bs.tk))))
    fun h => fltR r1 h fun i t _ h => fltR r2 h fun j u _ h => iN h fun hb h => jS h (AutoFloatOps.truediv_1 hb (show Res0 F s _ _ _ from resT bs rfl (.flt bs.tk)))
theorem Tr.bin {op : Operator} {a b c : V} (h : binV op a b = some c) : Tr g defs d [a, b] (binT op) c := by
  cases op with
  | Add => exact Tr.add h
  | Sub => exact Tr.sub h
  | Mult => exact Tr.mul h
  | FloorDiv => exact Tr.fdv h
  | Mod => exact Tr.mod h
  | Pow => exact Tr.pow h
  | Div => exact Tr.div h
  | _ => exact nS h
end
end Mine

namespace Mine
open PySem PyProof.Rows PySem.W PySem.SeqAt

noncomputable def allV (f : V → V → Option Bool) : List V → List V → Option Bool
  | [], _ => some true
  | _ :: _, [] => some true
  | x :: xs, y :: ys => oB (f x y) fun b => oB (allV f xs ys) fun c => some (b && c)
/-- equality as the run tells it, to a depth -/
noncomputable def veq : Nat → V → V → Option Bool
  | 0, _, _ => none
  | n + 1, x, y =>
    oO (bI x fun a => bI y fun b => some (a == b))
    (oO (bS x fun a => bS y fun b => some (a == b))
    (oO (bF x fun a => oO (bF y fun b => if a = b ∧ Float64.cmp a a = some .eq then some true else none) (bI y fun b => some (Float64.cmpInt a b == some .eq)))
    (oO (bT x fun a => bT y fun b => oB (allV (veq n) a b) fun r => some (r && a.length == b.length))
    (bL x fun a => bL y fun b => if a.length = b.length then allV (veq n) a b else some false))))

theorem eqBool_of {prog : Program} {w : World} {A : Around} {E : Value → Shared → Prop} {s : Shared} {a b : Value} {k : Bool} {Q : Bool → Shared → Prop} (hne : (a == b) = false)
    (hf : ∀ x t y u, a = .float x t → b = .float y u → False) (h : ∀ R : Value → Shared → Prop, R (.bool k) s → wpAny (model prog w) A (richCompare .Eq a b) R E s) (hq : Q k s) : wpAny (model prog w) A (eqBool a b) Q E s := by
  unfold eqBool
  refine wpAny_holding ?_
  refine wpAny_ite_split (fun hab => absurd hab (by rw [hne]; exact Bool.false_ne_true)) (fun _ => ?_)
  have key : wpAny (model prog w) A (richCompare .Eq a b >>= fun r => truthOfDropped r) Q E s := wpAny_bind (h _ (wpAny_truthy_bool hq))
  cases a <;> first | exact key | (cases b <;> first | exact key | exact absurd (hf _ _ _ _ rfl rfl) id)

theorem isSame_flt {prog : Program} {w : World} {A : Around} {E : Value → Shared → Prop} {s : Shared} {x : UInt64} {t u : Tok} {Q : Bool → Shared → Prop} (ht : t ≠ 0) (hu : u ≠ 0) (hb : NoneBooked s.heap) (hq : ∀ b, Q b s) :
    wpAny (model prog w) A (isSame (.float x t) (.float x u)) Q E s := by
  show wpAny _ A (isSame.created (x == x && !Float64.isNaN x) t u) Q E s
  unfold isSame.created
  refine wpAny_ite ?_
  split
  · rename_i h; simp [ht, hu] at h
  refine wpAny_ite ?_
  split
  · exact wpAny_pure (hq _)
  refine wpAny_ite ?_
  split
  · exact wpAny_pure (hq _)
  refine wpAny_bind (wpAny_sharingNotTold_none hb ?_)
  first | rw [if_neg Bool.false_ne_true] | simp only [Bool.false_eq_true, if_false]
  refine wpAny_bind (wpAny_sharingNotTold_none hb ?_)
  first | rw [if_neg Bool.false_ne_true] | simp only [Bool.false_eq_true, if_false]
  exact wpAny_bind (wpAny_rule (wpAny_bind (wpAny_askSetting (wpAny_pure (hq _)))))

theorem eqAt_flt {A : Around} {s : Shared} {x : UInt64} {t u : Tok} (ht : t ≠ 0) (hu : u ≠ 0) (hb : NoneBooked s.heap) (hc : Float64.cmp x x = some .eq) : EqAt A s (.float x t) (.float x u) true := fun prog w E Q hq => by
  unfold eqBool
  refine wpAny_holding ?_
  refine wpAny_ite_split (fun _ => wpAny_bind (wpAny_rule (wpAny_pure hq))) (fun _ => ?_)
  refine wpAny_bind (isSame_flt ht hu hb fun b => ?_)
  cases b with
  | true => exact wpAny_pure hq
  | false => exact wpAny_bind (AutoFloatOps.eq_0 (wpAny_truthy_bool (by rw [hc]; exact hq)))

theorem range_all_cons (n : Nat) (e : Nat → Bool) : (List.range (n + 1)).all e = (e 0 && (List.range n).all fun i => e (i + 1)) := by
  rw [List.range_succ_eq_map, List.all_cons, List.all_map]; rfl

/-- the items' equalities, told by place -/
theorem allV_spec {F : Fz} {P : Value → Value → Bool → Prop} {f : V → V → Option Bool} (hf : ∀ x y v u b, Rd F v x → Rd F u y → f x y = some b → P v u b) (xs : List V) :
    ∀ (ys : List V) (vs us : List Value) (r : Bool), RdL F vs xs → RdL F us ys → allV f xs ys = some r →
      ∃ e : Nat → Bool, (∀ j (h1 : j < vs.length) (h2 : j < us.length), P vs[j] us[j] (e j)) ∧ (List.range (min vs.length us.length)).all e = r := by
  induction xs with
  | nil =>
    intro ys vs us r h1 h2 h
    refine RdL.nile h1 ?_
    have h : some true = some r := h
    exact ⟨fun _ => true, fun j h1 => absurd h1 (Nat.not_lt_zero _), by rw [← Option.some.inj h]; simp⟩
  | cons x xs ih =>
    intro ys vs us r h1 h2 h
    cases ys with
    | nil =>
      refine RdL.nile h2 ?_
      have h : some true = some r := h
      exact ⟨fun _ => true, fun j _ h2 => absurd h2 (Nat.not_lt_zero _), by rw [← Option.some.inj h]; simp⟩
    | cons y ys =>
      refine RdL.conse h1 fun v vs a as => ?_
      refine RdL.conse h2 fun u us b bs => ?_
      refine oBE (show (oB (f x y) fun b => oB (allV f xs ys) fun c => some (b && c)) = some r from h) fun k h1 h => oBE h fun c h2 h => xEA (ih ys vs us c as bs h2) fun e he hr => ?_
      refine ⟨fun i => Nat.casesOn i k fun i => e i, fun j j1 j2 => ?_, ?_⟩
      · cases j with
        | zero => exact hf _ _ _ _ _ a b h1
        | succ j => exact he j (Nat.lt_of_succ_lt_succ j1) (Nat.lt_of_succ_lt_succ j2)
      · rw [List.length_cons, List.length_cons, Nat.succ_min_succ, range_all_cons, ← Option.some.inj h, ← hr]
        rfl

theorem Rd.int2 {F : Fz} {v : Value} {a b : Int} (h : Rd F v (.int a)) (h' : Rd F v (.int b)) : a = b := by cases h; cases h'; rfl
theorem Rd.str2 {F : Fz} {v : Value} {a b : Str} (h : Rd F v (.str a)) (h' : Rd F v (.str b)) : a = b := by cases h; cases h'; rfl
theorem Rd.fltint {F : Fz} {v : Value} {a : UInt64} {b : Int} (h : Rd F v (.flt a)) (h' : Rd F v (.int b)) : False := by cases h; cases h'
theorem Rd.tup2 {F : Fz} {v : Value} {a b : List V} (h : Rd F v (.tup a)) (h' : Rd F v (.tup b)) : ∃ xs : List Value, RdL F xs a ∧ RdL F xs b := by
  revert h'
  refine Rd.te h fun x o xs n e c d rl h' => ?_
  cases h' with
  | tup e' c' d' rl' =>
    rw [e] at e'; (injection e' with e'; subst e')
    rw [d] at d'; (injection d' with d'z0 d'z1; subst d'z0; subst d'z1)
    exact ⟨_, rl, rl'⟩
theorem Rd.lst2 {F : Fz} {v : Value} {a b : List V} (h : Rd F v (.lst a)) (h' : Rd F v (.lst b)) : ∃ xs : List Value, RdL F xs a ∧ RdL F xs b := by
  revert h'
  refine Rd.le h fun x o xs n e c d rl h' => ?_
  cases h' with
  | lst e' c' d' rl' =>
    rw [e] at e'; (injection e' with e'; subst e')
    rw [d] at d'; (injection d' with d'z0 d'z1; subst d'z0; subst d'z1)
    exact ⟨_, rl, rl'⟩
theorem veq_key {F : Fz} {n : Nat} (ih : ∀ (x y : V) (v : Value) (b : Bool), Rd F v x → Rd F v y → veq n x y = some b → b = true) {l l' : List V} {xs : List Value} {r : Bool} (h1 : RdL F xs l) (h2 : RdL F xs l') (h : allV (veq n) l l' = some r) : r = true := by
  (refine xEA (allV_spec (P := fun v u b => v = u → b = true) (f := veq n) (fun x y v u b r1 r2 h huv => ih x y v b r1 (by rw [huv]; exact r2) h) _ _ _ _ _ h1 h2 h) fun ee he hall => ?_)
  rw [← hall]
  refine List.all_eq_true.mpr fun j hj => ?_
  have hj' : j < xs.length := by simpa using hj
  exact he j hj' hj' rfl
theorem beqT {α : Type} [BEq α] [ReflBEq α] {a b : α} {r : Bool} (h : some (a == b) = some r) (e : a = b) : r = true := by
  subst e; exact (Option.some.inj h) ▸ beq_self_eq_true a
theorem veq_same {F : Fz} (n : Nat) : ∀ (x y : V) (v : Value) (b : Bool), Rd F v x → Rd F v y → veq n x y = some b → b = true := by
  induction n with
  | zero => intro x y v b _ _ h; exact nS h
  | succ n ih =>
    intro x y v b rv ru h
    revert rv ru
    exact oE h (fun h => iX h fun i h => iX h fun j h rv ru => beqT h (rv.int2 ru))
      fun h => oE h (fun h => sX h fun i h => sX h fun j h rv ru => beqT h (rv.str2 ru))
      fun h => oE h (fun h => fX h fun i h => oE h (fun h => fX h fun j h _ _ => iS h fun _ h => (Option.some.inj h).symm) fun h => iX h fun j h rv ru => (rv.fltint ru).elim)
      fun h => oE h (fun h => tX h fun i h => tX h fun j h rv ru => oBE h fun r hr h => xEA (rv.tup2 ru) fun xs r1 r2 => by
        rw [← Option.some.inj h, veq_key ih r1 r2 hr, ← r1.length, ← r2.length, beq_self_eq_true]; rfl)
      fun h => lX h fun i h => lX h fun j h rv ru => xEA (rv.lst2 ru) fun xs r1 r2 => by
        rw [if_pos (by rw [← r1.length, ← r2.length])] at h
        exact veq_key ih r1 r2 h

section
variable {g : Gl} {defs : List Fd} {F : Fz} {s : Shared} {A : Around}
/-- items of two sequences, compared -/
theorem items_at {xs xs' : Array Value} {l l' : List V} {n : Nat} {r : Bool} (ih : ∀ (x y : V) (v u : Value) (b : Bool), Rd F v x → Rd F u y → veq n x y = some b → EqAt A s v u b) (rl : RdL F xs.toList l) (rl' : RdL F xs'.toList l') (hr : allV (veq n) l l' = some r) :
    ∃ ee : Nat → Bool, (∀ j (j1 : j < xs.size) (j2 : j < xs'.size), EqAt A s xs[j] xs'[j] (ee j)) ∧ (List.range (min xs.size xs'.size)).all ee = r := by
  refine xEA (allV_spec (P := fun v u b => EqAt A s v u b) (f := veq n) ih _ _ _ _ _ rl rl' hr) fun ee he hall => ?_
  refine ⟨ee, fun j j1 j2 => ?_, ?_⟩
  · have q := he j (by simpa using j1) (by simpa using j2)
    rwa [Array.getElem_toList, Array.getElem_toList] at q
  · rw [← hall, Array.length_toList, Array.length_toList]
theorem rd_size {xs : Array Value} {l : List V} (rl : RdL F xs.toList l) : xs.size = l.length := by rw [← rl.length, Array.length_toList]
theorem veq_at (bs : Bs g defs F s) (n : Nat) : ∀ (A : Around) (x y : V) (v u : Value) (b : Bool), A.units + n < cLine → Rd F v x → Rd F u y → veq n x y = some b → EqAt A s v u b := by
  induction n with
  | zero => intro A x y v u b _ _ _ h; exact nS h
  | succ n ih0 =>
    intro A x y v u b hu rv ru h
    have ih : ∀ (x y : V) (v u : Value) (b : Bool), Rd F v x → Rd F u y → veq n x y = some b → EqAt A.in1 s v u b := fun x y v u b => ih0 A.in1 x y v u b (by show A.units + 1 + n < cLine; lia)
    have hu' : A.units < cLine := by lia
    have h0 := h
    exact oE h (fun h => iR rv h fun i t h => iR ru h fun j u h => jS h (EqAt.int_int _ _ _ _))
      fun h => oE h (fun h => sR rv h fun i t h => sR ru h fun j u h => jS h (EqAt.str_str _ _ _ _))
      fun h => oE h (fun h => fltR rv h fun i t ht h => oE h (fun h => fltR ru h fun j u hu h => iS h fun hc h => jS h (hc.1 ▸ eqAt_flt ht hu bs.nb hc.2))
        fun h => iR ru h fun j u h => jS h fun prog w E Q hq => eqBool_of (by rfl) (fun _ _ _ _ _ e => Value.noConfusion e) (fun R hR => eq_fi hR) hq)
      fun h => by
        by_cases huv : v = u
        · subst huv
          rw [veq_same (n + 1) _ _ v b rv ru h0]
          exact EqAt.same _
        clear h0
        revert huv
        exact oE h (fun h => tR rv h fun a o xs k l e c d rl h => tR ru h fun a' o' xs' k' l' e' c' d' rl' h huv => oBE h fun r hr h => jS h (EqAt.of_refs (fun q => huv (by rw [q]))
            (xEA (items_at ih rl rl' hr) fun ee he hall => by
              rw [← rd_size rl, ← rd_size rl', ← hall]
              exact RcAt.tuples (A := A) (s := s) (l := a) (b := a') (items := xs) (items2 := xs') (e := ee) ⟨o, bs.sub _ _ e, c, k, d⟩ ⟨o', bs.sub _ _ e', c', k', d'⟩ hu' he)))
          fun h => lR rv h fun a o xs k l e c d rl h => lR ru h fun a' o' xs' k' l' e' c' d' rl' h huv => EqAt.of_refs (fun q => huv (by rw [q])) (by
            rw [← rd_size rl, ← rd_size rl'] at h
            by_cases hs : xs.size = xs'.size
            · rw [if_pos hs] at h
              refine xEA (items_at ih rl rl' h) fun ee he hall => ?_
              rw [← hs, Nat.min_self] at hall
              rw [← hall]
              exact RcAt.lists (A := A) (s := s) (l := a) (b := a') (items := xs) (items2 := xs') (e := ee) ⟨o, bs.sub _ _ e, c, k, d⟩ ⟨o', bs.sub _ _ e', c', k', d'⟩ hs hu' he
            · rw [if_neg hs] at h
              rw [← Option.some.inj h]
              exact RcAt.lists_lengths ⟨o, bs.sub _ _ e, c, k, d⟩ ⟨o', bs.sub _ _ e', c', k', d'⟩ (bne_iff_ne.mpr hs) hu')
end

noncomputable def isInt : V → Bool
  | .int _ => true
  | _ => false
noncomputable def intIs : V → Int → Bool
  | .int b, a => b == a
  | _, _ => false
noncomputable def intIsV : Value → Int → Bool
  | .int b _, a => b == a
  | _, _ => false
noncomputable def isNone : V → Bool
  | .none => true
  | _ => false
theorem int_r {F : Fz} {v : Value} {x : V} (r : Rd F v x) : isInt x = true → ∃ i t, v = .int i t :=
  Rd.rec (motive_1 := fun v x _ => isInt x = true → ∃ i t, v = .int i t) (motive_2 := fun _ _ _ => True) (fun h => nF h) (fun h => nF h) (fun _ => ⟨_, _, rfl⟩) (fun _ h => nF h) (fun h => nF h) (fun h => nF h)
    (fun _ _ _ _ _ h => nF h) (fun _ _ _ _ _ h => nF h) (fun _ h => nF h) trivial (fun _ _ _ _ => trivial) r
theorem none_r {F : Fz} {v : Value} {x : V} (r : Rd F v x) : (v == Value.none) = isNone x :=
  Rd.rec (motive_1 := fun v x _ => (v == Value.none) = isNone x) (motive_2 := fun _ _ _ => True) rfl rfl rfl (fun _ => rfl) rfl rfl (fun _ _ _ _ _ => rfl) (fun _ _ _ _ _ => rfl) (fun _ => rfl) trivial (fun _ _ _ _ => trivial) r
theorem any_ints {F : Fz} {a : Int} {vs : List Value} {l : List V} (r : RdL F vs l) : l.all isInt = true → (vs.any fun v => intIsV v a) = l.any fun x => intIs x a :=
  r.ind (P := fun vs l => l.all isInt = true → (vs.any fun v => intIsV v a) = l.any fun x => intIs x a) (fun _ => rfl) fun v vs x l r _ ih h => by
    rw [List.all_cons, Bool.and_eq_true] at h
    rw [List.any_cons, List.any_cons, ih h.2]
    cases x <;> first | exact nF h.1 | exact Rd.ie r fun t => rfl

/-- comparisons over plain values -/
noncomputable def ltC (a b : V) : Option Bool := oO (bI a fun a => bI b fun b => some (decide (a < b))) (bF a fun a => bF b fun b => some (Float64.cmp a b == some .lt))
noncomputable def leC (a b : V) : Option Bool := oO (bI a fun a => bI b fun b => some (decide (a ≤ b))) (bF a fun a => bF b fun b => some (Float64.cmp a b == some .lt || Float64.cmp a b == some .eq))
noncomputable def gtC (a b : V) : Option Bool := bI a fun a => bI b fun b => some (decide (b < a))
noncomputable def geC (a b : V) : Option Bool := bI a fun a => bI b fun b => some (decide (b ≤ a))
noncomputable def eqC (a b : V) : Option Bool := oO (bI a fun a => bI b fun b => some (a == b)) (oO (bF a fun a => bF b fun b => some (Float64.cmp a b == some .eq)) (oO (bS a fun a => bS b fun b => some (a == b)) (bT a fun a => bT b fun b => veq 5 (.tup a) (.tup b))))
noncomputable def neC (a b : V) : Option Bool := oO (bI a fun a => bI b fun b => some (a != b)) (oO (bS a fun a => bS b fun b => some (a != b)) (oO (bT a fun a => bT b fun b => oB (veq 5 (.tup a) (.tup b)) fun r => some (!r)) (bL a fun a => bL b fun b => oB (veq 5 (.lst a) (.lst b)) fun r => some (!r))))
noncomputable def isNotC (a b : V) : Option Bool := bN b (some (!isNone a))
noncomputable def notInC (a b : V) : Option Bool := bI a fun a => bL b fun l => if l.all isInt then some (!l.any fun x => intIs x a) else none
noncomputable def cmpV (op : CmpOp) (a b : V) : Option Bool := match op with
  | .Lt => ltC a b
  | .LtE => leC a b
  | .Gt => gtC a b
  | .GtE => geC a b
  | .Eq => eqC a b
  | .NotEq => neC a b
  | .IsNot => isNotC a b
  | .NotIn => notInC a b
  | _ => none

section
variable {g : Gl} {defs : List Fd} {d : Nat}
theorem tr2c {op : CmpOp} {a b c : V} (h : ∀ (A : Around) (E : Value → Shared → Prop) (F : Fz) (s : Shared) (x y : Value), Room d A → Bs g defs F s → Rd F x a → Rd F y b →
    wpAny (model g.prog g.w) A (compareOp op x y) (Res0 F s c) E s) : Tr g defs d [a, b] (cmpT op) c := fun A E F s vs rm bs r =>
  RdL.conse r fun _ _ r1 r => RdL.conse r fun _ _ r2 r => RdL.nile r (up (h A E F s _ _ rm bs r1 r2))
theorem resB {F : Fz} {s : Shared} {b : Bool} (bs : Bs g defs F s) : Res0 F s (.bool b) (.bool b) s := fun _ => ⟨F, Mv.refl bs.sub, .bool⟩

theorem room_units {n d : Nat} {A : Around} (rm : Room d A) (h : n ≤ 100) : A.units + n < cLine := by have := rm.un; have e : cLine = 9900 := rfl; lia

theorem ne_tup {F : Fz} {s : Shared} {A : Around} {E : Value → Shared → Prop} (bs : Bs g defs F s) (hu : A.units + 10 < cLine) {l l' : List V} {xs xs' : Array Value} {a a' : Addr} {o o' : Obj} {k k' : Nat} {b : Bool}
    (e : F a = some o) (c : o.cls = .type "tuple") (d : o.data = .seq xs k) (rl : RdL F xs.toList l) (e' : F a' = some o') (c' : o'.cls = .type "tuple") (d' : o'.data = .seq xs' k') (rl' : RdL F xs'.toList l') (h : veq 5 (.tup l) (.tup l') = some b) :
    wpAny (model g.prog g.w) A (compareOp .NotEq (.ref a) (.ref a')) (Res0 F s (.bool (!b))) E s ∧ wpAny (model g.prog g.w) A (compareOp .Eq (.ref a) (.ref a')) (Res0 F s (.bool b)) E s := by
  have h : oO (oB (allV (veq 4) l l') fun r => some (r && l.length == l'.length)) none = some b := h
  refine oE h (fun h => oBE h fun r hr h => ?_) fun h => nS h
  rw [← Option.some.inj h]
  refine xEA (items_at (fun x y v u b => veq_at bs 4 A.in1 x y v u b (by show A.units + 1 + 4 < cLine; lia)) rl rl' hr) fun ee he hall => ?_
  rw [← rd_size rl, ← rd_size rl', ← hall]
  exact ⟨RcNeAt.tuples (A := A) (s := s) (l := a) (b := a') (items := xs) (items2 := xs') (e := ee) ⟨o, bs.sub _ _ e, c, k, d⟩ ⟨o', bs.sub _ _ e', c', k', d'⟩ (by lia) he g.prog g.w E _ (resB bs),
    RcAt.tuples (A := A) (s := s) (l := a) (b := a') (items := xs) (items2 := xs') (e := ee) ⟨o, bs.sub _ _ e, c, k, d⟩ ⟨o', bs.sub _ _ e', c', k', d'⟩ (by lia) he g.prog g.w E _ (resB bs)⟩
theorem ne_lst {F : Fz} {s : Shared} {A : Around} {E : Value → Shared → Prop} (bs : Bs g defs F s) (hu : A.units + 10 < cLine) {l l' : List V} {xs xs' : Array Value} {a a' : Addr} {o o' : Obj} {k k' : Nat} {b : Bool}
    (e : F a = some o) (c : o.cls = .type "list") (d : o.data = .seq xs k) (rl : RdL F xs.toList l) (e' : F a' = some o') (c' : o'.cls = .type "list") (d' : o'.data = .seq xs' k') (rl' : RdL F xs'.toList l') (h : veq 5 (.lst l) (.lst l') = some b) :
    wpAny (model g.prog g.w) A (compareOp .NotEq (.ref a) (.ref a')) (Res0 F s (.bool (!b))) E s := by
  have h : (if l.length = l'.length then allV (veq 4) l l' else some false) = some b := h
  rw [← rd_size rl, ← rd_size rl'] at h
  by_cases hs : xs.size = xs'.size
  · rw [if_pos hs] at h
    refine xEA (items_at (fun x y v u b => veq_at bs 4 A.in1 x y v u b (by show A.units + 1 + 4 < cLine; lia)) rl rl' h) fun ee he hall => ?_
    rw [← hs, Nat.min_self] at hall
    rw [← hall]
    exact RcNeAt.lists (A := A) (s := s) (l := a) (b := a') (items := xs) (items2 := xs') (e := ee) ⟨o, bs.sub _ _ e, c, k, d⟩ ⟨o', bs.sub _ _ e', c', k', d'⟩ hs (by lia) he g.prog g.w E _ (resB bs)
  · rw [if_neg hs] at h
    rw [← Option.some.inj h]
    exact RcNeAt.lists_lengths (A := A) (s := s) ⟨o, bs.sub _ _ e, c, k, d⟩ ⟨o', bs.sub _ _ e', c', k', d'⟩ (bne_iff_ne.mpr hs) (by lia) g.prog g.w E _ (resB bs)
noncomputable abbrev CmpR (g : Gl) (defs : List Fd) (op : CmpOp) (a b : V) (c : Bool) : Prop := ∀ (A : Around) (E : Value → Shared → Prop) (F : Fz) (s : Shared) (x y : Value), A.units + 10 < cLine → Bs g defs F s → Rd F x a → Rd F y b → wpAny (model g.prog g.w) A (compareOp op x y) (Res0 F s (.bool c)) E s
theorem lt_r {a b : V} {c : Bool} (h : ltC a b = some c) : CmpR g defs .Lt a b c := fun A E F s x y hu bs r1 r2 =>
  oE h (fun h => iR r1 h fun i t h => iR r2 h fun j u h => jS h (PyProof.Rows.lt_int (resB bs))) fun h => fltR r1 h fun i t _ h => fltR r2 h fun j u _ h => jS h (AutoFloatOps.lt_0 (resB bs))
theorem le_r {a b : V} {c : Bool} (h : leC a b = some c) : CmpR g defs .LtE a b c := fun A E F s x y hu bs r1 r2 =>
  oE h (fun h => iR r1 h fun i t h => iR r2 h fun j u h => jS h (PyProof.Rows.le_int (resB bs))) fun h => fltR r1 h fun i t _ h => fltR r2 h fun j u _ h => jS h (AutoFloatOps.le_0 (resB bs))
theorem gt_r {a b : V} {c : Bool} (h : gtC a b = some c) : CmpR g defs .Gt a b c := fun A E F s x y hu bs r1 r2 => iR r1 h fun i t h => iR r2 h fun j u h => jS h (PyProof.Rows.gt_int (resB bs))
theorem ge_r {a b : V} {c : Bool} (h : geC a b = some c) : CmpR g defs .GtE a b c := fun A E F s x y hu bs r1 r2 => iR r1 h fun i t h => iR r2 h fun j u h => jS h (PyProof.Rows.ge_int (resB bs))
theorem eq_r {a b : V} {c : Bool} (h : eqC a b = some c) : CmpR g defs .Eq a b c := fun A E F s x y hu bs r1 r2 =>
  oE h (fun h => iR r1 h fun i t h => iR r2 h fun j u h => jS h (PyProof.Rows.eq_int (resB bs)))
  fun h => oE h (fun h => fltR r1 h fun i t _ h => fltR r2 h fun j u _ h => jS h (AutoFloatOps.eq_0 (resB bs)))
  fun h => oE h (fun h => sR r1 h fun i t h => sR r2 h fun j u h => jS h (PyProof.Rows.eq_str (resB bs)))
  fun h => tR r1 h fun a o xs k l e c d rl h => tR r2 h fun a' o' xs' k' l' e' c' d' rl' h => (ne_tup bs hu e c d rl e' c' d' rl' h).2
theorem ne_r {a b : V} {c : Bool} (h : neC a b = some c) : CmpR g defs .NotEq a b c := fun A E F s x y hu bs r1 r2 =>
  oE h (fun h => iR r1 h fun i t h => iR r2 h fun j u h => jS h (PyProof.Rows.ne_int (resB bs)))
  fun h => oE h (fun h => sR r1 h fun i t h => sR r2 h fun j u h => jS h (PyProof.Rows.ne_str (resB bs)))
  fun h => oE h (fun h => tR r1 h fun a o xs k l e c d rl h => tR r2 h fun a' o' xs' k' l' e' c' d' rl' h => oBE h fun r hr h => jS h (ne_tup bs hu e c d rl e' c' d' rl' hr).1)
  fun h => lR r1 h fun a o xs k l e c d rl h => lR r2 h fun a' o' xs' k' l' e' c' d' rl' h => oBE h fun r hr h => jS h (ne_lst bs hu e c d rl e' c' d' rl' hr)
theorem isnot_r {a b : V} {c : Bool} (h : isNotC a b = some c) : CmpR g defs .IsNot a b c := fun A E F s x y hu bs r1 r2 => by
  revert r2
  refine nX h fun h r2 => Rd.ne r2 (isNot_none ?_)
  rw [none_r r1]
  exact jS h (resB bs)
theorem notin_r {a b : V} {c : Bool} (h : notInC a b = some c) : CmpR g defs .NotIn a b c := fun A E F s x y hu bs r1 r2 =>
  iR r1 h fun i t h => lR r2 h fun a o xs k l e c d rl h => iS h fun hall h => jS h (by
    rw [← any_ints rl hall]
    refine notIn_listAt (fun v => intIsV v _) ⟨o, bs.sub _ _ e, c, k, d⟩ (fun y hy => ?_) (by rw [← Array.any_toList]; exact resB bs)
    refine xE (List.getElem?_of_mem (Array.mem_toList_iff.mpr hy)) fun j hj => xEA (rl.get' hj) fun x hx rx => ?_
    exact xEE (int_r rx (List.all_eq_true.mp hall x (List.mem_of_getElem? hx))) fun i t e => e ▸ EqAt.int_int _ _ _ _)
theorem Tr.cmp {op : CmpOp} {a b : V} {c : Bool} (h : cmpV op a b = some c) : Tr g defs d [a, b] (cmpT op) (.bool c) := by
  refine tr2c fun A E F s x y rm bs r1 r2 => ?_
  have hu := room_units (n := 10) rm (by decide)
  cases op with
  | Lt => exact lt_r h A E F s x y hu bs r1 r2
  | LtE => exact le_r h A E F s x y hu bs r1 r2
  | Gt => exact gt_r h A E F s x y hu bs r1 r2
  | GtE => exact ge_r h A E F s x y hu bs r1 r2
  | Eq => exact eq_r h A E F s x y hu bs r1 r2
  | NotEq => exact ne_r h A E F s x y hu bs r1 r2
  | IsNot => exact isnot_r h A E F s x y hu bs r1 r2
  | NotIn => exact notin_r h A E F s x y hu bs r1 r2
  | _ => exact nS h
end
end Mine

namespace Mine
open PySem PyProof.Rows PySem.W PySem.SeqAt

noncomputable def upd (ρ : Rho) (n : Str) (x : V) : Rho := fun y => if y = n then some x else ρ y

/-- what a name of one's own (a list that still grows) holds -/
inductive OwnV where
  | lst (l : List V)
  | acc (C : Addr) (l : List V)
noncomputable abbrev Omg := Str → Option OwnV
noncomputable def era (ω : Omg) (n : Str) : Omg := fun y => if y = n then none else ω y
noncomputable def ownTo (ω : Omg) (n : Str) (x : OwnV) : Omg := fun y => if y = n then some x else ω y

noncomputable def OwnObj (L : Addr) (G F : Fz) (h : Heap) (a : Addr) : OwnV → Prop
  | .lst l => ∃ xs n, h.get? a = some { cls := .type "list", data := .seq xs n } ∧ RdL F xs.toList l
  | .acc C l => ∃ xs n dx sl, h.get? a = some { cls := .ref C, dict := some dx, data := .seq xs n, slots := sl } ∧ RdL F xs.toList l ∧ dx ≠ L ∧ G dx = none ∧ ∃ m, h.Ns dx m ∧ ∀ x, x ≠ sizeName → m x = none
theorem OwnObj.seq {L : Addr} {G F : Fz} {h : Heap} {a : Addr} {x : OwnV} (w : OwnObj L G F h a x) : ∃ o xs n, h.get? a = some o ∧ o.data = .seq xs n := by
  cases x with
  | lst l => (refine xEEA w ?_; clear w; intro xs n e _); exact ⟨_, xs, n, e, rfl⟩
  | acc C l => (refine xEEEE w ?_; clear w; intro xs n dx sl qr0; refine xA qr0 ?_; clear qr0; intro e _); exact ⟨_, xs, n, e, rfl⟩

noncomputable def Look (env : Env) (h : Heap) (x : Str) (v : Value) : Prop :=
  (env.kindOf x = some .local ∧ ∃ m, h.Ns env.locals m ∧ m x = some v) ∨ (env.kindOf x = some .cell ∧ ∃ c, env.cells.lookup x = some c ∧ h.IsCell c (some v))

/-- where a frame was entered, and what it must keep -/
structure Gd where
  sh : Shared
  G : Fz
structure Mg (F : Fz) (g0 : Gd) (F' : Fz) (s' : Shared) : Prop where
  eq : Same g0.sh s'
  up : Le F F'
  sub : Sub F' s'.heap
  new : ∀ b o, F' b = some o → F b = some o ∨ g0.G b = none
  kp : ∀ b o, g0.G b = some o → s'.heap.get? b = some o
  tk : g0.sh.toks ≤ s'.toks
noncomputable def gd (s : Shared) : Gd := ⟨s, s.heap.get?⟩
theorem Mg.toMv {F F' : Fz} {s s' : Shared} (m : Mg F (gd s) F' s') : Mv F s F' s' := ⟨m.eq, m.up, m.sub, m.new, m.kp, m.tk⟩
theorem Mv.toMg {F F' : Fz} {s s' : Shared} (m : Mv F s F' s') : Mg F (gd s) F' s' := ⟨m.eq, m.up, m.sub, m.new, m.kp, m.tk⟩
theorem Mg.trans {F F' F'' : Fz} {g0 : Gd} {s' s'' : Shared} (a : Mg F g0 F' s') (b : Mv F' s' F'' s'') : Mg F g0 F'' s'' := by
  refine ⟨a.eq.trans b.eq, a.up.trans b.up, b.sub, fun x o e => ?_, fun x o e => b.kp x o (a.kp x o e), Nat.le_trans a.tk b.tk⟩
  · rcases b.new x o e with h | h
    · exact a.new x o h
    · refine .inr ?_
      cases q : g0.G x with
      | none => rfl
      | some o' => rw [a.kp x o' q] at h; injection h

structure OwnOk (F : Fz) (g0 : Gd) (env : Env) (ω : Omg) (h : Heap) (ad : Str → Addr) : Prop where
  look : ∀ x ov, ω x = some ov → Look env h x (.ref (ad x))
  fz : ∀ x ov, ω x = some ov → F (ad x) = none
  new : ∀ x ov, ω x = some ov → g0.G (ad x) = none
  obj : ∀ x ov, ω x = some ov → OwnObj env.locals g0.G F h (ad x) ov
  inj : ∀ x y ov ov', ω x = some ov → ω y = some ov' → ad x = ad y → x = y

/-- a frame's state at a statement: g0 where the frame was entered -/
structure Fs (g : Gl) (defs : List Fd) (g0 : Gd) (Fg : Fz) (env : Env) (ρ : Rho) (ω : Omg) (F : Fz) (s : Shared) : Prop where
  ok : Ok g defs F env ρ s
  mv : Mg Fg g0 F s
  ln : g0.G env.locals = none
  cn : ∀ x c, env.cells.lookup x = some c → g0.G c = none
  inj : ∀ x y c, env.cells.lookup x = some c → env.cells.lookup y = some c → x = y
  own : ∃ ad, OwnOk F g0 env ω s.heap ad

theorem Look.keeps {env : Env} {h h' : Heap} {x : Str} {v : Value} (l : Look env h x v) (k : ∀ b o, h.get? b = some o → h'.get? b = some o) : Look env h' x v := by
  rcases l with ⟨a, m, hm, e⟩ | ⟨a, c, hc, e⟩
  · exact .inl ⟨a, m, hm.keeps k, e⟩
  · exact .inr ⟨a, c, hc, e.keeps k⟩
theorem OwnObj.keeps {L : Addr} {G F F' : Fz} {h h' : Heap} {a : Addr} {x : OwnV} (w : OwnObj L G F h a x) (l : Le F F') (k : ∀ b o, h.get? b = some o → h'.get? b = some o) : OwnObj L G F' h' a x := by
  cases x with
  | lst _ => (refine xEEA w ?_; clear w; intro xs n e r); exact ⟨xs, n, k _ _ e, r.mono l⟩
  | acc C _ => (refine xEEEEAA w ?_; clear w; intro xs n dx sl e r qr1; refine xAA qr1 ?_; clear qr1; intro ne nG qr2; refine xEA qr2 ?_; clear qr2; intro m hm mm); exact ⟨xs, n, dx, sl, k _ _ e, r.mono l, ne, nG, m, hm.keeps k, mm⟩

/-- an expression's step keeps the frame's state -/
theorem Fs.mv' {g : Gl} {defs : List Fd} {g0 : Gd} {Fg : Fz} {env : Env} {ρ : Rho} {ω : Omg} {F : Fz} {s : Shared} {F' : Fz} {s' : Shared} (x : Fs g defs g0 Fg env ρ ω F s) (m : Mv F s F' s') : Fs g defs g0 Fg env ρ ω F' s' where
  ok := x.ok.mv m
  mv := x.mv.trans m
  ln := x.ln
  cn := x.cn
  inj := x.inj
  own := by
    refine xE x.own fun ad w => ?_
    exact ⟨ad, fun y ov e => (w.look y ov e).keeps m.kp, fun y ov e => by
      refine xEEEA ((w.obj y ov e).seq) fun o _ _ ho _ => ?_
      exact m.new_none ho (w.fz y ov e), w.new, fun y ov e => (w.obj y ov e).keeps m.up m.kp, w.inj⟩

theorem SameBut.keepsBut {a : Addr} {h h' : Heap} (hs : Heap.SameBut a h h') {b : Addr} {o : Obj} (hb : b ≠ a) (e : h.get? b = some o) : h'.get? b = some o := (hs.2 b hb).trans e

theorem OwnObj.same {L : Addr} {G F : Fz} {h h' : Heap} {a b : Addr} {x : OwnV} (w : OwnObj L G F h a x) (hs : Heap.SameBut b h h') (hab : a ≠ b)
    (hd : b = L ∨ ∃ o, h.get? b = some o ∧ ∀ es ep, o.data ≠ .dict es ep) : OwnObj L G F h' a x := by
  cases x with
  | lst l => (refine xEEA w ?_; clear w; intro xs n e r); exact ⟨xs, n, SameBut.keepsBut hs hab e, r⟩
  | acc C l =>
    (refine xEEEEAA w ?_; clear w; intro xs n dx sl e r qr3; refine xAA qr3 ?_; clear qr3; intro ne nG qr4; refine xEA qr4 ?_; clear qr4; intro m hm mm)
    refine ⟨xs, n, dx, sl, SameBut.keepsBut hs hab e, r, ne, nG, m, hm.sameBut hs ?_, mm⟩
    rcases hd with rfl | ⟨o, ho, hd⟩
    · exact ne
    · rintro rfl
      (refine xEEEAA hm ?_; clear hm; intro o' es ep ho' hd' _)
      rw [ho] at ho'; (injection ho' with ho'; subst ho')
      exact hd _ _ hd'

section
variable {g : Gl} {defs : List Fd} {g0 : Gd} {Fg : Fz} {env : Env} {ρ : Rho} {ω : Omg} {F : Fz} {s : Shared}

theorem Look.same {h h' : Heap} {x : Str} {v : Value} {b : Addr} (l : Look env h x v) (hs : Heap.SameBut b h h') (h1 : b ≠ env.locals) (h2 : ∀ c, env.cells.lookup x = some c → env.kindOf x = some .cell → c ≠ b) : Look env h' x v := by
  rcases l with ⟨a, m, hm, e⟩ | ⟨a, c, hc, e⟩
  · exact .inl ⟨a, m, hm.sameBut hs (Ne.symm h1), e⟩
  · exact .inr ⟨a, c, hc, e.sameBut hs (h2 c hc a)⟩

theorem not_dict_of_seq {o : Obj} {xs : Array Value} {n : Nat} (h : o.data = .seq xs n) : ∀ es ep, o.data ≠ .dict es ep := fun es ep e => by rw [h] at e; injection e
theorem not_dict_of_cell {o : Obj} {v : Option Value} (h : o.data = .cell v) : ∀ es ep, o.data ≠ .dict es ep := fun es ep e => by rw [h] at e; injection e

/-- a change at one address that is not frozen, not the frame, not a cell -/
theorem Fs.change {a : Addr} {h' : Heap} {t : Nat} {o : Obj} (x : Fs g defs g0 Fg env ρ ω F s) (ho : s.heap.get? a = some o) (hd : ∃ xs n, o.data = .seq xs n) (hF : F a = none) (hn : g0.G a = none)
    (hs : Heap.SameBut a s.heap h') (ht : s.toks ≤ t) {ω' : Omg} (hw : ∃ ad, OwnOk F g0 env ω' h' ad) : Fs g defs g0 Fg env ρ ω' F { s with heap := h', toks := t } := by
  (refine xEE hd ?_; clear hd; intro xs n hd)
  have hL : a ≠ env.locals := by
    rintro rfl
    (refine xEA x.ok.loc fun m qq0 _ => ?_; refine xEEEAA qq0 ?_; clear qq0; intro o' es ep ho' hd' _)
    rw [ho] at ho'; (injection ho' with ho'; subst ho')
    rw [hd] at hd'; injection hd'
  have hc : ∀ c v, s.heap.IsCell c v → c ≠ a := by
    intro c v hh e0; subst e0; refine xEA hh ?_; clear hh; intro o' ho' hd'
    rw [ho] at ho'; (injection ho' with ho'; subst ho')
    rw [hd] at hd'; injection hd'
  have hsub : Sub F h' := fun b o' e => SameBut.keepsBut hs (by rintro rfl; rw [hF] at e; injection e) (x.ok.sub b o' e)
  refine ⟨⟨⟨x.ok.pg, hsub, by have := x.ok.tk; show t ≠ 0; lia⟩, x.ok.kind, x.ok.gl, x.ok.bi, ?_, ?_, x.ok.fl, ?_⟩, ?_, x.ln, x.cn, x.inj, hw⟩
  · refine xEA x.ok.loc fun m hm hv => ?_
    exact ⟨m, hm.sameBut hs (Ne.symm hL), hv⟩
  · intro y V e k
    refine xEEAA (x.ok.cel y V e k) fun c v h1 h2 h3 => ?_
    exact ⟨c, v, h1, h2.sameBut hs (hc c _ h2), h3⟩
  · intro y c e
    refine xAE (x.ok.fc y c e) fun h1 v h2 => ?_
    exact ⟨h1, v, h2.sameBut hs (hc c _ h2)⟩
  · exact ⟨x.mv.eq, x.mv.up, hsub, x.mv.new, fun b o' e => SameBut.keepsBut hs (by rintro rfl; rw [hn] at e; injection e) (x.mv.kp b o' e), Nat.le_trans x.mv.tk ht⟩

noncomputable def updO (ρ : Rho) (n : Str) (x : Option V) : Rho := fun y => if y = n then x else ρ y
/-- a name stored, whether its value is told or not -/
theorem Fs.storeG {n : Str} {v : Value} {y : Option V} {A : Around} {E : Value → Shared → Prop} (x : Fs g defs g0 Fg env ρ ω F s) (hk : env.kindOf n = some .local ∨ (env.kindOf n = some .cell ∧ (env.cells.lookup n).isSome = true)) (hr : ∀ Y, y = some Y → Rd F v Y) :
    wpAny (model g.prog g.w) A (storeName env n v) (fun _ s' => Fs g defs g0 Fg env (updO ρ n y) (era ω n) F s' ∧ Look env s'.heap n v) E s := by
  refine xE x.own fun ad W => ?_
  have toks : ∀ {Q : Unit → Shared → Prop}, wpAny (model g.prog g.w) A (storeName env n v) (fun u s' => s.toks ≤ s'.toks → Q u s') E s → wpAny (model g.prog g.w) A (storeName env n v) Q E s := fun h =>
    wpAny_mono (wpAny_toks_of (Nat.le_refl _) h) (fun _ _ h => h.2 h.1) fun _ _ h => h.2
  refine toks ?_
  rcases hk with hk | ⟨hk, hc⟩
  · refine xEA x.ok.loc fun m hm hv => ?_
    refine wpAny_storeName_local hk hm (fun h' hn' hs' ht => ?_) (by rw [x.ok.kind]; rfl)
    have hcl : ∀ c u, s.heap.IsCell c u → c ≠ env.locals := by
      intro c u hh e0; subst e0; refine xEA hh ?_; clear hh; intro o ho hd
      (refine xEEEAA hm ?_; clear hm; intro o' es ep ho' hd' _)
      rw [ho] at ho'; (injection ho' with ho'; subst ho')
      rw [hd] at hd'; injection hd'
    have hsub : Sub F h' := fun b o e => SameBut.keepsBut hs' (by rintro rfl; rw [x.ok.fl] at e; injection e) (x.ok.sub b o e)
    refine ⟨⟨⟨⟨x.ok.pg, hsub, by have := x.ok.tk; show s.toks + 1 ≠ 0; lia⟩, x.ok.kind, x.ok.gl, x.ok.bi, ⟨_, hn', fun z Z hz kz => ?_⟩, fun z Z hz kz => ?_, x.ok.fl, fun z c e => ?_⟩, ?_, x.ln, x.cn, x.inj, ad, ?_⟩, .inl ⟨hk, _, hn', by simp⟩⟩
    · simp only [updO] at hz
      by_cases hzn : z = n
      · rw [if_pos hzn] at hz
        exact ⟨v, by simp [hzn], hr Z hz⟩
      · rw [if_neg hzn] at hz
        refine xEA (hv z Z hz kz) fun u e r => ?_
        exact ⟨u, by simp [hzn, e], r⟩
    · have hzn : z ≠ n := by rintro rfl; rw [hk] at kz; rcases kz with e | e <;> (injection e with e; injection e)
      simp only [updO, if_neg hzn] at hz
      refine xEEAA (x.ok.cel z Z hz kz) fun c u h1 h2 h3 => ?_
      exact ⟨c, u, h1, h2.sameBut hs' (hcl c _ h2), h3⟩
    · refine xAE (x.ok.fc z c e) fun h1 u h2 => ?_
      exact ⟨h1, u, h2.sameBut hs' (hcl c _ h2)⟩
    · refine ⟨x.mv.eq, x.mv.up, hsub, x.mv.new, fun b o e => SameBut.keepsBut hs' (by rintro rfl; rw [x.ln] at e; injection e) (x.mv.kp b o e), Nat.le_trans x.mv.tk ht⟩
    · have hne : ∀ z ov, ω z = some ov → ad z ≠ env.locals := fun z ov e q => by
        refine xEEEA ((W.obj z ov e).seq) fun o xs k ho hd => ?_
        rw [q] at ho
        (refine xEEEAA hm ?_; clear hm; intro o' es ep ho' hd' _)
        rw [ho] at ho'; (injection ho' with ho'; subst ho')
        rw [hd] at hd'; injection hd'
      have er : ∀ z ov, era ω n z = some ov → z ≠ n ∧ ω z = some ov := fun z ov e => by
        simp only [era] at e
        by_cases hzn : z = n
        · rw [if_pos hzn] at e; injection e
        · rw [if_neg hzn] at e; exact ⟨hzn, e⟩
      refine ⟨fun z ov e => ?_, fun z ov e => W.fz z ov (er z ov e).2, fun z ov e => W.new z ov (er z ov e).2, fun z ov e => (W.obj z ov (er z ov e).2).same hs' (hne z ov (er z ov e).2) (.inl rfl), fun z z' ov ov' e e' => W.inj z z' ov ov' (er z ov e).2 (er z' ov' e').2⟩
      refine xA (er z ov e) fun hzn e => ?_
      rcases W.look z ov e with ⟨a, m', hm', em⟩ | ⟨a, c, hc, e'⟩
      · refine .inl ⟨a, _, hn', ?_⟩
        have : m' = m := by
          (refine xEEEAAA hm' ?_; clear hm'; intro o1 es1 ep1 g1 d1 _ f1)
          (refine xEEEAAA hm ?_; clear hm; intro o2 es2 ep2 g2 d2 _ f2)
          rw [g1] at g2; (injection g2 with g2; subst g2)
          rw [d1] at d2; (injection d2 with d2z0 d2z1; subst d2z0; subst d2z1)
          funext q; rw [← f1, ← f2]
        simp [hzn, ← this, em]
      · exact .inr ⟨a, c, hc, e'.sameBut hs' (hcl c _ e')⟩
  · refine xE (Option.isSome_iff_exists.mp hc) fun c hc => ?_
    refine xAE (x.ok.fc n c hc) fun hFc v₀ hv₀ => ?_
    refine wpAny_storeName_cell x.ok.kind hk hc hv₀ (fun h' hv' hs' ht => ?_)
    have hcL : c ≠ env.locals := by
      rintro rfl
      (refine xEA hv₀ ?_; clear hv₀; intro o ho hd)
      (refine xEA x.ok.loc fun m qq1 _ => ?_; refine xEEEAA qq1 ?_; clear qq1; intro o' es ep ho' hd' _)
      rw [ho] at ho'; (injection ho' with ho'; subst ho')
      rw [hd] at hd'; injection hd'
    have hsub : Sub F h' := fun b o e => SameBut.keepsBut hs' (by rintro rfl; rw [hFc] at e; injection e) (x.ok.sub b o e)
    have hcc : ∀ z c', env.cells.lookup z = some c' → z ≠ n → c' ≠ c := fun z c' e hz q => hz (x.inj z n c (q ▸ e) hc)
    refine ⟨⟨⟨⟨x.ok.pg, hsub, by have := x.ok.tk; show s.toks ≠ 0; lia⟩, x.ok.kind, x.ok.gl, x.ok.bi, ?_, fun z Z hz kz => ?_, x.ok.fl, fun z c' e => ?_⟩, ?_, x.ln, x.cn, x.inj, ad, ?_⟩, .inr ⟨hk, c, hc, hv'⟩⟩
    · refine xEA x.ok.loc fun m hm hv => ?_
      refine ⟨m, hm.sameBut hs' (Ne.symm hcL), fun z Z hz kz => ?_⟩
      have hzn : z ≠ n := by rintro rfl; rw [hk] at kz; (injection kz with kz; injection kz)
      simp only [updO, if_neg hzn] at hz
      exact hv z Z hz kz
    · by_cases hzn : z = n
      · subst hzn
        simp only [updO, if_pos] at hz
        exact ⟨c, v, hc, hv', hr Z hz⟩
      · simp only [updO, if_neg hzn] at hz
        refine xEEAA (x.ok.cel z Z hz kz) fun c' u h1 h2 h3 => ?_
        exact ⟨c', u, h1, h2.sameBut hs' (hcc z c' h1 hzn), h3⟩
    · by_cases hzn : z = n
      · subst hzn
        rw [hc] at e; (injection e with e; subst e)
        exact ⟨hFc, _, hv'⟩
      · refine xAE (x.ok.fc z c' e) fun h1 u h2 => ?_
        exact ⟨h1, u, h2.sameBut hs' (hcc z c' e hzn)⟩
    · refine ⟨x.mv.eq, x.mv.up, hsub, x.mv.new, fun b o e => SameBut.keepsBut hs' (by rintro rfl; rw [x.cn n b hc] at e; injection e) (x.mv.kp b o e), Nat.le_trans x.mv.tk ht⟩
    · have hne : ∀ z ov, ω z = some ov → ad z ≠ c := fun z ov e q => by
        refine xEEEA ((W.obj z ov e).seq) fun o xs k ho hd => ?_
        rw [q] at ho
        (refine xEA hv₀ ?_; clear hv₀; intro o' ho' hd')
        rw [ho] at ho'; (injection ho' with ho'; subst ho')
        rw [hd] at hd'; injection hd'
      have er : ∀ z ov, era ω n z = some ov → z ≠ n ∧ ω z = some ov := fun z ov e => by
        simp only [era] at e
        by_cases hzn : z = n
        · rw [if_pos hzn] at e; injection e
        · rw [if_neg hzn] at e; exact ⟨hzn, e⟩
      (refine xEA hv₀ ?_; clear hv₀; intro oc hoc hdc)
      refine ⟨fun z ov e => ?_, fun z ov e => W.fz z ov (er z ov e).2, fun z ov e => W.new z ov (er z ov e).2, fun z ov e => (W.obj z ov (er z ov e).2).same hs' (hne z ov (er z ov e).2) (.inr ⟨oc, hoc, not_dict_of_cell hdc⟩), fun z z' ov ov' e e' => W.inj z z' ov ov' (er z ov e).2 (er z' ov' e').2⟩
      refine xA (er z ov e) fun hzn e => ?_
      exact (W.look z ov e).same hs' hcL fun c' hc' _ => hcc z c' hc' hzn

/-- a name stored -/
theorem Fs.store {n : Str} {v : Value} {y : V} {A : Around} {E : Value → Shared → Prop} (x : Fs g defs g0 Fg env ρ ω F s) (hk : env.kindOf n = some .local ∨ (env.kindOf n = some .cell ∧ (env.cells.lookup n).isSome = true)) (hr : Rd F v y) :
    wpAny (model g.prog g.w) A (storeName env n v) (fun _ s' => Fs g defs g0 Fg env (upd ρ n y) (era ω n) F s') E s :=
  wpAny_mono (x.storeG (y := some y) hk fun Y e => by (injection e with e; subst e); exact hr) (fun _ _ h => h.1) fun _ _ h => h

/-- what a statement comes to -/
inductive Out where
  | nx (ρ : Rho) (ω : Omg)
  | rt (x : V)
noncomputable def OutOk (g : Gl) (defs : List Fd) (g0 : Gd) (Fg : Fz) (env : Env) : Out → Flow → Shared → Prop
  | .nx ρ ω, fl, s' => fl = .next ∧ ∃ F', Fs g defs g0 Fg env ρ ω F' s'
  | .rt x, fl, s' => ∃ v F', fl = .ret v ∧ Mg Fg g0 F' s' ∧ Rd F' v x
noncomputable def Ex (g : Gl) (defs : List Fd) (d : Nat) (env : Env) (ρ : Rho) (ω : Omg) (st : Stmt) (o : Out) : Prop :=
  ∀ (A : Around) (E : Value → Shared → Prop) (g0 : Gd) (Fg F : Fz) (s : Shared), Room d A → Fs g defs g0 Fg env ρ ω F s → wpAny (model g.prog g.w) A (exec st env) (OutOk g defs g0 Fg env o) E s
noncomputable def Exs (g : Gl) (defs : List Fd) (d : Nat) (env : Env) (ρ : Rho) (ω : Omg) (sts : List Stmt) (o : Out) : Prop :=
  ∀ (A : Around) (E : Value → Shared → Prop) (g0 : Gd) (Fg F : Fz) (s : Shared), Room d A → Fs g defs g0 Fg env ρ ω F s → wpAny (model g.prog g.w) A (execs sts env) (OutOk g defs g0 Fg env o) E s
end

section
variable {g : Gl} {defs : List Fd} {d : Nat} {env : Env} {ρ ρ' : Rho} {ω ω' : Omg}

theorem Exs.nil : Exs g defs d env ρ ω [] (.nx ρ ω) := fun A E g0 Fg F s rm x => wpAny_execs_nil ⟨rfl, F, x⟩
theorem Exs.cons {st : Stmt} {rest : List Stmt} {o : Out} (h : Ex g defs d env ρ ω st (.nx ρ' ω')) (hr : Exs g defs d env ρ' ω' rest o) : Exs g defs d env ρ ω (st :: rest) o := fun A E g0 Fg F s rm x =>
  wpAny_execs_cons (wpAny_mono (h A E g0 Fg F s rm x) (fun fl s' hx => by (refine xAE hx ?_; clear hx; intro qq2 F' x'; subst qq2); exact hr A E g0 Fg F' s' rm x') fun _ _ h => h)
theorem Exs.ret {st : Stmt} {rest : List Stmt} {x : V} (h : Ex g defs d env ρ ω st (.rt x)) : Exs g defs d env ρ ω (st :: rest) (.rt x) := fun A E g0 Fg F s rm y =>
  wpAny_execs_cons (wpAny_mono (h A E g0 Fg F s rm y) (fun fl s' hx => by (refine xEEAA hx ?_; clear hx; intro v F' qq3 m r; subst qq3); exact ⟨v, F', rfl, m, r⟩) fun _ _ h => h)
theorem Ex.ret {e : Expr} {pos : Pos} {x : V} (h : Ev g defs d env ρ e x) : Ex g defs d env ρ ω (.Return (some e) pos) (.rt x) := fun A E g0 Fg F s rm y =>
  wpAny_Return_some (wpAny_mono (h A E F s rm y.ok) (fun v s' hx => by (refine xEA hx ?_; clear hx; intro F' m r); exact ⟨v, F', rfl, y.mv.trans m, r⟩) fun _ _ h => h)
theorem Ex.assign {n : Str} {e : Expr} {p pos : Pos} {x : V} (h : Ev g defs d env ρ e x) (hk : env.kindOf n = some .local ∨ (env.kindOf n = some .cell ∧ (env.cells.lookup n).isSome = true))
    (hs : swapsWith e (some (.Name n p)) pos.line env = pure false) : Ex g defs d env ρ ω (.Assign [.Name n p] e pos) (.nx (upd ρ n x) (era ω n)) := fun A E g0 Fg F s rm y =>
  wpAny_Assign_Name (wpAny_mono (h A E F s rm y.ok) (fun v s' hx => by
    (refine xEA hx ?_; clear hx; intro F' m r)
    exact wpAny_mono ((y.mv' m).store hk r) (fun _ s'' h => ⟨rfl, F', h⟩) fun _ _ h => h) fun _ _ h => h) hs
theorem Ex.ite {t : Expr} {b o : List Stmt} {pos : Pos} {c : Bool} {out : Out} (h : Is g defs d env ρ t c) (hb : c = true → Exs g defs d env ρ ω b out) (ho : c = false → Exs g defs d env ρ ω o out) : Ex g defs d env ρ ω (.If t b o pos) out := fun A E g0 Fg F s rm y =>
  wpAny_If (wpAny_mono (h A E F s rm y.ok) (fun v s' hx => by
    (refine xAE hx ?_; clear hx; intro qq4 F' m; subst qq4)
    cases v with
    | true => exact hb rfl A E g0 Fg F' s' rm (y.mv' m)
    | false => exact ho rfl A E g0 Fg F' s' rm (y.mv' m)) fun _ _ h => h)
end
end Mine

namespace Mine
open PySem PyProof.Rows PySem.W PySem.SeqAt

section
variable {g : Gl} {defs : List Fd} {d : Nat} {env : Env} {ρ : Rho} {ω : Omg}

noncomputable def isStar : Expr → Bool
  | .Starred _ _ => true
  | _ => false
theorem starEach_cons {e : Expr} {rest : List Expr} (h : isStar e = false) : starEach (e :: rest) env = (false, eval e env) :: starEach rest env := by
  cases e <;> first | rfl | cases h
theorem plain_each : ∀ (es : List Expr) (pos : Pos), es.any isStar = false → (backTo pos (starEach es env)).any (·.1) = false
  | [], _, _ => rfl
  | e :: r, pos, h => by
    rw [List.any_cons, Bool.or_eq_false_iff] at h
    rw [starEach_cons h.1]
    show (false || (backTo pos (starEach r env)).any (·.1)) = false
    rw [plain_each r pos h.2]; rfl

/-- several expressions, in their order -/
noncomputable def ResL (F : Fz) (s : Shared) (xs : List V) (vs : List Value) (s' : Shared) : Prop := ∃ F', Mv F s F' s' ∧ RdL F' vs xs
inductive EvL (g : Gl) (defs : List Fd) (d : Nat) (env : Env) (ρ : Rho) : List Expr → List V → Prop
  | nil : EvL g defs d env ρ [] []
  | cons {e : Expr} {es : List Expr} {x : V} {xs : List V} : isStar e = false → Ev g defs d env ρ e x → EvL g defs d env ρ es xs → EvL g defs d env ρ (e :: es) (x :: xs)
theorem EvL.stars {es : List Expr} {xs : List V} (h : EvL g defs d env ρ es xs) : es.any isStar = false :=
  EvL.rec (motive := fun es _ _ => es.any isStar = false) rfl (fun h _ _ ih => by rw [List.any_cons, h, ih]; rfl) h
theorem EvL.run {es : List Expr} {xs : List V} (h : EvL g defs d env ρ es xs) : ∀ (pos : Pos) (A : Around) (E : Value → Shared → Prop) (F : Fz) (s : Shared), Room d A → Ok g defs F env ρ s → wpAny (model g.prog g.w) A (spliced (backTo pos (starEach es env))) (ResL F s xs) E s :=
  EvL.rec (motive := fun es xs _ => ∀ (pos : Pos) (A : Around) (E : Value → Shared → Prop) (F : Fz) (s : Shared), Room d A → Ok g defs F env ρ s → wpAny (model g.prog g.w) A (spliced (backTo pos (starEach es env))) (ResL F s xs) E s)
    (fun pos A E F s rm ok => wpAny_items_nil ⟨F, Mv.refl ok.sub, .nil⟩)
    (fun he h _ ih pos A E F s rm ok => wpAny_items_cons (wpAny_mono (h A E F s rm ok) (fun v s₁ h₁ => xEA h₁ fun F₁ m₁ r₁ =>
      wpAny_mono (ih pos A E F₁ s₁ rm (ok.mv m₁)) (fun vs s₂ h₂ => xEA h₂ fun F₂ m₂ r₂ => ⟨F₂, m₁.trans m₂, .cons (r₁.mono m₂.up) r₂⟩) fun _ _ h => h) fun _ _ h => h) (starEach_cons he)) h

theorem Ev.tup {es : List Expr} {xs : List V} {k : Nat} {pos : Pos} (h : EvL g defs d env ρ es xs) (hl : xs.length ≤ 1000) : Ev g defs d env ρ (.Tuple es k pos) (.tup xs) := fun A E F s rm ok => by
  refine wpAny_Tuple (wpAny_mono (h.run pos A E F s rm ok) (fun vs s₁ h₁ => ?_) fun _ _ h => h)
  (refine xEA h₁ ?_; clear h₁; intro F₁ m₁ r₁)
  refine ⟨by rw [r₁.length, sizeLine]; lia, ?_⟩
  refine xEA (res_tup (ok.mv m₁).toBs r₁ (n := 0) (Nat.le_refl _)) fun F₂ m₂ r₂ => ?_
  exact ⟨F₂, m₁.trans m₂, r₂⟩
theorem Ev.lst {es : List Expr} {xs : List V} {pos : Pos} (h : EvL g defs d env ρ es xs) (hl : xs.length ≤ 1000) : Ev g defs d env ρ (.List es pos) (.lst xs) := fun A E F s rm ok => by
  refine wpAny_List (wpAny_mono (h.run pos A E F s rm ok) (fun vs s₁ h₁ => ?_) fun _ _ h => h)
  (refine xEA h₁ ?_; clear h₁; intro F₁ m₁ r₁)
  refine ⟨by rw [r₁.length, sizeLine]; lia, ?_⟩
  refine xEA (res_list (ok.mv m₁).toBs r₁ (n := 0) (Nat.le_refl _)) fun F₂ m₂ r₂ => ?_
  exact ⟨F₂, m₁.trans m₂, r₂⟩

/-- arguments handed to a callee -/
theorem evalArgs_all {f : Value} {es : List Expr} {xs : List V} {pos : Pos} {A : Around} {E : Value → Shared → Prop} {F : Fz} {s : Shared} {Q : Args → Shared → Prop} (h : EvL g defs d env ρ es xs) (rm : Room d A) (ok : Ok g defs F env ρ s)
    (hQ : ∀ vs s' F', Mv F s F' s' → RdL F' vs xs → Q ⟨vs, []⟩ s') : wpAny (model g.prog g.w) A (evalArgs f true (backTo pos (starEach es env)) []) Q E s := by
  cases h with
  | nil => exact evalArgs_nil3 (hQ [] s F (Mv.refl ok.sub) .nil)
  | @cons e r x xs he h hs =>
    have e1 : backTo pos (starEach (e :: r) env) = (false, eval e env) :: backTo pos (starEach r env) := by rw [starEach_cons he]; rfl
    have := (EvL.cons he h hs).run pos A E F s rm ok
    rw [e1] at this ⊢
    exact Calls.evalArgs_plain (wpAny_mono this (fun vs s' h' => by (refine xEA h' ?_; clear h'; intro F' m r); exact hQ vs s' F' m r) fun _ _ h => h)

/-- a callee that is no object: a built-in function or a type -/
theorem callWith_flat {f : Value} (hf : ∀ a, f ≠ .ref a) {pos : Pos} {es : List Expr} {xs : List V} {A : Around} {E : Value → Shared → Prop} {F : Fz} {s : Shared} {Q : Value → Shared → Prop} (h : EvL g defs d env ρ es xs) (rm : Room d A) (ok : Ok g defs F env ρ s)
    (hQ : ∀ vs s' F', Mv F s F' s' → RdL F' vs xs → wpAny (model g.prog g.w) A (call f vs) Q E s') : wpAny (model g.prog g.w) A (callWith pos f [] (backTo pos (starEach es env)) []) Q E s := by
  unfold callWith
  refine wpAny_bind (wpAny_holding (evalArgs_all h rm ok fun vs s₁ F₁ m r => wpAny_bind (wpAny_standAt ?_)))
  simp only [plain_each es pos h.stars, List.any_nil, Bool.or_false]
  have hk : keeperOf f = pure .machine := by
    cases f <;> first | rfl | exact absurd rfl (hf _)
  rw [hk]
  refine wpAny_bind (wpAny_pure ?_)
  exact wpAny_bind (wpAny_mono (hQ vs s₁ F₁ m r) (fun r s₂ hr => wpAny_bind (wpAny_holding (wpAny_point (wpAny_pure hr)))) fun _ _ x => x)

/-- a built-in by its name -/
theorem Ev.bcall {n : Str} {p pos : Pos} {es : List Expr} {xs : List V} {x : V} {f : Value} (h : EvL g defs d env ρ es xs) (hg : g.mg n = Option.none) (hv : bootBuiltins n = some f) (hn : n ≠ "__name__") (hk : env.kindOf n = some .globalImplicit)
    (hd : (n == ("__debug__" : Str)) = false) (hf : ∀ a, f ≠ .ref a) (t : Tr g defs d xs (fun vs => call f vs) x) : Ev g defs d env ρ (.Call (.Name n p) es [] pos) x := fun A E F s rm ok => by
  refine Call_Name rfl (ev_builtin ok hg hv ?_ hn hk hd)
  exact callWith_flat hf h rm ok fun vs s' F' m r => res_mono m (t A E F' s' vs rm (ok.mv m).toBs r)

/-- a def of the text, called -/
noncomputable def Cl (g : Gl) (defs : List Fd) (d : Nat) (f : Str) (args : List V) (x : V) : Prop :=
  ∀ (A : Around) (E : Value → Shared → Prop) (F : Fz) (s : Shared) (vs : List Value) (a : Addr), Room d A → Bs g defs F s → RdL F vs args → g.mg f = some (.ref a) → wpAny (model g.prog g.w) A (call (.ref a) vs) (Res F s x) E s

theorem Ev.call {fd : Fd} {p pos : Pos} {es : List Expr} {xs : List V} {x : V} (hm : fd ∈ defs) (h : EvL g defs d env ρ es xs) (hk : env.kindOf fd.name = some .globalImplicit)
    (hd : (fd.name == ("__debug__" : Str)) = false) (c : Cl g defs d fd.name xs x) : Ev g defs d env ρ (.Call (.Name fd.name p) es [] pos) x := fun A E F s rm ok => by
  refine xEEEEE (ok.pg.fn fd hm) fun a o pm code doc qr0 => xAAA qr0 fun h1 h2 h3 h4 => ?_
  refine Call_Name rfl (ev_global ok h1 ?_ hk hd)
  cases h with
  | nil =>
    show wpAny _ A (callWith pos (.ref a) [] [] []) _ _ _
    exact Calls.callWith_function (o := o) (evalArgs_nil3 ⟨⟨ok.sub _ _ h2, h3⟩, c A E F s [] a rm ok.toBs .nil h1⟩)
  | @cons e r x xs he h hs =>
    have hh := EvL.cons he h hs
    refine Calls.callWith_function (o := o) (evalArgs_all hh rm ok fun vs s' F' m r => ⟨⟨(ok.mv m).sub _ _ (m.up _ _ h2), h3⟩, res_mono m (c A E F' s' vs a rm (ok.mv m).toBs r h1)⟩)

noncomputable def rho (names : List Str) (args : List V) : Rho := fun y => (names.zip args).lookup y
noncomputable def omg0 : Omg := fun _ => none

theorem bindL_notin (kf : Str → Option NameKind) : ∀ (ns : List Str) (vs : List Value) (m : Str → Option Value) (x : Str), x ∉ ns → bindL kf (ns.zip vs) m x = m x
  | [], _, _, _, _ => rfl
  | n :: ns, [], _, _, _ => rfl
  | n :: ns, v :: vs, m, x, h => by
    rw [List.mem_cons, not_or] at h
    show bindL kf (ns.zip vs) _ x = m x
    rw [bindL_notin kf ns vs _ x h.2]
    split
    · exact if_neg h.1
    · rfl
theorem bindC_notin (kf : Str → Option NameKind) : ∀ (ns : List Str) (vs : List Value) (m : Str → Option Value) (x : Str), x ∉ ns → bindC kf (ns.zip vs) m x = m x
  | [], _, _, _, _ => rfl
  | n :: ns, [], _, _, _ => rfl
  | n :: ns, v :: vs, m, x, h => by
    rw [List.mem_cons, not_or] at h
    show bindC kf (ns.zip vs) _ x = m x
    rw [bindC_notin kf ns vs _ x h.2]
    split
    · rfl
    · exact if_neg h.1
theorem bindL_rd {F : Fz} (kf : Str → Option NameKind) : ∀ (ns : List Str) (vs : List Value) (args : List V) (m : Str → Option Value) (x : Str) (X : V), ns.Nodup → RdL F vs args → (ns.zip args).lookup x = some X → kf x = some .local → ∃ v, bindL kf (ns.zip vs) m x = some v ∧ Rd F v X
  | [], _, _, _, _, _, _, _, h, _ => by cases h
  | n :: ns, _, _, _, _, _, _, .nil, h, _ => by cases h
  | n :: ns, v :: vs, y :: args, m, x, X, nd, .cons r rs, h, k => by
    rw [List.nodup_cons] at nd
    rw [List.zip_cons_cons, List.lookup_cons] at h
    show ∃ u, bindL kf (ns.zip vs) _ x = some u ∧ Rd F u X
    cases hb : x == n with
    | true =>
      rw [hb] at h
      have e := beq_iff_eq.mp hb
      subst e
      (injection h with h; subst h)
      rw [bindL_notin kf ns vs _ x nd.1, if_pos k]
      exact ⟨v, by simp, r⟩
    | false =>
      rw [hb] at h
      exact bindL_rd kf ns vs args _ x X nd.2 rs h k
theorem bindC_rd {F : Fz} (kf : Str → Option NameKind) : ∀ (ns : List Str) (vs : List Value) (args : List V) (m : Str → Option Value) (x : Str) (X : V), ns.Nodup → RdL F vs args → (ns.zip args).lookup x = some X → kf x ≠ some .local → ∃ v, bindC kf (ns.zip vs) m x = some v ∧ Rd F v X
  | [], _, _, _, _, _, _, _, h, _ => by cases h
  | n :: ns, _, _, _, _, _, _, .nil, h, _ => by cases h
  | n :: ns, v :: vs, y :: args, m, x, X, nd, .cons r rs, h, k => by
    rw [List.nodup_cons] at nd
    rw [List.zip_cons_cons, List.lookup_cons] at h
    show ∃ u, bindC kf (ns.zip vs) _ x = some u ∧ Rd F u X
    cases hb : x == n with
    | true =>
      rw [hb] at h
      have e := beq_iff_eq.mp hb
      subst e
      (injection h with h; subst h)
      rw [bindC_notin kf ns vs _ x nd.1, if_neg k]
      exact ⟨v, by simp, r⟩
    | false =>
      rw [hb] at h
      exact bindC_rd kf ns vs args _ x X nd.2 rs h k
theorem lookup_zip_mem : ∀ (ns : List Str) (args : List V) (x : Str) (X : V), (ns.zip args).lookup x = some X → x ∈ ns
  | [], _, _, _, h => by cases h
  | n :: ns, [], _, _, h => by cases h
  | n :: ns, y :: args, x, X, h => by
    rw [List.zip_cons_cons, List.lookup_cons] at h
    cases hb : x == n with
    | true => rw [beq_iff_eq.mp hb]; exact List.mem_cons_self
    | false => rw [hb] at h; exact List.mem_cons_of_mem _ (lookup_zip_mem ns args x X h)

theorem fz_fresh {F : Fz} {s : Shared} (h : Sub F s.heap) {a : Addr} (ha : s.heap.objs.size ≤ a) : F a = none := by
  cases q : F a with
  | none => rfl
  | some o => exact absurd (Heap.lt_size (h _ _ q)) (Nat.not_lt.mpr ha)

/-- a call by its body -/
theorem Cl.of_body {fd : Fd} {names : List Str} {args : List V} {x : V} (hm : fd ∈ defs) (hnd : names.Nodup) (hlen : names.length = args.length)
    (hbind : ∀ (vs : List Value) pm code doc, vs.length = names.length → bindArgs (Calls.docDef fd.name fd.params fd.body fd.scope pm code doc) ⟨vs, []⟩ = pure (names.zip vs))
    (hkind : ∀ L, ∀ y ∈ names, fd.scope.names.lookup y = some .local ∨ (fd.scope.names.lookup y = some .cell ∧ ((cellsFrom L fd.scope.names []).lookup y).isSome = true))
    (hbody : ∀ pm code doc L a, Exs g defs d (callEnvC (Calls.docDef fd.name fd.params fd.body fd.scope pm code doc) L a) (rho names args) omg0 fd.body (.rt x))
    (hco : fd.scope.isCoroutine = false) (hgen : fd.scope.isGenerator = false) (hk : fd.scope.kind = .function) : Cl g defs (d + 1) fd.name args x := fun A E F s vs a rm bs r ha => by
  refine xEEEEE (bs.pg.fn fd hm) fun a' o pm code doc qr1 => xAAA qr1 fun h1 h2 h3 h4 => ?_
  rw [h1] at ha
  cases ha
  have hvl : vs.length = names.length := by rw [r.length, hlen]
  have hkz : ∀ y ∈ names.zip vs, fd.scope.names.lookup y.1 = some .local ∨ (fd.scope.names.lookup y.1 = some .cell ∧ ((cellsFrom (s.heap.objs.size + 1) fd.scope.names []).lookup y.1).isSome = true) := fun y hy => hkind _ _ (List.of_mem_zip hy).1
  refine wpAny_call (codeAny_call_function (by have := rm.dp; show A.depth < 1000; lia) (bs.sub _ _ h2) h3 hco hgen rfl (h4.rec_ bs.sub) ?_)
  rw [hbind vs pm code doc hvl]
  refine wpAny_pure ?_
  have key := wpAny_newFunctionEnv_cells (M := model g.prog g.w) (A := A.in1) (E := fun e s' => E e s') (s := s) (scope := fd.scope) (globals := mainGlobals) (binds := names.zip vs) (qual := fd.name ++ ".<locals>.") (func := some a) (code := code) (builtins := builtinsNs)
    (Q := fun env s' => env = callEnvC (Calls.docDef fd.name fd.params fd.body fd.scope pm code doc) s.heap.objs.size a ∧ InCallC s env.locals (bindL env.kindOf (names.zip vs) fun _ => none) env.cells (bindC env.kindOf (names.zip vs) fun _ => none) s') hk hkz (fun env he s' x => ⟨he, x⟩)
  refine wpAny_mono (wpAny_toks_of (Nat.le_refl _) key) (fun env s₁ hx => ?_) fun _ _ h => h.2
  (refine xAA hx ?_; clear hx; intro htk qq0 ic; subst qq0)
  refine ⟨bs.lim.keeps ic.toInCall.keep, codeAny_func ?_⟩
  have hsub : Sub F s₁.heap := fun b o e => ic.toInCall.keep _ _ (bs.sub b o e)
  have hL : F s.heap.objs.size = none := fz_fresh bs.sub (Nat.le_refl _)
  have none_at : ∀ c, s.heap.objs.size ≤ c → s.heap.get? c = none := fun c hc => by
    cases q : s.heap.get? c with
    | none => rfl
    | some o => exact absurd (Heap.lt_size q) (Nat.not_lt.mpr hc)
  have hcell : ∀ y c, (callEnvC (Calls.docDef fd.name fd.params fd.body fd.scope pm code doc) s.heap.objs.size a).cells.lookup y = some c → s.heap.objs.size ≤ c := fun y c e => Nat.le_of_lt (ic.above y c (mem_of_lookup e))
  have hmv : Mv F s F s₁ := ⟨Same.of ic.toInCall.same, Le.rfl, hsub, fun _ _ e => .inl e, ic.toInCall.keep, htk⟩
  have ok : Ok g defs F (callEnvC (Calls.docDef fd.name fd.params fd.body fd.scope pm code doc) s.heap.objs.size a) (rho names args) s₁ := by
    refine ⟨⟨bs.pg, hsub, by have := bs.tk; lia⟩, hk, rfl, rfl, ⟨_, ic.toInCall.ns, fun y Y e k => bindL_rd _ names vs args _ y Y hnd r e k⟩, fun y Y e k => ?_, hL, fun y c e => ⟨fz_fresh bs.sub (hcell y c e), _, ic.cell y c e⟩⟩
    have hy := lookup_zip_mem names args y Y e
    rcases hkind (s.heap.objs.size + 1) y hy with q | ⟨q, q'⟩
    · have : (callEnvC (Calls.docDef fd.name fd.params fd.body fd.scope pm code doc) s.heap.objs.size a).kindOf y = some .local := q
      rw [this] at k; rcases k with k | k <;> (injection k with k; injection k)
    · refine xE (Option.isSome_iff_exists.mp q') fun c hc => ?_
      have hkf : (callEnvC (Calls.docDef fd.name fd.params fd.body fd.scope pm code doc) s.heap.objs.size a).kindOf y ≠ some .local := by
        show fd.scope.names.lookup y ≠ _
        rw [q]; decide
      refine xEA (bindC_rd _ names vs args (fun _ => none) y Y hnd r e hkf) fun v e1 e2 => ?_
      exact ⟨c, v, hc, e1 ▸ ic.cell y c hc, e2⟩
  have fs : Fs g defs (gd s) F (callEnvC (Calls.docDef fd.name fd.params fd.body fd.scope pm code doc) s.heap.objs.size a) (rho names args) omg0 F s₁ := by
    refine ⟨ok, hmv.toMg, none_at _ (Nat.le_refl _), fun y c e => none_at _ (hcell y c e), fun y z c e e' => name_of_addr ic.apart (mem_of_lookup e) (mem_of_lookup e'), fun _ => 0, ?_⟩
    exact ⟨fun _ _ e => (nS e), fun _ _ e => (nS e), fun _ _ e => (nS e), fun _ _ e => (nS e), fun _ _ _ _ e => (nS e)⟩
  refine wpAny_mono (hbody pm code doc s.heap.objs.size a (A.deeper _) _ (gd s) F F s₁ rm.deeper fs) (fun fl s' hx => ?_) fun _ _ h => h
  (refine xEEAA hx ?_; clear hx; intro v F' qq1 m rr; subst qq1)
  exact ⟨F', m.toMv, rr⟩
end
end Mine

namespace Mine
open PySem PyProof.Rows PySem.W PySem.SeqAt

noncomputable def eName (e : Expr) : Option Str := match e with
  | .Name n _ => some n
  | _ => none
noncomputable def eTup (e : Expr) : Option (List Expr) := match e with
  | .Tuple es _ _ => some es
  | _ => none
theorem eName_some {e : Expr} {n : Str} (h : eName e = some n) : ∃ p, e = .Name n p := by
  cases e <;> first | exact nS h | exact ⟨_, congrArg (Expr.Name · _) (Option.some.inj h)⟩
theorem eTup_some {e : Expr} {es : List Expr} (h : eTup e = some es) : ∃ k p, e = .Tuple es k p := by
  cases e <;> first | exact nS h | exact ⟨_, _, congrArg (Expr.Tuple · _ _) (Option.some.inj h)⟩
/-- what a target takes -/
noncomputable def bindEs : List Expr → List V → Rho → Option Rho
  | [], l, ρ => (match l with | [] => some ρ | _ :: _ => none)
  | e :: es, l, ρ => (match l with
    | [] => none
    | x :: l => oB (eName e) fun n => bindEs es l (upd ρ n x))
noncomputable def bindT (t : Expr) (x : V) (ρ : Rho) : Option Rho := oO (oB (eName t) fun n => some (upd ρ n x)) (oB (eTup t) fun es => oO (bT x fun l => bindEs es l ρ) (bL x fun l => bindEs es l ρ))
noncomputable def tgtNames (t : Expr) : List Str := match eName t with
  | some n => [n]
  | none => (match eTup t with
    | some es => es.filterMap eName
    | none => [])

section
variable {g : Gl} {A : Around} {env : Env} {F : Fz}

theorem assignEach_name (n : Str) (p : Pos) (es : List Expr) : assignEach (.Name n p :: es) env = (false, assign (.Name n p) env) :: assignEach es env := by
  first | rfl | simp only [assignEach]

theorem bindEs_cons {e : Expr} {es : List Expr} {l : List V} {ρ ρ' : Rho} (h : bindEs (e :: es) l ρ = some ρ') : ∃ n p x l', e = .Name n p ∧ l = x :: l' ∧ bindEs es l' (upd ρ n x) = some ρ' := by
  cases l with
  | nil => exact nS h
  | cons x l => exact oBE (show (oB (eName e) fun n => bindEs es l (upd ρ n x)) = some ρ' from h) fun n hn h => xE (eName_some hn) fun p e => ⟨n, p, x, l, e, rfl, h⟩
theorem bindEs_each {es : List Expr} : ∀ {l : List V} {ρ ρ' : Rho}, bindEs es l ρ = some ρ' → (assignEach es env).length = l.length ∧ (assignEach es env).findIdx? (·.1) = none := by
  induction es with
  | nil =>
    intro l ρ ρ' h
    cases l with
    | nil => exact ⟨by first | rfl | simp [assignEach], by first | rfl | simp [assignEach]⟩
    | cons _ _ => exact nS h
  | cons e es ih =>
    intro l ρ ρ' h
    (refine xEEEEAA (bindEs_cons h) fun n p x l' qq1 qq2 h => ?_; subst qq1; subst qq2)
    refine xA (ih h) fun h1 h2 => ?_
    rw [assignEach_name]
    exact ⟨by simp [h1], by simp [List.findIdx?_cons, h2]⟩

variable {I : Rho → Shared → Prop} {okn : Str → Prop}
  (hst : ∀ (n : Str) (v : Value) (y : V) (ρ : Rho) (s : Shared) (E : Value → Shared → Prop), okn n → I ρ s → Rd F v y → wpAny (model g.prog g.w) A (storeName env n v) (fun _ s' => I (upd ρ n y) s') E s)
  (hkp : ∀ (ρ : Rho) (s : Shared) (h' : Heap), I ρ s → (∀ b o, s.heap.get? b = some o → h'.get? b = some o) → I ρ { s with heap := h' })
  (hsub : ∀ (ρ : Rho) (s : Shared), I ρ s → Sub F s.heap)

include hst in
theorem bind_names (es : List Expr) : ∀ (l : List V) (vs : List Value) (ρ ρ' : Rho) (s : Shared) (E : Value → Shared → Prop), (∀ n ∈ es.filterMap eName, okn n) → bindEs es l ρ = some ρ' → RdL F vs l → I ρ s →
    wpAny (model g.prog g.w) A (assignInOrder ((assignEach es env).map (·.2)) vs) (fun _ s' => I ρ' s') E s := by
  induction es with
  | nil =>
    intro l vs ρ ρ' s E _ h r i
    cases l with
    | nil =>
      rw [← Option.some.inj h]
      exact wpAny_pure i
    | cons _ _ => exact nS h
  | cons e es ih =>
    intro l vs ρ ρ' s E hn h r i
    (refine xEEEEAA (bindEs_cons h) fun n p x l' qq3 qq4 h => ?_; subst qq3; subst qq4)
    refine RdL.conse r fun v vs r rs => ?_
    rw [assignEach_name]
    refine assignInOrder_cons (wpAny_assign_Name (wpAny_mono (hst n _ _ _ _ _ (hn n (by simp [eName])) i r) (fun _ s' i' => ?_) fun _ _ h => h))
    exact ih _ _ _ _ _ _ (fun m hm => hn m (by simp only [List.filterMap_cons, eName]; exact List.mem_cons_of_mem _ hm)) h rs i'

include hst hkp hsub in
theorem bind_tgt {t : Expr} {x : V} {v : Value} {ρ ρ' : Rho} {s : Shared} {E : Value → Shared → Prop} (hh : A.handled = none) (hn : ∀ n ∈ tgtNames t, okn n) (h : bindT t x ρ = some ρ') (r : Rd F v x) (i : I ρ s) :
    wpAny (model g.prog g.w) A (assign t env v) (fun _ s' => I ρ' s') E s := by
  refine oE h (fun h => oBE h fun n hnm h => ?_) fun h => oBE h fun es hes h => ?_
  · refine xE (eName_some hnm) fun p e => ?_
    subst e
    rw [← Option.some.inj h]
    exact wpAny_assign_Name (hst _ _ _ _ _ _ (hn _ (List.mem_singleton.mpr rfl)) i r)
  · refine xEE (eTup_some hes) fun k p e => ?_
    subst e
    refine oE h (fun h => tR r h fun a o xs n l e c d rl h => xA (bindEs_each (env := env) h) fun h1 h2 => ?_) fun h => lR r h fun a o xs n l e c d rl h => xA (bindEs_each (env := env) h) fun h1 h2 => ?_
    · refine assign_Tuple_tuple hh (items := xs) ⟨o, hsub _ _ i _ _ e, c, n, d⟩ (h1.trans (rd_size rl).symm) h2 fun h' he => ?_
      exact bind_names hst _ _ _ _ _ _ _ hn h rl (hkp _ _ _ i fun b o' e' => he b o' (Nat.ne_of_lt (Heap.lt_size e')) e')
    · rw [assign_Tuple]
      refine wpAny_bind (wpAny_standAt ?_)
      unfold unpack
      rw [h1.trans (rd_size rl).symm, h2]
      refine wpAny_bind (wpAny_holding (kun_itemsOf hh (items := xs) ⟨o, hsub _ _ i _ _ e, c, n, d⟩ fun h' he => ?_))
      exact bind_names hst _ _ _ _ _ _ _ hn h rl (hkp _ _ _ i fun b o' e' => he b o' (Nat.ne_of_lt (Heap.lt_size e')) e')
end

section
variable {g : Gl} {defs : List Fd} {env : Env} {ρ : Rho} {F : Fz} {s : Shared}

theorem Ok.weak {ρ' : Rho} (x : Ok g defs F env ρ' s) (h : ∀ y V, ρ y = some V → ρ' y = some V) : Ok g defs F env ρ s where
  toBs := x.toBs
  kind := x.kind
  gl := x.gl
  bi := x.bi
  loc := xEA x.loc fun n hn hv => ⟨n, hn, fun y V e k => hv y V (h y V e) k⟩
  cel := fun y V e k => x.cel y V (h y V e) k
  fl := x.fl
  fc := x.fc

/-- a local name stored -/
theorem Ok.storeL {n : Str} {v : Value} {y : V} {A : Around} {E : Value → Shared → Prop} (x : Ok g defs F env ρ s) (hk : env.kindOf n = some .local) (hr : Rd F v y) :
    wpAny (model g.prog g.w) A (storeName env n v) (fun _ s' => Ok g defs F env (upd ρ n y) s' ∧ (∃ h', s' = { s with heap := h', toks := s.toks + 1 } ∧ Heap.SameBut env.locals s.heap h')) E s := by
  refine xEA x.loc fun m hm hv => ?_
  refine wpAny_storeName_local hk hm (fun h' hn' hs' => ?_) (by rw [x.kind]; rfl)
  have hcl : ∀ c u, s.heap.IsCell c u → c ≠ env.locals := by
    intro c u hh e0; subst e0; refine xEA hh ?_; clear hh; intro o ho hd
    (refine xEEEAA hm ?_; clear hm; intro o' es ep ho' hd' _)
    rw [ho] at ho'; (injection ho' with ho'; subst ho')
    rw [hd] at hd'; injection hd'
  have hsub : Sub F h' := fun b o e => SameBut.keepsBut hs' (by rintro rfl; rw [x.fl] at e; injection e) (x.sub b o e)
  refine ⟨⟨⟨x.pg, hsub, by have := x.tk; show s.toks + 1 ≠ 0; lia⟩, x.kind, x.gl, x.bi, ⟨_, hn', fun z Z hz kz => ?_⟩, fun z Z hz kz => ?_, x.fl, fun z c e => ?_⟩, h', rfl, hs'⟩
  · simp only [upd] at hz
    by_cases hzn : z = n
    · rw [if_pos hzn] at hz; (injection hz with hz; subst hz)
      exact ⟨v, by simp [hzn], hr⟩
    · rw [if_neg hzn] at hz
      refine xEA (hv z Z hz kz) fun u e r => ?_
      exact ⟨u, by simp [hzn, e], r⟩
  · have hzn : z ≠ n := by rintro rfl; rw [hk] at kz; rcases kz with e | e <;> (injection e with e; injection e)
    simp only [upd, if_neg hzn] at hz
    refine xEEAA (x.cel z Z hz kz) fun c u h1 h2 h3 => ?_
    exact ⟨c, u, h1, h2.sameBut hs' (hcl c _ h2), h3⟩
  · refine xAE (x.fc z c e) fun h1 u h2 => ?_
    exact ⟨h1, u, h2.sameBut hs' (hcl c _ h2)⟩

end
end Mine

namespace Mine
open PySem PyProof.Rows PySem.W PySem.SeqAt

/-- an item that a source hands on -/
noncomputable def isTgtName (t : Expr) : Bool := (eName t).isSome
noncomputable def isTgtTuple (t : Expr) : Bool := (eTup t).isSome
theorem isTgtTuple_eq {t : Expr} (h : isTgtTuple t = true) : ∃ elts k tp, t = .Tuple elts k tp := xE (Option.isSome_iff_exists.mp h) fun es he => ⟨es, eTup_some he⟩
noncomputable def ItRd (target : Expr) (F : Fz) (h : Heap) (v : Value) (x : V) : Prop := Rd F v x ∨ (isTgtTuple target = true ∧ ∃ T vals ls, v = .ref T ∧ h.IsTuple T vals ∧ x = .tup ls ∧ RdL F vals.toList ls)
theorem ItRd.mono {target : Expr} {F F' : Fz} {h : Heap} {v : Value} {x : V} (l : Le F F') (r : ItRd target F h v x) : ItRd target F' h v x := by
  rcases r with r | ⟨tt, T, vals, ls, e, t, e', r⟩
  · exact .inl (r.mono l)
  · exact .inr ⟨tt, T, vals, ls, e, t, e', r.mono l⟩

/-- what a loop goes over: the iterator's objects are new, or frozen -/
noncomputable def Src (g : Gl) (A : Around) (target : Expr) (F : Fz) (h0 : Heap) (s : Shared) (it : Value) (l : List V) : Prop :=
  ∃ (I : Addr) (fp wr : List Addr) (P Md : Nat → Value → Heap → Prop) (St : Nat → Heap → Prop), it = .ref I ∧ KTurns g.prog g.w A target I fp wr l.length P Md St ∧
    (∀ i (s : Shared) (Q : Value → Shared → Prop) (E : Value → Shared → Prop), St i s.heap → Q (.ref I) s → wpAny (model g.prog g.w) A (pyIter (.ref I)) Q E s) ∧
    St 0 s.heap ∧ (∀ b ∈ fp, b < s.heap.objs.size) ∧ (∀ b ∈ fp, (h0.get? b = none ∧ F b = none) ∨ ∃ o, F b = some o) ∧ (∀ b ∈ wr, h0.get? b = none ∧ F b = none) ∧ (∀ i h, St i h → ∀ b ∈ fp, ∃ o, h.get? b = some o) ∧ ∀ i v h, P i v h → ∃ x, l[i]? = some x ∧ ItRd target F h v x

/-- a loop's head: the expression and its iterator -/
noncomputable def EvIt (g : Gl) (defs : List Fd) (d : Nat) (env : Env) (ρ : Rho) (target iter : Expr) (l : List V) : Prop :=
  ∀ (A : Around) (E : Value → Shared → Prop) (F : Fz) (s : Shared), Room d A → Ok g defs F env ρ s →
    wpAny (model g.prog g.w) A (eval iter env) (fun xv s₁ => wpAny (model g.prog g.w) A (pyIter xv) (fun it s₂ => ∃ F₂, Mv F s F₂ s₂ ∧ Src g A target F₂ s.heap s₂ it l) E s₁) E s
theorem EvIt.le {g : Gl} {defs : List Fd} {d d' : Nat} {env : Env} {ρ : Rho} {target iter : Expr} {l : List V} (h : EvIt g defs d env ρ target iter l) (k : d ≤ d') : EvIt g defs d' env ρ target iter l :=
  fun A E F s r ok => h A E F s (r.le k) ok

section
variable {g : Gl} {defs : List Fd} {d : Nat} {env : Env} {ρ : Rho} {A : Around}

theorem fz_size {F : Fz} {h : Heap} (s : Sub F h) {a : Addr} (ha : h.objs.size ≤ a) : F a = none := by
  cases q : F a with
  | none => rfl
  | some o => exact absurd (Heap.lt_size (s _ _ q)) (Nat.not_lt.mpr ha)
theorem size_le {h h' : Heap} (k : ∀ b o, h.get? b = some o → h'.get? b = some o) : ∀ a o, h.get? a = some o → a < h'.objs.size := fun a o e => Heap.lt_size (k a o e)

theorem Mv.size {F F' : Fz} {s s' : Shared} (m : Mv F s F' s') {a : Addr} {o : Obj} (h : s.heap.get? a = some o) : a < s'.heap.objs.size := Heap.lt_size (m.kp _ _ h)

theorem go_name {target : Expr} (h : isTgtName target = true) (it v : Value) : letOwnedTupleGo target it v = pure () := by
  refine xE (Option.isSome_iff_exists.mp h) fun n hn => xE (eName_some hn) fun p e => ?_
  subst e; rfl

theorem new_of {F F' : Fz} {s s' : Shared} (m : Mv F s F' s') {a : Addr} (ha : s'.heap.objs.size ≤ a) : s.heap.get? a = none := by
  cases q : s.heap.get? a with
  | none => rfl
  | some o => exact absurd (m.size q) (Nat.not_lt.mpr ha)

/-- over a list -/
theorem EvIt.list {target iter : Expr} {l : List V} (h : Ev g defs d env ρ iter (.lst l)) : EvIt g defs d env ρ target iter l := fun A E F s rm ok => by
  refine wpAny_mono (h A E F s rm ok) (fun xv s₁ h₁ => ?_) fun _ _ h => h
  (refine xEA h₁ ?_; clear h₁; intro F₁ m₁ r₁)
  refine Rd.le r₁ fun a o xs n e c dd rl => ?_
  · have ho := m₁.sub _ _ e
    have hl : s₁.heap.IsList a xs := ⟨o, ho, c, n, dd⟩
    have hlt := Heap.lt_size ho
    refine wpAny_pyIter_list hl ⟨F₁, m₁.trans (Mv.keep m₁.sub (fun b o e => Heap.get?_push_of_some _ e) (Nat.le_refl _)), ?_⟩
    have hlen : xs.size = l.length := by rw [← rl.length]; simp
    refine ⟨_, _, _, _, _, _, rfl, hlen ▸ KTurns.ofWalks (Walks.list rm.hd s₁.heap.objs.size a (Nat.ne_of_lt hlt) xs) fun i v s Q E st q => letGo_listiter st.1 q, fun i s Q E st hQ => wpAny_pyIter_listiter st.1 hQ, ⟨⟨_, Heap.get?_push_size _ rfl, rfl, rfl⟩, hl.push _⟩, fun b hb => by
      show b < (Heap.push _ _).objs.size
      rw [Heap.size_push]
      rcases List.mem_cons.mp hb with rfl | hb
      · exact Nat.lt_succ_self _
      · rw [List.mem_singleton.mp hb]; exact Nat.lt_succ_of_lt hlt, fun b hb => ?_, fun b hb => ?_, fun i h st b hb => ?_, fun i v h hp => ?_⟩
    · rcases List.mem_cons.mp hb with rfl | hb
      · exact .inl ⟨new_of m₁ (Nat.le_refl _), fz_size m₁.sub (Nat.le_refl _)⟩
      · rw [List.mem_singleton.mp hb]; exact .inr ⟨o, e⟩
    · rw [List.mem_singleton.mp hb]; exact ⟨new_of m₁ (Nat.le_refl _), fz_size m₁.sub (Nat.le_refl _)⟩
    · (refine xAEA st ?_; clear st; intro qq0 o' e' _; refine xEA qq0 ?_; clear qq0; intro o e _)
      rcases List.mem_cons.mp hb with rfl | hb
      · exact ⟨o, e⟩
      · rw [List.mem_singleton.mp hb]; exact ⟨o', e'⟩
    · have hp' : xs[i]? = some v := hp
      obtain ⟨x, hx, rx⟩ := rl.get' (i := i) (v := v) (by rw [Array.getElem?_toList]; exact hp')
      exact ⟨x, hx, .inl rx⟩

/-- over a tuple -/
theorem EvIt.tup {target iter : Expr} {l : List V} (h : Ev g defs d env ρ iter (.tup l)) : EvIt g defs d env ρ target iter l := fun A E F s rm ok => by
  refine wpAny_mono (h A E F s rm ok) (fun xv s₁ h₁ => ?_) fun _ _ h => h
  (refine xEA h₁ ?_; clear h₁; intro F₁ m₁ r₁)
  refine Rd.te r₁ fun a o xs n e c dd rl => ?_
  · have ho := m₁.sub _ _ e
    have hl : s₁.heap.IsTuple a xs := ⟨o, ho, c, n, dd⟩
    have hlt := Heap.lt_size ho
    refine wpAny_pyIter_tuple hl ⟨F₁, m₁.trans (Mv.keep m₁.sub (fun b o e => Heap.get?_push_of_some _ e) (Nat.le_refl _)), ?_⟩
    have hlen : xs.size = l.length := by rw [← rl.length]; simp
    let W := Walks.tuple (prog := g.prog) (w := g.w) rm.hd s₁.heap.objs.size a (Nat.ne_of_lt hlt) xs
    refine ⟨_, _, _, _, _, _, rfl, hlen ▸ KTurns.ofWalks W fun i v s Q E st q => letGo_tupleiter st.1 q, W.self, ⟨⟨_, Heap.get?_push_size _ rfl, rfl, rfl⟩, hl.at fun o e => Heap.get?_push_of_some _ e⟩, fun b hb => by
      show b < (Heap.push _ _).objs.size
      rw [Heap.size_push]
      rcases List.mem_cons.mp hb with rfl | hb
      · exact Nat.lt_succ_self _
      · rw [List.mem_singleton.mp hb]; exact Nat.lt_succ_of_lt hlt, fun b hb => ?_, fun b hb => ?_, fun i h st b hb => ?_, fun i v h hp => ?_⟩
    · rcases List.mem_cons.mp hb with rfl | hb
      · exact .inl ⟨new_of m₁ (Nat.le_refl _), fz_size m₁.sub (Nat.le_refl _)⟩
      · rw [List.mem_singleton.mp hb]; exact .inr ⟨o, e⟩
    · rw [List.mem_singleton.mp hb]; exact ⟨new_of m₁ (Nat.le_refl _), fz_size m₁.sub (Nat.le_refl _)⟩
    · (refine xAEA st ?_; clear st; intro qq1 o' e' _; refine xEA qq1 ?_; clear qq1; intro o e _)
      rcases List.mem_cons.mp hb with rfl | hb
      · exact ⟨o, e⟩
      · rw [List.mem_singleton.mp hb]; exact ⟨o', e'⟩
    · have hp' : xs[i]? = some v := hp
      obtain ⟨x, hx, rx⟩ := rl.get' (i := i) (v := v) (by rw [Array.getElem?_toList]; exact hp')
      exact ⟨x, hx, .inl rx⟩

/-- over a text's signs -/
noncomputable def chars (x : Str) : List V := x.cps.toList.map fun c => .str ⟨#[c]⟩
theorem EvIt.str {target iter : Expr} {x : Str} (ht : isTgtName target = true) (h : Ev g defs d env ρ iter (.str x)) : EvIt g defs d env ρ target iter (chars x) := fun A E F s rm ok => by
  refine wpAny_mono (h A E F s rm ok) (fun xv s₁ h₁ => ?_) fun _ _ h => h
  (refine xEA h₁ ?_; clear h₁; intro F₁ m₁ r₁)
  (first | refine Rd.ie r₁ fun _ => ?_ | refine Rd.se r₁ fun _ => ?_ | refine Rd.fe r₁ fun _ _ => ?_ | refine Rd.be r₁ fun _ => ?_ | refine Rd.ne r₁ ?_ | refine RdL.nile r₁ ?_ | cases r₁)
  rename_i tk₀
  have key : ∀ (ty : String), (∀ (I : Addr), Walks g.prog g.w A I [I] [I] x.cps.size (SignAt x) (fun i h => h.IsStrIter I ty x tk₀ i)) → ∃ F₂, Mv F s F₂ { s₁ with heap := s₁.heap.push { cls := .type ty, data := .fields #[.str x tk₀, .int 0 0] } } ∧
      Src g A target F₂ s.heap { s₁ with heap := s₁.heap.push { cls := .type ty, data := .fields #[.str x tk₀, .int 0 0] } } (.ref s₁.heap.objs.size) (chars x) := fun ty W => by
    refine ⟨F₁, m₁.trans (Mv.keep m₁.sub (fun b o e => Heap.get?_push_of_some _ e) (Nat.le_refl _)), ?_⟩
    have hlen : x.cps.size = (chars x).length := by simp [chars]
    refine ⟨_, _, _, _, _, _, rfl, hlen ▸ KTurns.ofWalks (W _) fun i v s Q E st q => by rw [go_name ht]; exact wpAny_pure q, (W _).self, ⟨_, Heap.get?_push_size _ rfl, rfl, rfl⟩, fun b hb => by
      show b < (Heap.push _ _).objs.size
      rw [Heap.size_push, List.mem_singleton.mp hb]; exact Nat.lt_succ_self _, fun b hb => ?_, fun b hb => ?_, fun i h st b hb => ?_, fun i v h hp => ?_⟩
    · rw [List.mem_singleton.mp hb]; exact .inl ⟨new_of m₁ (Nat.le_refl _), fz_size m₁.sub (Nat.le_refl _)⟩
    · rw [List.mem_singleton.mp hb]; exact ⟨new_of m₁ (Nat.le_refl _), fz_size m₁.sub (Nat.le_refl _)⟩
    · rw [List.mem_singleton.mp hb]; (refine xEA st ?_; clear st; intro o e _); exact ⟨o, e⟩
    · (refine xEEA hp ?_; clear hp; intro c u hc qq2; subst qq2)
      refine ⟨.str ⟨#[c]⟩, ?_, .inl .str⟩
      rw [chars, List.getElem?_map, Array.getElem?_toList, hc]; rfl
  cases ha : x.cps.all (· < 128)
  · exact wpAny_pyIter_wide ha (key "str_iterator" fun I => Walks.strWide rm.hd I x _)
  · exact wpAny_pyIter_ascii ha (key "str_ascii_iterator" fun I => Walks.strAscii rm.hd I x _)

/-- a built-in type's call, and what follows -/
theorem bcall_then {n : Str} {p pos : Pos} {es : List Expr} {xs : List V} {f : Value} {E : Value → Shared → Prop} {F : Fz} {s : Shared} {Q : Value → Shared → Prop} (h : EvL g defs d env ρ es xs) (rm : Room d A) (ok : Ok g defs F env ρ s)
    (hg : g.mg n = Option.none) (hv : bootBuiltins n = some f) (hn : n ≠ "__name__") (hk : env.kindOf n = some .globalImplicit)
    (hd : (n == ("__debug__" : Str)) = false) (hf : ∀ a, f ≠ .ref a) (hQ : ∀ vs s' F', Mv F s F' s' → RdL F' vs xs → wpAny (model g.prog g.w) A (call f vs) Q E s') : wpAny (model g.prog g.w) A (eval (.Call (.Name n p) es [] pos) env) Q E s := by
  refine Call_Name rfl (ev_builtin ok hg hv ?_ hn hk hd)
  exact callWith_flat hf h rm ok hQ

noncomputable def rangeV (a b : Int) : List V := (List.range (b - a).toNat).map fun (i : Nat) => V.int (a + (i : Int))
theorem rangeV_len (a b : Int) : (rangeV a b).length = (b - a).toNat := by simp [rangeV]
theorem range_src {E : Value → Shared → Prop} {F : Fz} {s₀ s : Shared} {target : Expr} {r : Addr} {a b : Int} {t u v : Tok} (ht : isTgtName target = true) (rm : Room d A) (m : Mv F s₀ F s) (hr : IsRange s.heap r a b 1 t u v) (hs : Builtin.Range.small a b 1 = true) :
    wpAny (model g.prog g.w) A (pyIter (.ref r)) (fun it s₂ => ∃ F₂, Mv F s₀ F₂ s₂ ∧ Src g A target F₂ s₀.heap s₂ it (rangeV a b)) E s := by
  refine wpAny_pyIter_range hr hs ⟨F, m.trans (Mv.keep m.sub (fun b o e => Heap.get?_push_of_some _ e) (Nat.le_refl _)), ?_⟩
  have hlen := rangeV_len a b
  have hsz : Builtin.Range.rangeSize a b 1 = (((rangeV a b).length : Nat) : Int) := by
    rw [rangeSize_one, hlen]; split <;> lia
  let W := (LCg.range_walks (prog := g.prog) (w := g.w) (I := s.heap.objs.size) rm.hd a (rangeV a b).length).bound
  refine ⟨_, _, _, _, _, _, rfl, KTurns.ofWalks W fun i v s Q E st q => by rw [go_name ht]; exact wpAny_pure q, W.self, ?_, fun b hb => ?_, fun b hb => ?_, fun b hb => ?_, fun i h st b hb => ?_, fun i v h hp => ?_⟩
  · show IsRangeIter _ _ _ _ _
    rw [hsz]
    have e1 : a + ((0 : Nat) : Int) * 1 = a := by simp
    rw [e1]
    have e2 : (((rangeV a b).length : Nat) : Int) - ((0 : Nat) : Int) = (((rangeV a b).length : Nat) : Int) := by simp
    rw [e2]
    exact Heap.get?_push_size _ rfl
  · show b < (Heap.push _ _).objs.size
    rw [Heap.size_push, List.mem_singleton.mp hb]; exact Nat.lt_succ_self _
  · rw [List.mem_singleton.mp hb]; exact .inl ⟨new_of m (Nat.le_refl _), fz_size m.sub (Nat.le_refl _)⟩
  · rw [List.mem_singleton.mp hb]; exact ⟨new_of m (Nat.le_refl _), fz_size m.sub (Nat.le_refl _)⟩
  · rw [List.mem_singleton.mp hb]; exact ⟨_, st⟩
  · (refine xAE hp ?_; clear hp; intro hi t qq3; subst qq3)
    refine ⟨.int (a + (i : Int)), ?_, .inl .int⟩
    rw [hlen] at hi
    rw [rangeV, List.getElem?_map, List.getElem?_range hi]; rfl

noncomputable def okR (a b : Int) : Bool := decide (-(2 ^ 62) ≤ a) && decide (a < 2 ^ 62) && decide (-(2 ^ 62) ≤ b) && decide (b < 2 ^ 62)
theorem okR_small {a b : Int} (h : okR a b = true) : Builtin.Range.small a b 1 = true := by
  simp only [okR, Bool.and_eq_true, decide_eq_true_eq] at h
  exact small_one h.1.1.1 h.1.1.2 h.1.2 h.2

theorem Src.back {target : Expr} {F F₀ F₁ : Fz} {s₀ s₁ s : Shared} {it : Value} {l : List V} (m : Mv F₀ s₀ F₁ s₁) (h : Src g A target F s₁.heap s it l) : Src g A target F s₀.heap s it l := by
  (refine xEEEEEE h ?_; clear h; intro I fp wr P Md St qr0; refine xAAAAAAAA qr0 ?_; clear qr0; intro e1 W sf st h5 h1 h2 h4 h3)
  have none_of : ∀ b, s₁.heap.get? b = none → s₀.heap.get? b = none := fun b a => by
    cases q : s₀.heap.get? b with
    | none => rfl
    | some o => rw [m.kp _ _ q] at a; injection a
  refine ⟨I, fp, wr, P, Md, St, e1, W, sf, st, h5, fun b hb => ?_, fun b hb => ?_, h4, h3⟩
  · rcases h1 b hb with ⟨a, c⟩ | a
    · exact .inl ⟨none_of b a, c⟩
    · exact .inr a
  · exact ⟨none_of b (h2 b hb).1, (h2 b hb).2⟩

theorem range_new {E : Value → Shared → Prop} {F₀ F : Fz} {s₀ s : Shared} {target : Expr} {a b : Int} {t u v : Tok} {tk : Nat} (ht : isTgtName target = true) (rm : Room d A) (m : Mv F₀ s₀ F s) (ho : okR a b = true) (hk : s.toks ≤ tk) :
    wpAny (model g.prog g.w) A (pyIter (.ref s.heap.objs.size)) (fun it s₂ => ∃ F₂, Mv F₀ s₀ F₂ s₂ ∧ Src g A target F₂ s₀.heap s₂ it (rangeV a b)) E
      { s with heap := s.heap.push { cls := .type "range", data := .fields #[.int a t, .int b u, .int 1 v] }, toks := tk } := by
  have m' : Mv F s F { s with heap := s.heap.push { cls := .type "range", data := .fields #[.int a t, .int b u, .int 1 v] }, toks := tk } := Mv.keep m.sub (fun b o e => Heap.get?_push_of_some _ e) hk
  refine wpAny_mono (range_src ht rm m' (IsRange.new _ a b 1 _ _ _) (okR_small ho)) (fun it s₂ h₂ => ?_) fun _ _ h => h
  (refine xEA h₂ ?_; clear h₂; intro F₂ m₂ sr)
  exact ⟨F₂, m.trans m₂, sr.back m⟩

theorem EvIt.range1 {target : Expr} {p pos : Pos} {es : List Expr} {b : Int} (ht : isTgtName target = true) (h : EvL g defs d env ρ es [.int b]) (hg : g.mg "range" = Option.none) (hk : env.kindOf "range" = some .globalImplicit) (ho : okR 0 b = true) :
    EvIt g defs d env ρ target (.Call (.Name "range" p) es [] pos) (rangeV 0 b) := fun A E F s rm ok => by
  refine bcall_then h rm ok hg (f := .type "range") (by kernel_rfl) (by decide) hk (by decide) (by intro a; nofun) fun vs s₁ F₁ m r => ?_
  refine RdL.conse r fun _ _ r1 r => ?_
  · (first | refine Rd.ie r fun _ => ?_ | refine Rd.se r fun _ => ?_ | refine Rd.fe r fun _ _ => ?_ | refine Rd.be r fun _ => ?_ | refine Rd.ne r ?_ | refine RdL.nile r ?_ | cases r)
    (first | refine Rd.ie r1 fun _ => ?_ | refine Rd.se r1 fun _ => ?_ | refine Rd.fe r1 fun _ _ => ?_ | refine Rd.be r1 fun _ => ?_ | refine Rd.ne r1 ?_ | refine RdL.nile r1 ?_ | cases r1)
    exact call_range_1 (range_new ht rm m ho (by lia))
theorem EvIt.range2 {target : Expr} {p pos : Pos} {es : List Expr} {a b : Int} (ht : isTgtName target = true) (h : EvL g defs d env ρ es [.int a, .int b]) (hg : g.mg "range" = Option.none) (hk : env.kindOf "range" = some .globalImplicit) (ho : okR a b = true) :
    EvIt g defs d env ρ target (.Call (.Name "range" p) es [] pos) (rangeV a b) := fun A E F s rm ok => by
  refine bcall_then h rm ok hg (f := .type "range") (by kernel_rfl) (by decide) hk (by decide) (by intro a; nofun) fun vs s₁ F₁ m r => ?_
  refine RdL.conse r fun _ _ r1 r => ?_
  · refine RdL.conse r fun _ _ r2 r => ?_
    · (first | refine Rd.ie r fun _ => ?_ | refine Rd.se r fun _ => ?_ | refine Rd.fe r fun _ _ => ?_ | refine Rd.be r fun _ => ?_ | refine Rd.ne r ?_ | refine RdL.nile r ?_ | cases r)
      (first | refine Rd.ie r1 fun _ => ?_ | refine Rd.se r1 fun _ => ?_ | refine Rd.fe r1 fun _ _ => ?_ | refine Rd.be r1 fun _ => ?_ | refine Rd.ne r1 ?_ | refine RdL.nile r1 ?_ | cases r1)
      (first | refine Rd.ie r2 fun _ => ?_ | refine Rd.se r2 fun _ => ?_ | refine Rd.fe r2 fun _ _ => ?_ | refine Rd.be r2 fun _ => ?_ | refine Rd.ne r2 ?_ | refine RdL.nile r2 ?_ | cases r2)
      exact call_range_2 (range_new ht rm m ho (by lia))

noncomputable def enumV : Nat → List V → List V
  | _, [] => []
  | i, x :: l => .tup [.int (i : Int), x] :: enumV (i + 1) l
theorem enumV_len : ∀ (l : List V) (i : Nat), (enumV i l).length = l.length
  | [], _ => rfl
  | _ :: l, i => by rw [enumV, List.length_cons, List.length_cons, enumV_len l]
theorem enumV_get : ∀ (l : List V) (a i : Nat) {x : V}, l[i]? = some x → (enumV a l)[i]? = some (.tup [.int ((a + i : Nat) : Int), x])
  | [], _, _, _, h => by simp at h
  | y :: l, a, 0, x, h => by
    have e : y = x := by simpa using h
    subst e
    rfl
  | y :: l, a, i + 1, x, h => by
    have q := enumV_get l (a + 1) i (x := x) (by simpa using h)
    have e : a + 1 + i = a + (i + 1) := by lia
    rw [e] at q
    simpa [enumV] using q
noncomputable def zipV : List V → List V → List V
  | x :: l, y :: r => .tup [x, y] :: zipV l r
  | _, _ => []
theorem zipV_len : ∀ (l r : List V), (zipV l r).length = min l.length r.length
  | [], _ => by simp [zipV]
  | _ :: _, [] => by simp [zipV]
  | _ :: l, _ :: r => by
    simp only [zipV, List.length_cons, zipV_len l r]; lia
theorem zipV_get : ∀ (l r : List V) (i : Nat) {x y : V}, l[i]? = some x → r[i]? = some y → (zipV l r)[i]? = some (.tup [x, y])
  | [], _, _, _, _, h, _ => by simp at h
  | _ :: _, [], _, _, _, _, h => by simp at h
  | a :: l, b :: r, 0, x, y, h, h' => by
    have e : a = x := by simpa using h
    have e' : b = y := by simpa using h'
    subst e e'; rfl
  | a :: l, b :: r, i + 1, x, y, h, h' => by
    have := zipV_get l r i (x := x) (y := y) (by simpa using h) (by simpa using h')
    simpa [zipV] using this

theorem EvIt.enum {elts : List Expr} {k : Nat} {tp p pos : Pos} {es : List Expr} {l : List V} (h : EvL g defs d env ρ es [.lst l]) (hg : g.mg "enumerate" = Option.none) (hk : env.kindOf "enumerate" = some .globalImplicit) :
    EvIt g defs d env ρ (.Tuple elts k tp) (.Call (.Name "enumerate" p) es [] pos) (enumV 0 l) := fun A E F s rm ok => by
  refine bcall_then h rm ok hg (f := .type "enumerate") (by kernel_rfl) (by decide) hk (by decide) (by intro a; nofun) fun vs s₁ F₁ m r => ?_
  refine RdL.conse r fun _ _ r1 r => ?_
  · (first | refine Rd.ie r fun _ => ?_ | refine Rd.se r fun _ => ?_ | refine Rd.fe r fun _ _ => ?_ | refine Rd.be r fun _ => ?_ | refine Rd.ne r ?_ | refine RdL.nile r ?_ | cases r)
    refine Rd.le r1 fun a o xs n e c dd rl => ?_
    · have hl : s₁.heap.IsList a xs := ⟨o, m.sub _ _ e, c, n, dd⟩
      have hlt : a < s₁.heap.objs.size := Heap.lt_size (m.sub _ _ e)
      have hlen : xs.size = (enumV 0 l).length := by rw [enumV_len, ← rl.length]; simp
      refine call_enumerate_list hl fun h' hE hI hsz hk' => wpAny_pyIter_enum hE ⟨F₁, m.trans (Mv.keep m.sub hk' (Nat.le_refl _)), ?_⟩
      let W := (WalksT.enumerate (prog := g.prog) (w := g.w) rm.hd (s₁.heap.objs.size + 1) s₁.heap.objs.size a (Nat.succ_ne_self _) (ktu_ne 1 hlt) (Nat.ne_of_lt hlt) xs).toU
      refine ⟨_, _, _, _, _, _, rfl, hlen ▸ KTurns.ofWalksU W, W.self, ⟨⟨.none, hE⟩, hI, hl.at fun o e => hk' a o e⟩, fun b hb => ?_, fun b hb => ?_, fun b hb => ?_, fun i h st b hb => ?_, ?_⟩
      · have hb' : b = s₁.heap.objs.size + 1 ∨ b = s₁.heap.objs.size ∨ b = a := by simpa using hb
        show b < h'.objs.size
        rw [hsz]
        rcases hb' with rfl | rfl | rfl <;> (first | exact Nat.lt_add_of_pos_right (by decide) | exact Nat.add_lt_add_left (by decide) _ | exact Nat.lt_of_lt_of_le hlt (Nat.le_add_right _ _))
      · have hb' : b = s₁.heap.objs.size + 1 ∨ b = s₁.heap.objs.size ∨ b = a := by simpa using hb
        rcases hb' with rfl | rfl | rfl
        · exact .inl ⟨new_of m (by lia), fz_size m.sub (by lia)⟩
        · exact .inl ⟨new_of m (by lia), fz_size m.sub (by lia)⟩
        · exact .inr ⟨o, e⟩
      · have hb' : b = s₁.heap.objs.size + 1 ∨ b = s₁.heap.objs.size := by simpa using hb
        rcases hb' with rfl | rfl
        · exact ⟨new_of m (by lia), fz_size m.sub (by lia)⟩
        · exact ⟨new_of m (by lia), fz_size m.sub (by lia)⟩
      · have hb' : b = s₁.heap.objs.size + 1 ∨ b = s₁.heap.objs.size ∨ b = a := by simpa using hb
        (refine xAA st ?_; clear st; intro qq4 qq5 qr1; refine xEA qr1 ?_; clear qr1; intro ol hol _; refine xE qq4 ?_; clear qq4; intro old he; refine xEA qq5 ?_; clear qq5; intro oi hoi _)
        rcases hb' with rfl | rfl | rfl
        · exact ⟨_, he⟩
        · exact ⟨_, hoi⟩
        · exact ⟨_, hol⟩
      · intro i v h hh; refine xEEAA hh ?_; clear hh; intro T vals q1 q2 hT; subst q1; refine xEEA q2 ?_; clear q2; intro t x hx q3; subst q3
        obtain ⟨y, hy, ry⟩ := rl.get' (i := i) (v := x) (by rw [Array.getElem?_toList]; exact hx)
        refine ⟨_, enumV_get l 0 i hy, .inr ⟨rfl, T, _, _, rfl, hT, rfl, ?_⟩⟩
        rw [Nat.zero_add]
        exact .cons .int (.cons ry .nil)

theorem EvIt.zip {elts : List Expr} {k : Nat} {tp p pos : Pos} {es : List Expr} {l l' : List V} (h : EvL g defs d env ρ es [.lst l, .lst l']) (hg : g.mg "zip" = Option.none) (hk : env.kindOf "zip" = some .globalImplicit) :
    EvIt g defs d env ρ (.Tuple elts k tp) (.Call (.Name "zip" p) es [] pos) (zipV l l') := fun A E F s rm ok => by
  refine bcall_then h rm ok hg (f := .type "zip") (by kernel_rfl) (by decide) hk (by decide) (by intro a; nofun) fun vs s₁ F₁ m r => ?_
  refine RdL.conse r fun _ _ r1 r => ?_
  · refine RdL.conse r fun _ _ r2 r => ?_
    · (first | refine Rd.ie r fun _ => ?_ | refine Rd.se r fun _ => ?_ | refine Rd.fe r fun _ _ => ?_ | refine Rd.be r fun _ => ?_ | refine Rd.ne r ?_ | refine RdL.nile r ?_ | cases r)
      refine Rd.le r1 fun a o xs n e c dd rl => ?_
      · refine Rd.le r2 fun a' o' xs' n' e' c' dd' rl' => ?_
        · have hl : s₁.heap.IsList a xs := ⟨o, m.sub _ _ e, c, n, dd⟩
          have hl' : s₁.heap.IsList a' xs' := ⟨o', m.sub _ _ e', c', n', dd'⟩
          have hlt : a < s₁.heap.objs.size := Heap.lt_size (m.sub _ _ e)
          have hlt' : a' < s₁.heap.objs.size := Heap.lt_size (m.sub _ _ e')
          have hlen : min xs.size xs'.size = (zipV l l').length := by rw [zipV_len, ← rl.length, ← rl'.length]; simp
          have D := ktu_apart s₁.heap.objs.size a a' hlt hlt'
          refine call_zip_2 hl hl' fun h' hz hTI hTO hi1 hi2 hsz hk' => wpAny_pyIter_zip hz ⟨F₁, m.trans (Mv.keep m.sub hk' (Nat.le_refl _)), ?_⟩
          let W := (WalksT.zip2 (prog := g.prog) (w := g.w) rm.hd _ _ _ _ _ _ _ D xs xs').toU
          refine ⟨_, _, _, _, _, _, rfl, hlen ▸ KTurns.ofWalksU W, W.self, ⟨hz, hTI, ⟨_, _, hTO⟩, hi1, hi2, hl.at fun o e => hk' a o e, hl'.at fun o e => hk' a' o e⟩, fun b hb => ?_, fun b hb => ?_, fun b hb => ?_, fun i h st b hb => ?_, ?_⟩
          · have hb' : b = s₁.heap.objs.size + 4 ∨ b = s₁.heap.objs.size + 2 ∨ b = s₁.heap.objs.size + 3 ∨ b = s₁.heap.objs.size ∨ b = s₁.heap.objs.size + 1 ∨ b = a ∨ b = a' := by simpa using hb
            show b < h'.objs.size
            rw [hsz]
            rcases hb' with rfl | rfl | rfl | rfl | rfl | rfl | rfl <;> (first | exact Nat.lt_add_of_pos_right (by decide) | exact Nat.add_lt_add_left (by decide) _ | exact Nat.lt_of_lt_of_le hlt (Nat.le_add_right _ _) | exact Nat.lt_of_lt_of_le hlt' (Nat.le_add_right _ _))
          · have hb' : b = s₁.heap.objs.size + 4 ∨ b = s₁.heap.objs.size + 2 ∨ b = s₁.heap.objs.size + 3 ∨ b = s₁.heap.objs.size ∨ b = s₁.heap.objs.size + 1 ∨ b = a ∨ b = a' := by simpa using hb
            rcases hb' with rfl | rfl | rfl | rfl | rfl | rfl | rfl
            · exact .inl ⟨new_of m (by lia), fz_size m.sub (by lia)⟩
            · exact .inl ⟨new_of m (by lia), fz_size m.sub (by lia)⟩
            · exact .inl ⟨new_of m (by lia), fz_size m.sub (by lia)⟩
            · exact .inl ⟨new_of m (by lia), fz_size m.sub (by lia)⟩
            · exact .inl ⟨new_of m (by lia), fz_size m.sub (by lia)⟩
            · exact .inr ⟨o, e⟩
            · exact .inr ⟨o', e'⟩
          · have hb' : b = s₁.heap.objs.size + 4 ∨ b = s₁.heap.objs.size + 3 ∨ b = s₁.heap.objs.size ∨ b = s₁.heap.objs.size + 1 := by simpa using hb
            rcases hb' with rfl | rfl | rfl | rfl
            · exact ⟨new_of m (by lia), fz_size m.sub (by lia)⟩
            · exact ⟨new_of m (by lia), fz_size m.sub (by lia)⟩
            · exact ⟨new_of m (by lia), fz_size m.sub (by lia)⟩
            · exact ⟨new_of m (by lia), fz_size m.sub (by lia)⟩
          · have hb' : b = s₁.heap.objs.size + 4 ∨ b = s₁.heap.objs.size + 2 ∨ b = s₁.heap.objs.size + 3 ∨ b = s₁.heap.objs.size ∨ b = s₁.heap.objs.size + 1 ∨ b = a ∨ b = a' := by simpa using hb
            (refine xAAAAAA st ?_; clear st; intro hz hTI qq6 qq7 qq8 qq9 qr2; refine xEA qr2 ?_; clear qr2; intro o4 ho4 _; refine xEE qq6 ?_; clear qq6; intro a b hTO; refine xEA qq7 ?_; clear qq7; intro o1 ho1 _; refine xEA qq8 ?_; clear qq8; intro o2 ho2 _; refine xEA qq9 ?_; clear qq9; intro o3 ho3 _)
            rcases hb' with rfl | rfl | rfl | rfl | rfl | rfl | rfl
            · exact ⟨_, hz⟩
            · exact ⟨_, hTI⟩
            · exact ⟨_, hTO⟩
            · exact ⟨_, ho1⟩
            · exact ⟨_, ho2⟩
            · exact ⟨_, ho3⟩
            · exact ⟨_, ho4⟩
          · intro i v h hh; refine xEEAA hh ?_; clear hh; intro T vals q1 q2 hT; subst q1; refine xEEAA q2 ?_; clear q2; intro x y hx hy q3; subst q3
            obtain ⟨x', hx', rx⟩ := rl.get' (i := i) (v := x) (by rw [Array.getElem?_toList]; exact hx)
            obtain ⟨y', hy', ry⟩ := rl'.get' (i := i) (v := y) (by rw [Array.getElem?_toList]; exact hy)
            exact ⟨_, zipV_get l l' i hx' hy', .inr ⟨rfl, T, _, _, rfl, hT, rfl, .cons rx (.cons ry .nil)⟩⟩
end
end Mine

namespace Mine
open PySem PyProof.Rows PySem.W PySem.SeqAt

/-- the tokens only grow -/
theorem upT {M : Model} {α : Type} {A : Around} {E : Value → Shared → Prop} {s : Shared} {t : Sem α} {Q : α → Shared → Prop} (h : wpAny M A t (fun v s' => s.toks ≤ s'.toks → Q v s') E s) : wpAny M A t Q E s :=
  wpAny_mono (wpAny_toks_of (Nat.le_refl _) h) (fun _ _ h => h.2 h.1) fun _ _ h => h.2

noncomputable def clOf (cells : List (Str × Addr)) : List (Str × NameKind) → List (Str × Addr) → List (Str × Addr)
  | [], acc => acc
  | (n, k) :: r, acc => clOf cells r (if k == .free then (match cells.lookup n with | some c => (n, c) :: acc | none => acc) else acc)
theorem clOf_closure {scope : Scope} {env : Env} (h : ∀ x ∈ scope.names, x.2 = .free → (env.cells.lookup x.1).isSome = true) : closureFor scope env = pure (clOf env.cells scope.names []) := by
  unfold closureFor
  have key : ∀ (ns : List (Str × NameKind)) (acc : List (Str × Addr)), (∀ x ∈ ns, x.2 = .free → (env.cells.lookup x.1).isSome = true) →
      (forIn ns acc fun x r => (match x with | (name, kind) => if kind == .free then (do let a ← cellOf env name; pure (ForInStep.yield ((name, a) :: r))) else pure (ForInStep.yield r) : Sem (ForInStep (List (Str × Addr))))) = (pure (clOf env.cells ns acc) : Sem (List (Str × Addr))) := by
    intro ns
    induction ns with
    | nil => intro acc _; rfl
    | cons x r ih =>
      intro acc h
      obtain ⟨n, k⟩ := x
      rw [List.forIn_cons]
      have ih' := fun acc => ih acc fun x hx => h x (List.mem_cons_of_mem _ hx)
      by_cases hk : k = .free
      · subst hk
        refine xE (Option.isSome_iff_exists.mp (h _ List.mem_cons_self rfl)) fun c hc => ?_
        simp only at hc
        have e1 : cellOf env n = pure c := by unfold cellOf; rw [hc]
        have e2 : clOf env.cells ((n, .free) :: r) acc = clOf env.cells r ((n, c) :: acc) := by
          show clOf env.cells r (match env.cells.lookup n with | some c => (n, c) :: acc | none => acc) = _
          rw [hc]
        rw [e2, ← ih' ((n, c) :: acc)]
        simp only [e1]
        rfl
      · have e2 : clOf env.cells ((n, k) :: r) acc = clOf env.cells r acc := by
          show clOf env.cells r (if k == .free then _ else acc) = _
          rw [if_neg (by simpa using hk)]
        have hk' : (k == NameKind.free) = false := by simpa using hk
        rw [e2, ← ih' acc]
        simp only [hk', Bool.false_eq_true, if_false]
        rfl
  exact congrArg (fun t : Sem (List (Str × Addr)) => t >>= fun cs => pure cs) (key scope.names [] h)

theorem clOf_agree {cells : List (Str × Addr)} : ∀ (ns : List (Str × NameKind)) (acc : List (Str × Addr)), (∀ y d, acc.lookup y = some d → cells.lookup y = some d) → ∀ y d, (clOf cells ns acc).lookup y = some d → cells.lookup y = some d
  | [], _, h, y, d, e => h y d e
  | (n, k) :: r, acc, h, y, d, e => by
    refine clOf_agree r _ ?_ y d e
    intro z c hz
    split at hz
    · split at hz
      · rename_i c' hc'
        rw [List.lookup_cons] at hz
        cases hb : z == n with
        | true => rw [hb] at hz; (injection hz with hz; subst hz); rw [beq_iff_eq.mp hb]; exact hc'
        | false => rw [hb] at hz; exact h z c hz
      · exact h z c hz
    · exact h z c hz
theorem clOf_keeps {cells : List (Str × Addr)} {x : Str} : ∀ (ns : List (Str × NameKind)) (acc : List (Str × Addr)), (acc.lookup x).isSome = true → ((clOf cells ns acc).lookup x).isSome = true
  | [], _, h => h
  | (n, k) :: r, acc, h => by
    refine clOf_keeps r _ ?_
    split
    · split
      · rw [List.lookup_cons]
        cases hb : x == n with
        | true => rfl
        | false => exact h
      · exact h
    · exact h
theorem clOf_mem {cells : List (Str × Addr)} {x : Str} {c : Addr} (hc : cells.lookup x = some c) : ∀ (ns : List (Str × NameKind)) (acc : List (Str × Addr)), (x, .free) ∈ ns → ((clOf cells ns acc).lookup x).isSome = true
  | [], _, h => nM h
  | (n, k) :: r, acc, h => by
    rcases List.mem_cons.mp h with h | h
    · (injection h with hz0 hz1; subst hz0; subst hz1)
      refine clOf_keeps r _ ?_
      simp [hc]
    · exact clOf_mem hc r _ h
theorem mem_of_lookupK : ∀ {ns : List (Str × NameKind)} {x : Str} {k : NameKind}, ns.lookup x = some k → (x, k) ∈ ns
  | [], _, _, h => nS h
  | (n, k') :: r, x, k, h => by
    rw [List.lookup_cons] at h
    cases hb : x == n with
    | true => rw [hb] at h; (injection h with h; subst h); rw [beq_iff_eq.mp hb]; exact List.mem_cons_self
    | false => rw [hb] at h; exact List.mem_cons_of_mem _ (mem_of_lookupK h)

/-- names within a comprehension, as the run labels them -/
noncomputable def relab (K : Str → Option NameKind) (ns : List (Str × NameKind)) : List (Str × NameKind) := ns.map fun (n, k) => if k == .free && K n == some .cell then (n, .cell) else (n, k)
theorem relabel_names {scope : Scope} {env : Env} (hk : env.scope.kind = .function) : (relabel scope env).names = relab env.kindOf scope.names := by
  unfold relabel relab
  simp only [hk, beq_self_eq_true, Bool.and_true]
theorem relab_local {K : Str → Option NameKind} : ∀ {ns : List (Str × NameKind)} {x : Str}, (relab K ns).lookup x = some .local → ns.lookup x = some .local
  | [], _, h => nS h
  | (n, k) :: r, x, h => by
    unfold relab at h
    rw [List.map_cons] at h
    by_cases hc : (k == NameKind.free && K n == some .cell) = true
    · simp only [hc, if_true, List.lookup_cons] at h
      rw [List.lookup_cons]
      cases hb : x == n with
      | true => rw [hb] at h; (injection h with h; injection h)
      | false => rw [hb] at h; exact relab_local h
    · simp only [hc, Bool.false_eq_true, if_false, List.lookup_cons] at h
      rw [List.lookup_cons]
      cases hb : x == n with
      | true => rw [hb] at h; exact h
      | false => rw [hb] at h; exact relab_local h
theorem local_relab {K : Str → Option NameKind} : ∀ {ns : List (Str × NameKind)} {x : Str}, ns.lookup x = some .local → (relab K ns).lookup x = some .local
  | [], _, h => nS h
  | (n, k) :: r, x, h => by
    unfold relab
    rw [List.map_cons]
    rw [List.lookup_cons] at h
    by_cases hc : (k == NameKind.free && K n == some .cell) = true
    · simp only [hc, if_true, List.lookup_cons]
      cases hb : x == n with
      | true => rw [hb] at h; simp at h; subst h; simp at hc
      | false => rw [hb] at h; exact local_relab h
    · simp only [hc, Bool.false_eq_true, if_false, List.lookup_cons]
      cases hb : x == n with
      | true => rw [hb] at h; exact h
      | false => rw [hb] at h; exact local_relab h

/-- what a comprehension sees of the names around it -/
noncomputable def inner (ns : List (Str × NameKind)) (ρ : Rho) : Rho := fun y => if ns.lookup y = some .free then ρ y else none

section
variable {g : Gl} {defs : List Fd} {d : Nat}

theorem comp_loop {prog : Program} {w : World} {A : Around} {elt target iter : PySem.Expr} {ifs : List Expr} {scope : Scope} {pos : Pos} {it acc : Value} {env : Env} {R : Result → Shared → Prop} {s : Shared} (I : Nat → Shared → Prop)
    (turn : ∀ n s, I n s → wpAny (model prog w) A (pyNext it) (fun r s₁ => match r with
      | none => R (.ok .next) s₁
      | some v => wpAny (model prog w) A (letOwnedTupleGo target it v) (fun _ s₀ => wpAny (model prog w) A (assign target env v) (fun _ s₂ =>
          wpAny (model prog w) A (forIn ifs true fun c r => if r = true then do let ok ← isTrue c env (eval c env); pure (ForInStep.yield ok) else pure (ForInStep.yield r)) (fun ok s₃ =>
          if ok = true then wpAny (model prog w) A (eval elt env) (fun x s₄ =>
            wpAny (model prog w) A (call (.builtin "list.append") [acc, x]) (fun _ s₅ => ∃ m, m < n ∧ I m s₅) (notedBy (model prog w) A env fun e s' => R (.error e) s') s₄) (notedBy (model prog w) A env fun e s' => R (.error e) s') s₃
          else ∃ m, m < n ∧ I m s₃) (notedBy (model prog w) A env fun e s' => R (.error e) s') s₂)
          (notedBy (model prog w) A env fun e s' => R (.error e) s') s₀) (notedBy (model prog w) A env fun e s' => R (.error e) s') s₁) (notedBy (model prog w) A env fun e s' => R (.error e) s') s)
    (n : Nat) (h : I n s) : codeAny (model prog w) A (.compLoop (.ListComp elt [⟨target, iter, ifs, 0⟩] scope pos) 0 it acc env) R s := by
  refine codeAny_loop rfl I (fun n s hI => ?_) n h
  show wpAny _ A ((compTurn (.ListComp elt [⟨target, iter, ifs, 0⟩] scope pos) 0 it acc env).onRaise (fun x => do noteFrame x env; theTreesLotGoes x)) _ _ s
  refine wpAny_noted ?_
  rw [compTurn_list]
  refine wpAny_bind (wpAny_standAt (wpAny_bind (wpAny_mono (turn n s hI) (fun r s₁ h₁ => ?_) fun _ _ h' => h')))
  cases r with
  | none => exact wpAny_pure h₁
  | some v =>
    refine wpAny_bind (wpAny_mono h₁ (fun _ s₀ h₀' => ?_) fun _ _ h' => h')
    refine wpAny_bind (wpAny_mono h₀' (fun _ s₂ h₂ => wpAny_bind (wpAny_mono h₂ (fun ok s₃ h₃ => ?_) fun _ _ h' => h')) fun _ _ h' => h')
    cases ok with
    | false => exact wpAny_pure ⟨rfl, h₃⟩
    | true => exact wpAny_bind (wpAny_bind (wpAny_mono h₃ (fun x s₄ h₄ => wpAny_bind (wpAny_mono h₄ (fun _ s₅ h₅ => wpAny_pure (wpAny_pure ⟨rfl, h₅⟩)) fun _ _ h' => h')) fun _ _ h' => h'))

/-- a comprehension's tests -/
noncomputable def Tests (g : Gl) (defs : List Fd) (d : Nat) (env : Env) (ρ : Rho) : List Expr → Bool → Prop
  | [], b => b = true
  | t :: ts, b => (Is g defs d env ρ t true ∧ Tests g defs d env ρ ts b) ∨ (Is g defs d env ρ t false ∧ b = false)
theorem forIn_false {prog : Program} {w : World} {A : Around} {E : Value → Shared → Prop} {env : Env} {Q : Bool → Shared → Prop} : ∀ (ts : List Expr) (s : Shared), Q false s →
    wpAny (model prog w) A (forIn ts false fun c r => if r = true then do let ok ← isTrue c env (eval c env); pure (ForInStep.yield ok) else pure (ForInStep.yield r)) Q E s
  | [], s, h => wpAny_pure h
  | t :: ts, s, h => by
    rw [List.forIn_cons]
    simp only [Bool.false_eq_true, if_false]
    exact wpAny_bind (wpAny_pure (forIn_false ts s h))
theorem Tests.run {A : Around} {E : Value → Shared → Prop} {env : Env} {ρ : Rho} {b : Bool} : ∀ {ts : List Expr}, Tests g defs d env ρ ts b → ∀ (F : Fz) (s : Shared), Room d A → Ok g defs F env ρ s →
    wpAny (model g.prog g.w) A (forIn ts true fun c r => if r = true then do let ok ← isTrue c env (eval c env); pure (ForInStep.yield ok) else pure (ForInStep.yield r)) (ResB F s b) E s
  | [], h, F, s, rm, ok => by
    have h : b = true := h
    subst h
    exact wpAny_pure ⟨rfl, F, Mv.refl ok.sub⟩
  | t :: ts, h, F, s, rm, ok => by
    rw [List.forIn_cons]
    simp only [if_true]
    rcases h with ⟨h1, h2⟩ | ⟨h1, rfl⟩
    · refine wpAny_bind (wpAny_bind (wpAny_mono (h1 A E F s rm ok) (fun v s₁ h₁ => ?_) fun _ _ h => h))
      (refine xAE h₁ ?_; clear h₁; intro qq0 F₁ m₁; subst qq0)
      refine wpAny_pure (wpAny_mono (Tests.run h2 F₁ s₁ rm (ok.mv m₁)) (fun u s₂ h₂ => ?_) fun _ _ h => h)
      (refine xAE h₂ ?_; clear h₂; intro qq1 F₂ m₂; subst qq1)
      exact ⟨rfl, F₂, m₁.trans m₂⟩
    · refine wpAny_bind (wpAny_bind (wpAny_mono (h1 A E F s rm ok) (fun v s₁ h₁ => ?_) fun _ _ h => h))
      (refine xAE h₁ ?_; clear h₁; intro qq2 F₁ m₁; subst qq2)
      exact wpAny_pure (forIn_false ts s₁ ⟨rfl, F₁, m₁⟩)

inductive Turns (g : Gl) (defs : List Fd) (d : Nat) (ce : Env → Prop) (target elt : Expr) (ifs : List Expr) (ρ0 : Rho) : List V → List V → Prop
  | nil : Turns g defs d ce target elt ifs ρ0 [] []
  | keep {x y : V} {l ys : List V} {ρ1 : Rho} : bindT target x ρ0 = some ρ1 → (∀ e, ce e → Tests g defs d e ρ1 ifs true) → (∀ e, ce e → Ev g defs d e ρ1 elt y) → Turns g defs d ce target elt ifs ρ0 l ys → Turns g defs d ce target elt ifs ρ0 (x :: l) (y :: ys)
  | skip {x : V} {l ys : List V} {ρ1 : Rho} : bindT target x ρ0 = some ρ1 → (∀ e, ce e → Tests g defs d e ρ1 ifs false) → Turns g defs d ce target elt ifs ρ0 l ys → Turns g defs d ce target elt ifs ρ0 (x :: l) ys

theorem Mv.touch {F F' : Fz} {s s' : Shared} {B : List Addr} {h' : Heap} {t : Nat} (m : Mv F s F' s') (hB : ∀ b ∈ B, s.heap.get? b = none ∧ F' b = none) (k : ∀ b o, b ∉ B → s'.heap.get? b = some o → h'.get? b = some o) (ht : s'.toks ≤ t) : Mv F s F' { s' with heap := h', toks := t } := by
  exact ⟨m.eq, m.up, fun b o e => k b o (fun hb => by rw [(hB b hb).2] at e; injection e) (m.sub b o e), m.new, fun b o e => k b o (fun hb => by rw [(hB b hb).1] at e; injection e) (m.kp b o e), Nat.le_trans m.tk ht⟩

section
variable {I : Rho → Shared → Prop} {okn : Str → Prop} {A : Around} {env : Env} {F : Fz}
  (hst : ∀ (n : Str) (v : Value) (y : V) (ρ : Rho) (s : Shared) (E : Value → Shared → Prop), okn n → I ρ s → Rd F v y → wpAny (model g.prog g.w) A (storeName env n v) (fun _ s' => I (upd ρ n y) s') E s)
  (hkp : ∀ (ρ : Rho) (s : Shared) (h' : Heap), I ρ s → (∀ b o, s.heap.get? b = some o → h'.get? b = some o) → I ρ { s with heap := h' })
  (hsub : ∀ (ρ : Rho) (s : Shared), I ρ s → Sub F s.heap)
include hst hkp hsub in
theorem bind_it {t : Expr} {x : V} {v : Value} {ρ ρ' : Rho} {s : Shared} {E : Value → Shared → Prop} (hh : A.handled = none) (hn : ∀ n ∈ tgtNames t, okn n) (h : bindT t x ρ = some ρ') (r : ItRd t F s.heap v x) (i : I ρ s) :
    wpAny (model g.prog g.w) A (assign t env v) (fun _ s' => I ρ' s') E s := by
  rcases r with r | ⟨tt, T, vals, ls, rfl, hT, rfl, rl⟩
  · exact bind_tgt hst hkp hsub hh hn h r i
  · refine xEEE (isTgtTuple_eq tt) fun es k p e => ?_
    subst e
    have h : oO (bindEs es ls ρ) none = some ρ' := h
    refine oE h (fun h => xA (bindEs_each (env := env) h) fun h1 h2 => ?_) fun h => nS h
    refine assign_Tuple_tuple hh hT (h1.trans (rd_size rl).symm) h2 fun h' he => ?_
    exact bind_names hst _ _ _ _ _ _ _ hn h rl (hkp _ _ _ i fun b o' e' => he b o' (Nat.ne_of_lt (Heap.lt_size e')) e')
end

/-- what a comprehension leaves behind -/
structure CE (F₀ : Fz) (s₀ : Shared) (D C : Addr) (out : List V) (F' : Fz) (s' : Shared) : Prop where
  mv : Mv F₀ s₀ F' s'
  hD : s₀.heap.get? D = none
  hC : s₀.heap.get? C = none
  fC : F' C = none
  fD : F' D = none
  ne : D ≠ C
  ns : ∃ m, s'.heap.Ns C m
  ls : ∃ ys n, s'.heap.get? D = some { cls := .type "list", data := .seq ys n } ∧ RdL F' ys.toList out

/-- what a comprehension asks of its names -/
structure Names (scope : Scope) (env : Env) (target : Expr) : Prop where
  kind : scope.kind = .function
  cell : ∀ x ∈ scope.names, x.2 ≠ .cell
  loc : ∀ x ∈ scope.names, x.2 = .local → scope.names.lookup x.1 = some .local
  free : ∀ x ∈ scope.names, x.2 = .free → env.kindOf x.1 = some .cell ∨ env.kindOf x.1 = some .free
  tgt : ∀ n ∈ tgtNames target, scope.names.lookup n = some .local

theorem comp_block {A : Around} {E : Value → Shared → Prop} {env : Env} {ρ : Rho} {elt target iter : PySem.Expr} {ifs : List Expr} {scope : Scope} {pos : Pos} {F F₂ : Fz} {s s₂ : Shared} {it : Value} {l out : List V} {RR : Value → Addr → Result → Shared → Prop}
    (rm : Room d A) (ok : Ok g defs F env ρ s) (hρ : ∀ x ∈ scope.names, x.2 = .free → (ρ x.1).isSome = true) (hn : Names scope env target) (m₂ : Mv F s F₂ s₂) (hsrc : Src g A target F₂ s.heap s₂ it l) (hl : l.length ≤ sizeLine)
    (ht : Turns g defs d (fun e => ∃ C, e = compEnvC scope (clOf env.cells scope.names []) C env) target elt ifs (inner scope.names ρ) l out)
    (hRR : ∀ D C F' s', CE F s D C out F' s' → RR (.ref D) C (.ok .next) s') :
    wpAny (model g.prog g.w) A (newList []) (fun acc s₃ => wpAny (model g.prog g.w) A (newFunctionEnv scope env.globals (clOf env.cells scope.names []) [] env.qual none .none (some env)) (fun cenv s₄ =>
      codeAny (model g.prog g.w) A (.compStart (.ListComp elt [⟨target, iter, ifs, 0⟩] scope pos) 0 it acc { cenv with scope := relabel scope env }) (RR acc cenv.locals) s₄) E s₃) E s₂ := by
  (refine xEEEEEE hsrc ?_; clear hsrc; intro I fp wr P Md St qr0; refine xAAAAAAAA qr0 ?_; clear qr0; intro qq3 W sf st₀ fplt hfp hwr alive hP; subst qq3)
  refine wpAny_newObj_type (wpAny_newFunctionEnv hn.cell (by intro y hy; simp at hy) (fun h₁ hns₁ hsb₁ => ?_) hn.kind)
  dsimp only at hns₁ hsb₁ ⊢
  generalize hH2 : s₂.heap.push { cls := .type "list", dict := none, data := .seq ([] : List Value).toArray } = H2 at hns₁ hsb₁ ⊢
  have hC : H2.objs.size = s₂.heap.objs.size + 1 := by rw [← hH2, Heap.size_push]
  have hDC : s₂.heap.objs.size ≠ H2.objs.size := by rw [hC]; exact Nat.ne_of_lt (Nat.lt_succ_self _)
  have below : ∀ b o, s₂.heap.get? b = some o → b ≠ H2.objs.size ∧ b ≠ s₂.heap.objs.size := fun b o e => ⟨by rw [hC]; exact Nat.ne_of_lt (Nat.lt_succ_of_lt (Heap.lt_size e)), Nat.ne_of_lt (Heap.lt_size e)⟩
  have old : ∀ b o, s₂.heap.get? b = some o → h₁.get? b = some o := fun b o e => hsb₁.extBut b o (below b o e).1 (Heap.get?_push_of_some _ (hH2 ▸ Heap.get?_push_of_some _ e))
  have hacc : h₁.get? s₂.heap.objs.size = some { cls := .type "list", data := .seq #[] 0 } := hsb₁.extBut _ _ hDC (Heap.get?_push_of_some _ (hH2 ▸ Heap.get?_push_size _ rfl))
  have hDn : s.heap.get? s₂.heap.objs.size = none := new_of m₂ (Nat.le_refl _)
  have hCn : s.heap.get? H2.objs.size = none := new_of m₂ (by omega)
  have hFD : F₂ s₂.heap.objs.size = none := fz_size m₂.sub (Nat.le_refl _)
  have hFC : F₂ H2.objs.size = none := fz_size m₂.sub (by omega)
  have okc : ∀ F' s' m', Mv F s F' s' → s'.heap.Ns H2.objs.size m' → F' H2.objs.size = none → Ok g defs F' (compEnvC scope (clOf env.cells scope.names []) H2.objs.size env) (inner scope.names ρ) s' := fun F' s' m' mv ns fc => by
    have ok' := ok.mv mv
    have names := relabel_names (scope := scope) ok.kind
    refine ⟨ok'.toBs, hn.kind, ok'.gl, ok'.bi, ⟨m', ns, fun y Y e k => ?_⟩, fun y Y e k => ?_, fc, fun y c e => ?_⟩
    · have k' : scope.names.lookup y = some .local := by
        have : (relabel scope env).names.lookup y = some .local := k
        rw [names] at this; exact relab_local this
      simp only [inner] at e
      rw [if_neg (by rw [k']; decide)] at e; injection e
    · simp only [inner] at e
      split at e
      · rename_i hy
        have hmem := mem_of_lookupK hy
        have kk := hn.free _ hmem rfl
        refine xEEAA (ok'.cel y Y e kk) fun c v h1 h2 h3 => ?_
        have h4 := clOf_mem h1 scope.names [] hmem
        refine xE (Option.isSome_iff_exists.mp h4) fun c' h5 => ?_
        have h6 := clOf_agree scope.names [] (fun _ _ e => nS e) y c' h5
        rw [h1] at h6; (injection h6 with h6; subst h6)
        exact ⟨c, v, h5, h2, h3⟩
      · injection e
    · exact ok'.fc y c (clOf_agree scope.names [] (fun _ _ e => nS e) y c e)
  have fpx : ∀ b ∈ fp, b ≠ H2.objs.size ∧ b ≠ s₂.heap.objs.size := fun b hb => by
    have := fplt b hb
    exact ⟨by rw [hC]; exact Nat.ne_of_lt (Nat.lt_succ_of_lt this), Nat.ne_of_lt this⟩
  have wrx : ∀ b ∈ wr, b ≠ H2.objs.size ∧ b ≠ s₂.heap.objs.size := fun b hb => fpx b (W.sub b hb)
  have cellx : ∀ F' s', Mv F s F' s' → ∀ c v, s'.heap.IsCell c v → True := fun _ _ _ _ _ _ => trivial
  let cenv := compEnvC scope (clOf env.cells scope.names []) H2.objs.size env
  let J : Nat → Shared → Prop := fun k s' => ∃ F' i ys n m' done rest, k = l.length + 1 - i ∧ i ≤ l.length ∧ Mv F s F' s' ∧ Le F₂ F' ∧ St i s'.heap ∧ s'.heap.Ns H2.objs.size m' ∧
    s'.heap.get? s₂.heap.objs.size = some { cls := .type "list", data := .seq ys n } ∧ RdL F' ys.toList done ∧ ys.size ≤ i ∧
    Turns g defs d (fun e => ∃ C, e = compEnvC scope (clOf env.cells scope.names []) C env) target elt ifs (inner scope.names ρ) (l.drop i) rest ∧ out = done ++ rest ∧
    F' H2.objs.size = none ∧ F' s₂.heap.objs.size = none ∧ ∀ b ∈ wr, F' b = none
  have loop : ∀ s₃ : Shared, s₃ = { s₂ with heap := h₁, toks := s₂.toks + ([] : List (Str × Value)).length } →
      codeAny (model g.prog g.w) A (.compLoop (.ListComp elt [⟨target, iter, ifs, 0⟩] scope pos) 0 (.ref I) (.ref s₂.heap.objs.size) cenv) (RR (.ref s₂.heap.objs.size) H2.objs.size) s₃ := by
    rintro s₃ rfl
    refine comp_loop J ?_ (l.length + 1) ⟨F₂, 0, #[], 0, _, [], out, rfl, Nat.zero_le _, m₂.trans (Mv.keep m₂.sub old (Nat.le_refl _)), Le.rfl, W.frame _ _ _ st₀ fun b _ o e => old b o e, hns₁, hacc, .nil, Nat.le_refl _, by simpa using ht, rfl, hFC, hFD, fun b hb => (hwr b hb).2⟩
    intro k s' hh; refine xEEEEEEE hh ?_; clear hh; intro F' i ys n m' done rest hh; refine xAAAAAAAA hh ?_; clear hh; intro e0 hi mv le st ns hD rd hh; subst e0; refine xAAAAA hh ?_; clear hh; intro hys tn ho fC fD fw
    have wrB : ∀ b ∈ wr, s.heap.get? b = none ∧ F' b = none := fun b hb => ⟨(hwr b hb).1, fw b hb⟩
    by_cases hlt : i < l.length
    · have hdrop : l.drop i = l[i] :: l.drop (i + 1) := List.drop_eq_getElem_cons hlt
      rw [hdrop] at tn
      refine upT (W.item i s' _ _ hlt st fun v hA tkA hMd hkA htA => ?_)
      have mvA : Mv F s F' { s' with heap := hA, toks := tkA } := mv.touch wrB (fun b o hb e => hkA b o hb e) htA
      refine W.go i v _ _ _ hMd fun hB hPv stB hkB => ?_
      have mvB : Mv F s F' { s' with heap := hB, toks := tkA } := mvA.touch wrB (fun b o hb e => hkB b o hb e) (Nat.le_refl _)
      have nsB : hB.Ns H2.objs.size m' := ns.at' fun o e => hkB _ o (fun hb => (wrx _ hb).1 rfl) (hkA _ o (fun hb => (wrx _ hb).1 rfl) e)
      have hDB := hkB _ _ (fun hb => (wrx _ hb).2 rfl) (hkA _ _ (fun hb => (wrx _ hb).2 rfl) hD)
      refine xEA (hP i v hB hPv) fun x' hx' rx => ?_
      rw [List.getElem?_eq_getElem hlt] at hx'
      (injection hx' with hx'; subst hx')
      let Iv : Rho → Shared → Prop := fun r t => Ok g defs F' cenv r t ∧ Mv F s F' t ∧ St (i + 1) t.heap ∧ t.heap.get? s₂.heap.objs.size = some { cls := .type "list", data := .seq ys n }
      have hstI : ∀ (nm : Str) (v : Value) (y : V) (r : Rho) (t : Shared) (E : Value → Shared → Prop), cenv.kindOf nm = some .local → Iv r t → Rd F' v y → wpAny (model g.prog g.w) A (storeName cenv nm v) (fun _ t' => Iv (upd r nm y) t') E t := fun nm v y r t E hk hI hr => by
        (refine xAAA hI ?_; clear hI; intro i1 i2 i3 i4)
        refine upT (wpAny_mono (i1.storeL hk hr) (fun _ t' ht' => ?_) fun _ _ h => h)
        (refine xAEA ht' ?_; clear ht'; intro o1 h' qq4 sb; subst qq4)
        intro htk
        have kb : ∀ b o, b ∉ [H2.objs.size] → t.heap.get? b = some o → h'.get? b = some o := fun b o hb e => sb.extBut b o (fun h => hb (List.mem_singleton.mpr h)) e
        refine ⟨o1, i2.touch (B := [H2.objs.size]) (fun b hb => ?_) kb htk, W.frame _ _ _ i3 fun b hb o e => kb b o (by simpa using (fpx b hb).1) e, kb _ _ (by simpa using hDC) i4⟩
        rw [List.mem_singleton.mp hb]; exact ⟨hCn, fC⟩
      have hkpI : ∀ (r : Rho) (t : Shared) (h' : Heap), Iv r t → (∀ b o, t.heap.get? b = some o → h'.get? b = some o) → Iv r { t with heap := h' } := fun r t h' hI k => by
        (refine xAAA hI ?_; clear hI; intro i1 i2 i3 i4)
        have mk : Mv F' t F' { t with heap := h' } := Mv.keep i1.sub k (Nat.le_refl _)
        exact ⟨i1.mv mk, i2.trans mk, W.frame _ _ _ i3 fun b _ o e => k b o e, k _ _ i4⟩
      have main : ∀ (x : V) (l' rest : List V), ItRd target F' hB v x → Turns g defs d (fun e => ∃ C, e = compEnvC scope (clOf env.cells scope.names []) C env) target elt ifs (inner scope.names ρ) (x :: l') rest → out = done ++ rest → l' = l.drop (i + 1) →
          wpAny (model g.prog g.w) A (assign target cenv v) (fun _ s₂' => wpAny (model g.prog g.w) A (forIn ifs true fun c r => if r = true then do let ok ← isTrue c cenv (eval c cenv); pure (ForInStep.yield ok) else pure (ForInStep.yield r)) (fun ok s₃ =>
            if ok = true then wpAny (model g.prog g.w) A (eval elt cenv) (fun x s₄ =>
              wpAny (model g.prog g.w) A (call (.builtin "list.append") [.ref s₂.heap.objs.size, x]) (fun _ s₅ => ∃ m, m < l.length + 1 - i ∧ J m s₅) (notedBy (model g.prog g.w) A cenv fun e s' => RR (.ref s₂.heap.objs.size) H2.objs.size (.error e) s') s₄) (notedBy (model g.prog g.w) A cenv fun e s' => RR (.ref s₂.heap.objs.size) H2.objs.size (.error e) s') s₃
            else ∃ m, m < l.length + 1 - i ∧ J m s₃) (notedBy (model g.prog g.w) A cenv fun e s' => RR (.ref s₂.heap.objs.size) H2.objs.size (.error e) s') s₂') (notedBy (model g.prog g.w) A cenv fun e s' => RR (.ref s₂.heap.objs.size) H2.objs.size (.error e) s') { s' with heap := hB, toks := tkA } := by
        intro x l' rest rx tn ho hl'
        have start : ∀ ρ1, bindT target x (inner scope.names ρ) = some ρ1 → wpAny (model g.prog g.w) A (assign target cenv v) (fun _ t => Iv ρ1 t) (notedBy (model g.prog g.w) A cenv fun e s' => RR (.ref s₂.heap.objs.size) H2.objs.size (.error e) s') { s' with heap := hB, toks := tkA } := fun ρ1 hb =>
          bind_it (I := Iv) (okn := fun nm => cenv.kindOf nm = some .local) hstI hkpI (fun _ _ hI => hI.1.sub) rm.hd (fun nm hnm => by
            show (relabel scope env).names.lookup nm = some .local
            rw [relabel_names ok.kind]; exact local_relab (hn.tgt nm hnm)) hb rx ⟨okc F' _ m' mvB nsB fC, mvB, stB, hDB⟩
        have fin : ∀ F₃ t, Mv F' t F₃ t → True := fun _ _ _ => trivial
        have ends : ∀ ρ1 t F₃ s₃, Iv ρ1 t → Mv F' t F₃ s₃ → Ok g defs F₃ cenv ρ1 s₃ ∧ Mv F s F₃ s₃ ∧ Le F₂ F₃ ∧ St (i + 1) s₃.heap ∧ (∃ m', s₃.heap.Ns H2.objs.size m') ∧ s₃.heap.get? s₂.heap.objs.size = some { cls := .type "list", data := .seq ys n } ∧
            F₃ H2.objs.size = none ∧ F₃ s₂.heap.objs.size = none ∧ ∀ b ∈ wr, F₃ b = none := fun ρ1 t F₃ s₃ hI m₃ => by
          (refine xAAA hI ?_; clear hI; intro i1 i2 i3 i4)
          refine xEA i1.loc fun m' nsT _ => ?_
          refine xEEEA (id nsT) fun oC _ _ hoC _ => ?_
          refine ⟨i1.mv m₃, i2.trans m₃, le.trans m₃.up, W.frame _ _ _ i3 fun b _ o e => m₃.kp b o e, ⟨m', nsT.keeps m₃.kp⟩, m₃.kp _ _ i4, m₃.new_none hoC fC, m₃.new_none i4 fD, fun b hb => ?_⟩
          refine xE (alive _ _ i3 b (W.sub b hb)) fun o e => ?_
          exact m₃.new_none e (fw b hb)
        cases tn with
        | @keep _ y _ ys' ρ1 hb h1 h2 h3 =>
          refine wpAny_mono (start ρ1 hb) (fun _ t hI => ?_) fun _ _ h => h
          refine wpAny_mono ((h1 cenv ⟨_, rfl⟩).run F' t rm hI.1) (fun b s₃ hb => ?_) fun _ _ h => h
          (refine xAE hb ?_; clear hb; intro qq5 F₃ m₃; subst qq5)
          rw [if_pos rfl]
          refine xA (ends ρ1 t F₃ s₃ hI m₃) fun ok₃ _ => ?_
          refine wpAny_mono (h2 cenv ⟨_, rfl⟩ A _ F₃ s₃ rm ok₃) (fun u s₄ h₄ => ?_) fun _ _ h => h
          (refine xEA h₄ ?_; clear h₄; intro F₄ m₄ r₄)
          (refine xAAAAAAAA (ends ρ1 t F₄ s₄ hI (m₃.trans m₄)) fun ok₄ mv₄ le₄ st₄ qq6 hD₄ fC₄ fD₄ fw₄ => ?_; refine xE qq6 ?_; clear qq6; intro m'' ns₄)
          refine append_at (hsz := Nat.le_trans hys (Nat.le_trans hi hl)) hD₄ fun h₅ hs₅ hD₅ => ?_
          have kb : ∀ b o, b ∉ [s₂.heap.objs.size] → s₄.heap.get? b = some o → h₅.get? b = some o := fun b o hb e => hs₅.extBut b o (by simpa using hb) e
          refine ⟨l.length + 1 - (i + 1), by omega, F₄, i + 1, ys.push u, n + 1, m'', done ++ [y], ys', rfl, hlt, ?_, le₄, W.frame _ _ _ st₄ fun b hb o e => kb b o (by simpa using (fpx b hb).2) e, ns₄.at' fun o e => kb _ o (by simpa using Ne.symm hDC) e, hD₅, ?_, by simpa using hys, hl' ▸ h3, by rw [ho]; simp, fC₄, fD₄, fw₄⟩
          · exact mv₄.touch (B := [s₂.heap.objs.size]) (fun b hb => by rw [List.mem_singleton.mp hb]; exact ⟨hDn, fD₄⟩) kb (Nat.le_refl _)
          · rw [Array.toList_push]
            exact RdL.snoc (rd.mono ((m₃.trans m₄).up)) r₄
        | @skip _ _ ys' ρ1 hb h1 h3 =>
          refine wpAny_mono (start ρ1 hb) (fun _ t hI => ?_) fun _ _ h => h
          refine wpAny_mono ((h1 cenv ⟨_, rfl⟩).run F' t rm hI.1) (fun b s₃ hb => ?_) fun _ _ h => h
          (refine xAE hb ?_; clear hb; intro qq7 F₃ m₃; subst qq7)
          rw [if_neg Bool.false_ne_true]
          (refine xAAAAAAAA (ends ρ1 t F₃ s₃ hI m₃) fun ok₄ mv₄ le₄ st₄ qq8 hD₄ fC₄ fD₄ fw₄ => ?_; refine xE qq8 ?_; clear qq8; intro m'' ns₄)
          exact ⟨l.length + 1 - (i + 1), by omega, F₃, i + 1, ys, n, m'', done, rest, rfl, hlt, mv₄, le₄, st₄, ns₄, hD₄, rd.mono m₃.up, Nat.le_succ_of_le hys, hl' ▸ h3, ho, fC₄, fD₄, fw₄⟩
      exact main l[i] (l.drop (i + 1)) rest (rx.mono le) tn ho rfl
    · have hin : i = l.length := by omega
      subst hin
      refine upT (W.done s' _ _ st fun hA tkA hkA htA => ?_)
      have e : l.drop l.length = [] := List.drop_length
      rw [e] at tn
      cases tn
      refine hRR _ _ F' _ ⟨mv.touch wrB (fun b o hb e => hkA b o hb e) htA, hDn, hCn, fC, fD, hDC, ⟨m', ns.at' fun o e => hkA _ o (fun hb => (wrx _ hb).1 rfl) e⟩, ys, n, hkA _ _ (fun hb => (wrx _ hb).2 rfl) hD, ?_⟩
      rw [ho]; simpa using rd
  exact codeAny_compStart_list (loop _ rfl) (sf 0 _ _ _ (W.frame _ _ _ st₀ fun b _ o e => old b o e) (loop _ rfl))
end
end Mine

namespace Mine
open PySem PyProof.Rows PySem.W PySem.SeqAt

noncomputable def notSet : Expr → Bool
  | .Set _ _ _ => false
  | _ => true
theorem notSet_fold {e : Expr} (h : notSet e = true) (env : Env) (x : Value) : foldedSetIterable e env x = pure x := by
  cases e <;> first | rfl | cases h

section
variable {g : Gl} {defs : List Fd} {d : Nat} {env : Env} {ρ : Rho} {ω : Omg}

noncomputable def CompTurns (g : Gl) (defs : List Fd) (d : Nat) (env : Env) (scope : Scope) (target elt : Expr) (ifs : List Expr) (ρ : Rho) (l out : List V) : Prop :=
  Turns g defs d (fun e => ∃ C, e = compEnvC scope (clOf env.cells scope.names []) C env) target elt ifs (inner scope.names ρ) l out

theorem Ok.cells {F : Fz} {s : Shared} {scope : Scope} {target : Expr} (ok : Ok g defs F env ρ s) (hn : Names scope env target) (hρ : ∀ x ∈ scope.names, x.2 = .free → (ρ x.1).isSome = true) :
    closureFor scope env = pure (clOf env.cells scope.names []) := by
  refine clOf_closure fun x hx hf => ?_
  refine xE (Option.isSome_iff_exists.mp (hρ x hx hf)) fun V hV => ?_
  refine xEEA (ok.cel x.1 V hV (hn.free x hx hf)) fun c v h1 _ => ?_
  rw [h1]; rfl

/-- a comprehension -/
theorem Ev.comp {elt target iter : Expr} {ifs : List Expr} {scope : Scope} {pos : Pos} {l out : List V} (hn : Names scope env target) (hρ : ∀ x ∈ scope.names, x.2 = .free → (ρ x.1).isSome = true)
    (hs : notSet iter = true) (hi : EvIt g defs d env ρ target iter l) (hl : l.length ≤ sizeLine) (ht : CompTurns g defs d env scope target elt ifs ρ l out) :
    Ev g defs d env ρ (.ListComp elt [⟨target, iter, ifs, 0⟩] scope pos) (.lst out) := fun A E F s rm ok => by
  rw [eval_ListComp]
  refine wpAny_comprehension_free (use := Option.none) rfl (notSet_fold hs env) (ok.cells hn hρ) hn.kind hn.loc (wpAny_mono (hi A E F s rm ok) (fun xv s₁ h₁ => wpAny_mono h₁ (fun it s₂ h₂ => ?_) fun _ _ e => e) fun _ _ e => e)
  (refine xEA h₂ ?_; clear h₂; intro F₂ m₂ src)
  refine comp_block (RR := fun acc C => compPost (model g.prog g.w) A E Option.none (Res F s (.lst out)) acc C) rm ok hρ hn m₂ src hl ht fun D C F' s' ce => ?_
  refine xE ce.ns fun m ns => ?_
  refine ⟨m, ns, fun h' sb => ?_⟩
  refine xEEA ce.ls fun ys n hD rd => ?_
  have kb : ∀ b o, b ∉ [C] → s'.heap.get? b = some o → h'.get? b = some o := fun b o hb e => sb.extBut b o (fun h => hb (List.mem_singleton.mpr h)) e
  have mv := ce.mv.touch (B := [C]) (fun b hb => by rw [List.mem_singleton.mp hb]; exact ⟨ce.hC, ce.fC⟩) kb (Nat.le_refl _)
  have mp := mv.put ce.hD (kb D _ (by simpa using ce.ne) hD)
  exact ⟨_, mp, .lst (put_self _ _ _) rfl rfl (rd.mono (put_le (.inl ce.fD)))⟩

/-- more to be kept -/
noncomputable def Gd.prot (g0 : Gd) (B : List Addr) (s : Shared) : Gd := ⟨g0.sh, fun b => if b ∈ B then s.heap.get? b else g0.G b⟩

theorem Fs.prot {g0 : Gd} {Fg F F' : Fz} {s₀ s : Shared} {B : List Addr} (x : Fs g defs g0 Fg env ρ ω F s₀) (m : Mv F s₀ F' s) (hB : ∀ b ∈ B, s₀.heap.get? b = none ∧ F' b = none) : Fs g defs (g0.prot B s) Fg env ρ ω F' s := by
  have y := x.mv' m
  have out : ∀ b o, s₀.heap.get? b = some o → b ∉ B := fun b o e hb => by rw [(hB b hb).1] at e; injection e
  have G : ∀ b, b ∉ B → (g0.prot B s).G b = g0.G b := fun b hb => if_neg hb
  refine ⟨y.ok, ⟨y.mv.eq, y.mv.up, y.mv.sub, fun b o e => ?_, fun b o e => ?_, y.mv.tk⟩, ?_, fun z c e => ?_, y.inj, ?_⟩
  · by_cases hb : b ∈ B
    · rw [(hB b hb).2] at e; injection e
    · rw [G b hb]; exact y.mv.new b o e
  · by_cases hb : b ∈ B
    · have : (g0.prot B s).G b = s.heap.get? b := if_pos hb
      rw [this] at e; exact e
    · rw [G b hb] at e; exact y.mv.kp b o e
  · (refine xEA x.ok.loc fun _ qq0 _ => ?_; refine xEEEA qq0 ?_; clear qq0; intro o _ _ ho _)
    rw [G _ (out _ _ ho)]; exact x.ln
  · refine xAEEA (x.ok.fc z c e) fun _ v o ho _ => ?_
    rw [G _ (out _ _ ho)]; exact x.cn z c e
  · refine xE x.own fun ad w => ?_
    refine xE y.own fun ad' w' => ?_
    exact ⟨ad, fun z ov e => (w.look z ov e).keeps m.kp, fun z ov e => by
      refine xEEEA ((w.obj z ov e).seq) fun o _ _ ho _ => ?_
      exact m.new_none ho (w.fz z ov e), fun z ov e => by
      refine xEEEA ((w.obj z ov e).seq) fun o _ _ ho _ => ?_
      rw [G _ (out _ _ ho)]; exact w.new z ov e, fun z ov e => by
      have q := (w.obj z ov e).keeps m.up m.kp
      have q0 := w.obj z ov e
      cases ov with
      | lst l => exact q
      | acc C l =>
        (refine xEEEEAA q0 ?_; clear q0; intro xs n dx sl e1 r qr0; refine xAA qr0 ?_; clear qr0; intro ne nG qr1; refine xEA qr1 ?_; clear qr1; intro m' hm' mm)
        refine ⟨xs, n, dx, sl, m.kp _ _ e1, r.mono m.up, ne, ?_, m', hm'.keeps m.kp, mm⟩
        (refine xEEEA hm' ?_; clear hm'; intro o _ _ ho _)
        rw [G _ (out _ _ ho)]; exact nG, w.inj⟩

theorem Mg.unprot {g0 : Gd} {Fg F : Fz} {s s₁ : Shared} {B : List Addr} (x : Mg Fg (g0.prot B s₁) F s) (hB : ∀ b ∈ B, g0.G b = none) : Mg Fg g0 F s := by
  have G : ∀ b, b ∉ B → (g0.prot B s₁).G b = g0.G b := fun b hb => if_neg hb
  refine ⟨x.eq, x.up, x.sub, fun b o e => ?_, fun b o e => ?_, x.tk⟩
  · by_cases hb : b ∈ B
    · exact .inr (hB b hb)
    · rw [← G b hb]; exact x.new b o e
  · by_cases hb : b ∈ B
    · rw [hB b hb] at e; injection e
    · exact x.kp b o (by rw [G b hb]; exact e)
theorem Fs.unprot {g0 : Gd} {Fg F : Fz} {s s₁ : Shared} {B : List Addr} (x : Fs g defs (g0.prot B s₁) Fg env ρ ω F s) (hB : ∀ b ∈ B, g0.G b = none) : Fs g defs g0 Fg env ρ ω F s := by
  have G : ∀ b, (g0.prot B s₁).G b = none → g0.G b = none := fun b e => by
    by_cases hb : b ∈ B
    · exact hB b hb
    · have : (g0.prot B s₁).G b = g0.G b := if_neg hb
      rw [← this]; exact e
  refine xE x.own fun ad w => ?_
  refine ⟨x.ok, x.mv.unprot hB, G _ x.ln, fun z c e => G _ (x.cn z c e), x.inj, ad, w.look, w.fz, fun z ov e => G _ (w.new z ov e), fun z ov e => ?_, w.inj⟩
  have q := w.obj z ov e
  cases ov with
  | lst l => exact q
  | acc C l =>
    (refine xEEEEAA q ?_; clear q; intro xs n dx sl e1 r qr2; refine xAA qr2 ?_; clear qr2; intro ne nG qr3; refine xEA qr3 ?_; clear qr3; intro m' hm' mm)
    exact ⟨xs, n, dx, sl, e1, r, ne, G _ nG, m', hm', mm⟩

/-- the protected turn: from state to state -/
theorem Fs.touch {g0 : Gd} {Fg F : Fz} {s s₁ : Shared} {B W : List Addr} {h' : Heap} {t : Nat} (x : Fs g defs (g0.prot B s₁) Fg env ρ ω F s) (hal : ∀ b ∈ B, ∃ o, s₁.heap.get? b = some o) (hW : ∀ b ∈ W, b ∈ B) (hF : ∀ b ∈ B, F b = none)
    (kb : ∀ b o, b ∉ W → s.heap.get? b = some o → h'.get? b = some o) (ht : s.toks ≤ t) : Fs g defs (g0.prot B { s with heap := h', toks := t }) Fg env ρ ω F { s with heap := h', toks := t } := by
  have Gs : ∀ b ∈ B, (g0.prot B s₁).G b = s₁.heap.get? b := fun b hb => if_pos hb
  have G1 : ∀ b, b ∉ B → (g0.prot B s₁).G b = g0.G b := fun b hb => if_neg hb
  have G2 : ∀ b, b ∉ B → (g0.prot B { s with heap := h', toks := t }).G b = g0.G b := fun b hb => if_neg hb
  have out : ∀ b, (g0.prot B s₁).G b = none → b ∉ B := fun b e hb => by
    refine xE (hal b hb) fun o ho => ?_
    rw [Gs b hb, ho] at e; injection e
  have outW : ∀ b, (g0.prot B s₁).G b = none → b ∉ W := fun b e hb => out b e (hW b hb)
  have G3 : ∀ b, (g0.prot B s₁).G b = none → (g0.prot B { s with heap := h', toks := t }).G b = none := fun b e => by rw [G2 b (out b e), ← G1 b (out b e)]; exact e
  have hsub : Sub F h' := fun b o e => kb b o (fun hb => by rw [hF b (hW b hb)] at e; injection e) (x.ok.sub b o e)
  refine ⟨⟨⟨x.ok.pg, hsub, by have := x.ok.tk; show t ≠ 0; lia⟩, x.ok.kind, x.ok.gl, x.ok.bi, ?_, fun y V e k => ?_, x.ok.fl, fun y c e => ?_⟩, ?_, G3 _ x.ln, fun z c e => G3 _ (x.cn z c e), x.inj, ?_⟩
  · refine xEA x.ok.loc fun m hm hv => ?_
    exact ⟨m, hm.at' fun o e => kb _ o (outW _ x.ln) e, hv⟩
  · (refine xEEAA (x.ok.cel y V e k) fun c v h1 qq1 h3 => ?_; refine xEA qq1 ?_; clear qq1; intro o ho hd)
    exact ⟨c, v, h1, ⟨o, kb _ o (outW _ (x.cn y c h1)) ho, hd⟩, h3⟩
  · refine xAEEA (x.ok.fc y c e) fun h1 v o ho hd => ?_
    exact ⟨h1, v, o, kb _ o (outW _ (x.cn y c e)) ho, hd⟩
  · refine ⟨x.mv.eq, x.mv.up, hsub, fun b o e => ?_, fun b o e => ?_, Nat.le_trans x.mv.tk ht⟩
    · by_cases hb : b ∈ B
      · rw [hF b hb] at e; injection e
      · rw [G2 b hb, ← G1 b hb]; exact x.mv.new b o e
    · by_cases hb : b ∈ B
      · have : (g0.prot B { s with heap := h', toks := t }).G b = h'.get? b := if_pos hb
        rw [this] at e; exact e
      · rw [G2 b hb, ← G1 b hb] at e
        exact kb b o (fun h => hb (hW b h)) (x.mv.kp b o e)
  · refine xE x.own fun ad w => ?_
    refine ⟨ad, fun z ov e => ?_, w.fz, fun z ov e => G3 _ (w.new z ov e), fun z ov e => ?_, w.inj⟩
    · rcases w.look z ov e with ⟨a, m, hm, q⟩ | ⟨a, c, hc, o, ho, hd⟩
      · exact .inl ⟨a, m, hm.at' fun o e => kb _ o (outW _ x.ln) e, q⟩
      · exact .inr ⟨a, c, hc, o, kb _ o (outW _ (x.cn z c hc)) ho, hd⟩
    · have hz := outW _ (w.new z ov e)
      have hobj := w.obj z ov e
      cases ov with
      | lst l => (refine xEEA hobj ?_; clear hobj; intro xs n e1 r); exact ⟨xs, n, kb _ _ hz e1, r⟩
      | acc C l =>
        (refine xEEEEAA hobj ?_; clear hobj; intro xs n dx sl e1 r qr4; refine xAA qr4 ?_; clear qr4; intro ne nG qr5; refine xEA qr5 ?_; clear qr5; intro m hm mm)
        exact ⟨xs, n, dx, sl, kb _ _ hz e1, r, ne, G3 _ nG, m, hm.at' fun o e => kb _ o (outW _ nG) e, mm⟩

theorem Ex.assignComp {n : Str} {p spos : Pos} {elt target iter : Expr} {ifs : List Expr} {scope : Scope} {pos : Pos} {l out : List V} (hn : Names scope env target) (hρ : ∀ x ∈ scope.names, x.2 = .free → (ρ x.1).isSome = true)
    (hs : notSet iter = true) (hi : EvIt g defs d env ρ target iter l) (hl : l.length ≤ sizeLine) (ht : CompTurns g defs d env scope target elt ifs ρ l out)
    (hk : env.kindOf n = some .local ∨ (env.kindOf n = some .cell ∧ (env.cells.lookup n).isSome = true)) (hsw : swapsWith (.ListComp elt [⟨target, iter, ifs, 0⟩] scope pos) (some (.Name n p)) spos.line env = pure true) :
    Ex g defs d env ρ ω (.Assign [.Name n p] (.ListComp elt [⟨target, iter, ifs, 0⟩] scope pos) spos) (.nx (upd ρ n (.lst out)) (era ω n)) := fun A E g0 Fg F s rm y => by
  rw [exec_Assign_Name_used _ _ _ _ hsw]
  refine wpAny_bind (wpAny_standAt (wpAny_bind ?_))
  show wpAny _ A (do let _ ← comprehension (PySem.Expr.ListComp elt [⟨target, iter, ifs, 0⟩] scope pos) scope env _ (newList []) false (eval iter env) (some (PySem.assign (PySem.Expr.Name n p) env))) _ _ s
  refine wpAny_bind (wpAny_mono (wpAny_comprehension_free (use := some (PySem.assign (PySem.Expr.Name n p) env)) (Q := fun _ s' => OutOk g defs g0 Fg env (.nx (upd ρ n (.lst out)) (era ω n)) .next s') rfl (notSet_fold hs env) (y.ok.cells hn hρ) hn.kind hn.loc
    (wpAny_mono (hi A E F s rm y.ok) (fun xv s₁ h₁ => wpAny_mono h₁ (fun it s₂ h₂ => ?_) fun _ _ e => e) fun _ _ e => e)) (fun _ s' hq => wpAny_pure (wpAny_pure hq)) fun _ _ e => e)
  (refine xEA h₂ ?_; clear h₂; intro F₂ m₂ src)
  refine comp_block (RR := fun acc C => compPost (model g.prog g.w) A E (some (PySem.assign (PySem.Expr.Name n p) env)) (fun _ s' => OutOk g defs g0 Fg env (.nx (upd ρ n (.lst out)) (era ω n)) .next s') acc C) rm y.ok hρ hn m₂ src hl ht fun D C F' s' ce => ?_
  refine xE ce.ns fun m ns => ?_
  refine xEEA ce.ls fun ys k hD rd => ?_
  show wpAny _ A (PySem.assign (PySem.Expr.Name n p) env (.ref D)) _ _ _
  have mp := ce.mv.put ce.hD hD
  have fC : Mine.put F' D { cls := .type "list", data := .seq ys k } C = Option.none := by
    show (if C = D then _ else F' C) = _
    rw [if_neg (Ne.symm ce.ne)]; exact ce.fC
  have hB : ∀ b ∈ [C], s.heap.get? b = Option.none ∧ Mine.put F' D { cls := .type "list", data := .seq ys k } b = Option.none := fun b hb => by rw [List.mem_singleton.mp hb]; exact ⟨ce.hC, fC⟩
  have yp := y.prot mp hB
  (refine xEEEA ns ?_; clear ns; intro oC es ep hoC rest)
  refine wpAny_assign_Name (wpAny_mono (yp.store hk (.lst (put_self _ _ _) rfl rfl (rd.mono (put_le (.inl ce.fD))))) (fun _ s'' z => ?_) fun _ _ h => h)
  have hG : (g0.prot [C] s').G C = some oC := (if_pos (List.mem_singleton.mpr rfl) : (g0.prot [C] s').G C = s'.heap.get? C).trans hoC
  refine ⟨m, ⟨oC, es, ep, z.mv.kp _ _ hG, rest⟩, fun h' sb => ⟨rfl, _, Fs.unprot (z.touch (B := [C]) (W := [C]) (h' := h') (t := s''.toks) (fun b hb => ?_) (fun _ h => h) (fun b hb => ?_) (fun b o hb e => sb.extBut b o (fun h => hb (List.mem_singleton.mpr h)) e) (Nat.le_refl _)) fun b hb => ?_⟩⟩
  · rw [List.mem_singleton.mp hb]; exact ⟨oC, hoC⟩
  · rw [List.mem_singleton.mp hb]; exact fC
  · rw [List.mem_singleton.mp hb]
    cases q : g0.G C with
    | none => rfl
    | some o => have := y.mv.kp _ _ q; rw [ce.hC] at this; injection this

theorem Ex.assignTup {elts : List Expr} {k : Nat} {tp pos : Pos} {e : Expr} {x : V} {ρ' : Rho} (h : Ev g defs d env ρ e x) (hb : bindT (.Tuple elts k tp) x ρ = some ρ')
    (hk : ∀ n ∈ tgtNames (.Tuple elts k tp), (env.kindOf n = some .local ∨ (env.kindOf n = some .cell ∧ (env.cells.lookup n).isSome = true)) ∧ ω n = none)
    (hs : swapsWithSole [.Tuple elts k tp] e pos.line env = pure false) (hw : swappedStores [.Tuple elts k tp] e env = pure Option.none) : Ex g defs d env ρ ω (.Assign [.Tuple elts k tp] e pos) (.nx ρ' ω) := fun A E g0 Fg F s rm y => by
  refine PyProof.Rows.Assign_Tuple (wpAny_mono (h A E F s rm y.ok) (fun v s' hx => ?_) fun _ _ h => h) hs hw
  (refine xEA hx ?_; clear hx; intro F' m r)
  refine wpAny_mono (bind_tgt (I := fun r t => Fs g defs g0 Fg env r ω F' t) (okn := fun n => (env.kindOf n = some .local ∨ (env.kindOf n = some .cell ∧ (env.cells.lookup n).isSome = true)) ∧ ω n = none)
    (fun n v y r t E ok hI hr => wpAny_mono (hI.store ok.1 hr) (fun _ t' ht => ?_) fun _ _ h => h) (fun r t h' hI kk => hI.mv' (Mv.keep hI.ok.sub kk (Nat.le_refl _))) (fun r t hI => hI.ok.sub) rm.hd hk hb r (y.mv' m)) (fun _ t hI => ⟨rfl, F', hI⟩) fun _ _ h => h
  have : era ω n = ω := by
    funext z
    simp only [era]
    split
    · rename_i e; rw [e]; exact ok.2.symm
    · rfl
  rw [← this]; exact ht

theorem Fs.base {g0 : Gd} {Fg F : Fz} {s : Shared} (x : Fs g defs g0 Fg env ρ ω F s) : Fs g defs g0 F env ρ ω F s :=
  ⟨x.ok, ⟨x.mv.eq, Le.rfl, x.mv.sub, fun _ _ e => .inl e, x.mv.kp, x.mv.tk⟩, x.ln, x.cn, x.inj, x.own⟩
theorem Mg.rebase {g0 : Gd} {Fg F₀ F : Fz} {s₀ s : Shared} (a : Mg Fg g0 F₀ s₀) (b : Mg F₀ g0 F s) : Mg Fg g0 F s :=
  ⟨b.eq, a.up.trans b.up, b.sub, fun x o e => by
    rcases b.new x o e with h | h
    · exact a.new x o h
    · exact .inr h, b.kp, b.tk⟩
theorem Fs.rebase {g0 : Gd} {Fg F₀ F : Fz} {s₀ s : Shared} (a : Mg Fg g0 F₀ s₀) (x : Fs g defs g0 F₀ env ρ ω F s) : Fs g defs g0 Fg env ρ ω F s := ⟨x.ok, a.rebase x.mv, x.ln, x.cn, x.inj, x.own⟩

/-- a loop's turns -/
inductive ForT (g : Gl) (defs : List Fd) (d : Nat) (env : Env) (target : Expr) (body : List Stmt) : List V → Rho → Omg → Out → Prop
  | nil {ρ : Rho} {ω : Omg} : ForT g defs d env target body [] ρ ω (.nx ρ ω)
  | next {x : V} {l : List V} {ρ ρ1 ρ2 : Rho} {ω ω2 : Omg} {out : Out} : bindT target x ρ = some ρ1 → (∀ n ∈ tgtNames target, ω n = none) → Exs g defs d env ρ1 ω body (.nx ρ2 ω2) → ForT g defs d env target body l ρ2 ω2 out → ForT g defs d env target body (x :: l) ρ ω out
  | ret {x v : V} {l : List V} {ρ ρ1 : Rho} {ω : Omg} : bindT target x ρ = some ρ1 → (∀ n ∈ tgtNames target, ω n = none) → Exs g defs d env ρ1 ω body (.rt v) → ForT g defs d env target body (x :: l) ρ ω (.rt v)

theorem Ex.for {target iter : Expr} {body : List Stmt} {pos : Pos} {l : List V} {out : Out} (hs : notSet iter = true) (hi : EvIt g defs d env ρ target iter l)
    (hk : ∀ n ∈ tgtNames target, env.kindOf n = some .local ∨ (env.kindOf n = some .cell ∧ (env.cells.lookup n).isSome = true)) (ht : ForT g defs d env target body l ρ ω out) : Ex g defs d env ρ ω (.For target iter body [] pos) out := fun A E g0 Fg F s rm y => by
  refine wpAny_For (wpAny_mono (hi A E F s rm y.ok) (fun xv s₁ h₁ => wpAny_mono h₁ (fun it s₂ h₂ => ?_) fun _ _ e => e) fun _ _ e => e) (notSet_fold hs env)
  (refine xEA h₂ ?_; clear h₂; intro F₂ m₂ qr6; refine xEEEEEE qr6 ?_; clear qr6; intro I fp wr P Md St qr7; refine xAAAAAAAA qr7 ?_; clear qr7; intro qq2 W sf st₀ fplt hfp hwr alive hP; subst qq2)
  let B := fp.filter fun b => (F₂ b).isNone
  have mB : ∀ b, b ∈ B ↔ b ∈ fp ∧ F₂ b = Option.none := fun b => by simp [B, List.mem_filter, Option.isNone_iff_eq_none]
  have newB : ∀ b ∈ B, s.heap.get? b = Option.none := fun b hb => by
    refine xA ((mB b).mp hb) fun h1 h2 => ?_
    rcases hfp b h1 with ⟨a, _⟩ | ⟨o, e⟩
    · exact a
    · rw [h2] at e; injection e
  have g0B : ∀ b ∈ B, g0.G b = Option.none := fun b hb => by
    cases q : g0.G b with
    | none => rfl
    | some o => have := y.mv.kp _ _ q; rw [newB b hb] at this; injection this
  have wB : ∀ b ∈ wr, b ∈ B := fun b hb => (mB b).mpr ⟨W.sub b hb, (hwr b hb).2⟩
  have base := y.mv.trans m₂
  let J : Nat → Shared → Prop := fun k s' => ∃ F' i ρ' ω', k = l.length + 1 - i ∧ i ≤ l.length ∧ Fs g defs (g0.prot B s') F₂ env ρ' ω' F' s' ∧ St i s'.heap ∧ ForT g defs d env target body (l.drop i) ρ' ω' out
  refine codeAny_forLoop_any J ?_ (l.length + 1) ⟨F₂, 0, ρ, ω, rfl, Nat.zero_le _, (y.prot m₂ fun b hb => ⟨newB b hb, ((mB b).mp hb).2⟩).base, st₀, by simpa using ht⟩
  intro k s' hh; refine xEEEE hh ?_; clear hh; intro F' i ρ' ω' hh; refine xAAAA hh ?_; clear hh; intro e0 hi fs st tn; subst e0
  have le : Le F₂ F' := fs.mv.up
  have alB : ∀ {j : Nat} {t : Shared}, St j t.heap → ∀ b ∈ B, ∃ o, t.heap.get? b = some o := fun st b hb => alive _ _ st b ((mB b).mp hb).1
  -- what stands of the footprint stays, where the protected objects are kept
  have frame : ∀ {j : Nat} {t t' : Shared} {ρ'' : Rho} {ω'' : Omg} {F'' : Fz}, St j t.heap → Sub F₂ t.heap → Fs g defs (g0.prot B t) F₂ env ρ'' ω'' F'' t' → St j t'.heap := fun {j t t' ρ'' ω'' F''} st sb f => by
    refine W.frame _ _ _ st fun b hb o e => ?_
    rcases hfp b hb with ⟨_, h2⟩ | ⟨o', e'⟩
    · have hb' : b ∈ B := (mB b).mpr ⟨hb, h2⟩
      exact f.mv.kp b o ((if_pos hb' : (g0.prot B t).G b = t.heap.get? b).trans e)
    · have q := sb _ _ e'
      rw [e] at q; (injection q with q; subst q)
      exact f.ok.sub _ _ (f.mv.up _ _ e')
  have fzB : ∀ {j : Nat} {t t' : Shared} {ρ'' : Rho} {ω'' : Omg} {F'' : Fz}, St j t.heap → Fs g defs (g0.prot B t) F₂ env ρ'' ω'' F'' t' → ∀ b ∈ B, F'' b = Option.none := fun {j t t' ρ'' ω'' F''} st f b hb => by
    cases q : F'' b with
    | none => rfl
    | some o =>
      rcases f.mv.new b o q with h | h
      · rw [((mB b).mp hb).2] at h; injection h
      · refine xE (alB st b hb) fun o' e => ?_
        have h' : t.heap.get? b = Option.none := (if_pos hb : (g0.prot B t).G b = t.heap.get? b).symm.trans h
        rw [e] at h'; injection h'
  have fB := fzB st fs
  by_cases hlt : i < l.length
  · have hdrop : l.drop i = l[i] :: l.drop (i + 1) := List.drop_eq_getElem_cons hlt
    rw [hdrop] at tn
    refine upT (W.item i s' _ _ hlt st fun v hA tkA hMd hkA htA => ?_)
    refine W.go i v _ _ _ hMd fun hB hPv stB hkB => ?_
    refine xEA (hP i v hB hPv) fun x' hx' rx => ?_
    rw [List.getElem?_eq_getElem hlt] at hx'
    (injection hx' with hx'; subst hx')
    have fsB : Fs g defs (g0.prot B { s' with heap := hB, toks := tkA }) F₂ env ρ' ω' F' { s' with heap := hB, toks := tkA } :=
      fs.touch (alB st) wB fB (h' := hB) (t := tkA) (fun b o hb e => hkB b o hb (hkA b o hb e)) htA
    have rx' := rx.mono le
    have main : ∀ (x : V) (l' : List V), ItRd target F' hB v x → ForT g defs d env target body (x :: l') ρ' ω' out → l' = l.drop (i + 1) → ∀ (R : Flow → Shared → Prop) (E' : Value → Shared → Prop),
        (∀ t, (∃ m, m < l.length + 1 - i ∧ J m t) → R .next t) → (∀ u t, OutOk g defs g0 Fg env out (.ret u) t → R (.ret u) t) →
        wpAny (model g.prog g.w) A (PySem.assign target env v) (fun _ s₂ => wpAny (model g.prog g.w) A (execs body env) R E' s₂) E' { s' with heap := hB, toks := tkA } := by
      intro x l' rx tn hl' R E' hR1 hR2
      have start : ∀ ρ1, bindT target x ρ' = some ρ1 → (∀ n ∈ tgtNames target, ω' n = none) → wpAny (model g.prog g.w) A (PySem.assign target env v) (fun _ t => Fs g defs (g0.prot B { s' with heap := hB, toks := tkA }) F₂ env ρ1 ω' F' t) E' { s' with heap := hB, toks := tkA } := fun ρ1 hb hw =>
        bind_it (I := fun r t => Fs g defs (g0.prot B { s' with heap := hB, toks := tkA }) F₂ env r ω' F' t) (okn := fun n => (env.kindOf n = some .local ∨ (env.kindOf n = some .cell ∧ (env.cells.lookup n).isSome = true)) ∧ ω' n = none)
          (fun n v y r t E ok hI hr => wpAny_mono (hI.store ok.1 hr) (fun _ t' ht => by
            have : era ω' n = ω' := by
              funext z
              simp only [era]
              split
              · rename_i e; rw [e]; exact ok.2.symm
              · rfl
            rw [← this]; exact ht) fun _ _ h => h) (fun r t h' hI kk => hI.mv' (Mv.keep hI.ok.sub kk (Nat.le_refl _))) (fun r t hI => hI.ok.sub) rm.hd (fun n hn => ⟨hk n hn, hw n hn⟩) hb rx fsB
      cases tn with
      | @next _ _ _ ρ1 ρ2 _ ω2 _ hb hw hx tn =>
        refine wpAny_mono (start ρ1 hb hw) (fun _ t ft => ?_) fun _ _ h => h
        refine wpAny_mono (hx A E' _ F₂ F' t rm ft) (fun fl t' ht => ?_) fun _ _ h => h
        (refine xAE ht ?_; clear ht; intro qq3 F'' f''; subst qq3)
        have st' : St (i + 1) t'.heap := frame (t := { s' with heap := hB, toks := tkA }) stB (fun b o e => fsB.ok.sub _ _ (le _ _ e)) f''
        have fB'' := fzB (t := { s' with heap := hB, toks := tkA }) stB f''
        have f3 := f''.touch (W := []) (h' := t'.heap) (t := t'.toks) (alB (t := { s' with heap := hB, toks := tkA }) stB) (fun b hb => nM hb) fB'' (fun b o _ e => e) (Nat.le_refl _)
        exact hR1 t' ⟨l.length + 1 - (i + 1), by lia, F'', i + 1, ρ2, ω2, rfl, hlt, f3, st', hl' ▸ tn⟩
      | @ret _ u _ _ ρ1 _ hb hw hx =>
        refine wpAny_mono (start ρ1 hb hw) (fun _ t ft => ?_) fun _ _ h => h
        refine wpAny_mono (hx A E' _ F₂ F' t rm ft) (fun fl t' ht => ?_) fun _ _ h => h
        (refine xEEAA ht ?_; clear ht; intro u' F'' qq4 mg r; subst qq4)
        exact hR2 _ _ ⟨u', F'', rfl, base.rebase (mg.unprot g0B), r⟩
    refine wpAny_mono (main l[i] (l.drop (i + 1)) rx' tn rfl (fun fl t => match fl with
            | .next => ∃ m, m < l.length + 1 - i ∧ J m t
            | .ret u => OutOk g defs g0 Fg env out (.ret u) t
            | _ => False) _ (fun t h => h) (fun u t h => h)) (fun _ t h => wpAny_mono h (fun fl t' h' => ?_) fun _ _ h => h) fun _ _ h => h
    cases fl with
    | next => exact h'
    | ret u => exact h'
    | brk => exact h'.elim
    | cont => exact h'.elim
  · have hin : i = l.length := by lia
    subst hin
    refine upT (W.done s' _ _ st fun hA tkA hkA htA => wpAny_execs_nil ?_)
    have e : l.drop l.length = [] := List.drop_length
    rw [e] at tn
    cases tn
    have fsA := fs.touch (alB st) wB fB (h' := hA) (t := tkA) (fun b o hb e => hkA b o hb e) htA
    exact ⟨rfl, F', (fsA.unprot g0B).rebase base⟩
end
end Mine

namespace Mine
open PySem PyProof.Rows PySem.W PySem.SeqAt

section
variable {g : Gl} {defs : List Fd} {d : Nat} {env : Env} {ρ : Rho} {ω : Omg}

theorem Is.name {x : Str} {p : Pos} {i : Int} (h : Ev g defs d env ρ (.Name x p) (.int i)) : Is g defs d env ρ (.Name x p) (i != 0) := fun A E F s rm ok => by
  refine isTrue_plain (wpAny_mono (h A E F s rm ok) (fun v s₁ h₁ => ?_) fun _ _ h => h)
  (refine xEA h₁ ?_; clear h₁; intro F₁ m₁ r₁)
  (first | refine Rd.ie r₁ fun _ => ?_ | refine Rd.se r₁ fun _ => ?_ | refine Rd.fe r₁ fun _ _ => ?_ | refine Rd.be r₁ fun _ => ?_ | refine Rd.ne r₁ ?_ | refine RdL.nile r₁ ?_ | cases r₁)
  exact P.truthy_int ⟨rfl, F₁, m₁⟩

/-- a while's turns -/
inductive WhT (g : Gl) (defs : List Fd) (d : Nat) (env : Env) (test : Expr) (body : List Stmt) : Nat → Rho → Omg → Out → Prop
  | stop {n : Nat} {ρ : Rho} {ω : Omg} : Is g defs d env ρ test false → WhT g defs d env test body n ρ ω (.nx ρ ω)
  | step {n : Nat} {ρ ρ1 : Rho} {ω ω1 : Omg} {out : Out} : Is g defs d env ρ test true → Exs g defs d env ρ ω body (.nx ρ1 ω1) → WhT g defs d env test body n ρ1 ω1 out → WhT g defs d env test body (n + 1) ρ ω out

theorem Ex.while {test : Expr} {body : List Stmt} {pos : Pos} {n : Nat} {out : Out} (h : WhT g defs d env test body n ρ ω out) : Ex g defs d env ρ ω (.While test body [] pos) out := fun A E g0 Fg F s rm y => by
  refine wpAny_While (codeAny_whileLoop (fun k s' => ∃ F ρ ω, Fs g defs g0 Fg env ρ ω F s' ∧ WhT g defs d env test body k ρ ω out) ?_ n ⟨F, ρ, ω, y, h⟩)
  intro k s' hh; refine xEEEA hh ?_; clear hh; intro F' ρ' ω' fs t
  cases t with
  | stop hb =>
    refine wpAny_mono (hb A _ F' s' rm fs.ok) (fun b s₁ h₁ => ?_) fun _ _ h => h
    (refine xAE h₁ ?_; clear h₁; intro qq0 F₁ m₁; subst qq0)
    rw [if_neg Bool.false_ne_true]
    exact wpAny_execs_nil ⟨rfl, F₁, fs.mv' m₁⟩
  | @step n' _ ρ1 _ ω1 _ hb hx t =>
    refine wpAny_mono (hb A _ F' s' rm fs.ok) (fun b s₁ h₁ => ?_) fun _ _ h => h
    (refine xAE h₁ ?_; clear h₁; intro qq1 F₁ m₁; subst qq1)
    rw [if_pos rfl]
    refine wpAny_mono (hx A _ g0 Fg F₁ s₁ rm (fs.mv' m₁)) (fun fl s₂ h₂ => ?_) fun _ _ h => h
    (refine xAE h₂ ?_; clear h₂; intro qq2 F₂ f₂; subst qq2)
    exact ⟨n', Nat.lt_succ_self _, F₂, ρ1, ω1, f₂, t⟩

/-- a callee that is no object, with what comes ahead of its arguments -/
theorem callWith_first {f : Value} (hf : ∀ a, f ≠ .ref a) {first : List Value} {pos : Pos} {es : List Expr} {xs : List V} {A : Around} {E : Value → Shared → Prop} {F : Fz} {s : Shared} {Q : Value → Shared → Prop} (h : EvL g defs d env ρ es xs) (rm : Room d A) (ok : Ok g defs F env ρ s)
    (hQ : ∀ vs s' F', Mv F s F' s' → RdL F' vs xs → wpAny (model g.prog g.w) A (call f (first ++ vs)) Q E s') : wpAny (model g.prog g.w) A (callWith pos f first (backTo pos (starEach es env)) []) Q E s := by
  unfold callWith
  refine wpAny_bind (wpAny_holding (evalArgs_all h rm ok fun vs s₁ F₁ m r => wpAny_bind (wpAny_standAt ?_)))
  simp only [plain_each es pos h.stars, List.any_nil, Bool.or_false]
  have hk : keeperOf f = pure .machine := by
    cases f <;> first | rfl | exact absurd rfl (hf _)
  rw [hk]
  refine wpAny_bind (wpAny_pure ?_)
  exact wpAny_bind (wpAny_mono (hQ vs s₁ F₁ m r) (fun r s₂ hr => wpAny_bind (wpAny_holding (wpAny_point (wpAny_pure hr)))) fun _ _ x => x)

noncomputable def notBare : Expr → Bool
  | .Call (.Name _ _) [] [] _ => false
  | _ => true
theorem notBare_base {o : Expr} (h : notBare o = true) (name : Str) (env : Env) (whole : Sem Value) : attributeBase o name env whole = whole := by
  unfold attributeBase
  split
  · cases h
  · rfl

theorem few_of {args : List Expr} {pos : Pos} {env : Env} (hst : args.any isStar = false) (hn : args.length < 30) : methodCallForm (args.length + ([] : List Keyword).length) (backTo pos (starEach args env)) (backToKw pos (keywordEach [] env)) = true := by
  unfold methodCallForm
  have h1 : (backTo pos (starEach args env)).all (fun x => !x.1) = true := by
    rw [List.all_eq_not_any_not]
    simp only [Bool.not_not]
    rw [plain_each args pos hst]; rfl
  rw [h1]
  have h2 : args.length + ([] : List Keyword).length + (if (backToKw pos (keywordEach [] env)).isEmpty then 0 else 1) < 30 := by
    show args.length + 0 + 0 < 30
    lia
  show (true && true && decide _) = true
  rw [decide_eq_true h2]; rfl

/-- a method of a built-in object, found and called -/
theorem Call_method {o : Expr} {name : Str} {apos pos : Pos} {args : List Expr} {A : Around} {E : Value → Shared → Prop} {s : Shared} {Q : Value → Shared → Prop} {M : Model} (hb : notBare o = true) (hl : (apos.endLine == pos.line) = true) (hst : args.any isStar = false) (hn : args.length < 30)
    (h : wpAny M A (eval o env) (fun ov s₁ => wpAny M A (getMethod ov name (do return (← importBound o env).getD true)) (fun fx s₂ => wpAny M A (callWith pos fx.1 fx.2 (backTo pos (starEach args env)) []) Q E s₂) E s₁) E s) :
    wpAny M A (eval (.Call (.Attribute o name apos) args [] pos) env) Q E s := by
  rw [arm_eval_Call, notBare_base hb]
  refine wpAny_bind (wpAny_mono h (fun ov s₁ h₁ => wpAny_bind (wpAny_standAt ?_)) fun _ _ e => e)
  unfold methodCall
  rw [few_of hst hn]
  refine wpAny_bind (wpAny_holding (wpAny_mono h₁ (fun fx s₂ h₂ => ?_) fun _ _ e => e))
  have hpos : methodCallPos true o env apos pos = pure pos := by unfold methodCallPos; simp [hl]
  exact wpAny_bind (wpAny_of_eq hpos h₂)

/-- the method that a plain value has -/
noncomputable def Mth (x : V) (name : Str) (id : String) : Prop := ∀ (M : Model) (A : Around) (E : Value → Shared → Prop) (F : Fz) (s : Shared) (v : Value) (pl : Sem Bool) (Q : Value × List Value → Shared → Prop), Sub F s.heap → Rd F v x → Q (Value.builtin id, [v]) s → wpAny M A (getMethod v name pl) Q E s

theorem Ev.mcall {o : Expr} {name : Str} {apos pos : Pos} {es : List Expr} {xs : List V} {x y : V} {id : String} (hb : notBare o = true) (hl : (apos.endLine == pos.line) = true) (hn : es.length < 30) (ho : Ev g defs d env ρ o x) (h : EvL g defs d env ρ es xs)
    (hm : Mth x name id) (t : Tr g defs d (x :: xs) (fun vs => PySem.call (.builtin id) vs) y) : Ev g defs d env ρ (.Call (.Attribute o name apos) es [] pos) y := fun A E F s rm ok => by
  refine Call_method hb hl h.stars hn (wpAny_mono (ho A E F s rm ok) (fun v s₁ h₁ => ?_) fun _ _ h => h)
  (refine xEA h₁ ?_; clear h₁; intro F₁ m₁ r₁)
  refine hm _ A E F₁ s₁ v _ _ m₁.sub r₁ ?_
  refine callWith_first (by intro a; nofun) h rm (ok.mv m₁) fun vs s₂ F₂ m₂ r₂ => ?_
  exact res_mono (m₁.trans m₂) (t A E F₂ s₂ (v :: vs) rm ((ok.mv m₁).mv m₂).toBs (.cons (r₁.mono m₂.up) r₂))

/-- the name looks to its own object -/
theorem look_name {x : Str} {pos : Pos} {v : Value} {A : Around} {E : Value → Shared → Prop} {s : Shared} {Q : Value → Shared → Prop} {M : Model} (hk : env.scope.kind = .function) (l : Look env s.heap x v) (h : Q v s) (hd : (x == ("__debug__" : Str)) = false) :
    wpAny M A (eval (.Name x pos) env) Q E s := by
  rcases l with ⟨k, m, hm, e⟩ | ⟨k, c, hc, e⟩
  · exact wpAny_Name (wpAny_loadName_local hk k hm e h) hd
  · exact wpAny_Name (wpAny_loadName_cell hk k hc e h) hd

/-- a change of one own object -/
theorem Fs.ownChange {g0 : Gd} {Fg F : Fz} {s : Shared} {n : Str} {ad : Str → Addr} {ov ov' : OwnV} {h' : Heap} {t : Nat} (x : Fs g defs g0 Fg env ρ ω F s) (W : OwnOk F g0 env ω s.heap ad) (hn : ω n = some ov) (hs : Heap.SameBut (ad n) s.heap h') (ht : s.toks ≤ t)
    (ho : OwnObj env.locals g0.G F h' (ad n) ov') : Fs g defs g0 Fg env ρ (ownTo ω n ov') F { s with heap := h', toks := t } := by
  refine xEEEA ((W.obj n ov hn).seq) fun o xs k e hd => ?_
  refine x.change e ⟨xs, k, hd⟩ (W.fz n ov hn) (W.new n ov hn) hs ht ⟨ad, fun z oz ez => ?_, fun z oz ez => ?_, fun z oz ez => ?_, fun z oz ez => ?_, fun z z' oz oz' ez ez' h => ?_⟩
  · have hz : ∃ oz', ω z = some oz' := by
      by_cases q : z = n
      · exact ⟨ov, q ▸ hn⟩
      · simp only [ownTo, if_neg q] at ez; exact ⟨oz, ez⟩
    (refine xE hz ?_; clear hz; intro oz' hz)
    refine (W.look z oz' hz).same hs ?_ fun c hc _ => ?_
    · rintro q
      (refine xEA x.ok.loc fun m qq3 _ => ?_; refine xEEEAA qq3 ?_; clear qq3; intro o' es ep ho' hd' _)
      rw [← q, e] at ho'; (injection ho' with ho'; subst ho')
      rw [hd] at hd'; injection hd'
    · rintro rfl
      refine xAEEA (x.ok.fc z _ hc) fun _ v o' ho' hd' => ?_
      rw [e] at ho'; (injection ho' with ho'; subst ho')
      rw [hd] at hd'; injection hd'
  · by_cases q : z = n
    · rw [q]; exact W.fz n ov hn
    · simp only [ownTo, if_neg q] at ez; exact W.fz z oz ez
  · by_cases q : z = n
    · rw [q]; exact W.new n ov hn
    · simp only [ownTo, if_neg q] at ez; exact W.new z oz ez
  · by_cases q : z = n
    · subst q
      simp only [ownTo, if_pos] at ez; (injection ez with ez; subst ez)
      exact ho
    · simp only [ownTo, if_neg q] at ez
      exact (W.obj z oz ez).same hs (fun h => q (W.inj z n oz ov ez hn h)) (.inr ⟨o, e, not_dict_of_seq hd⟩)
  · have f : ∀ z oz, ownTo ω n ov' z = some oz → ∃ oz', ω z = some oz' := fun z oz ez => by
      by_cases q : z = n
      · exact ⟨ov, q ▸ hn⟩
      · simp only [ownTo, if_neg q] at ez; exact ⟨oz, ez⟩
    refine xE (f z oz ez) fun _ hz => ?_
    refine xE (f z' oz' ez') fun _ hz' => ?_
    exact W.inj z z' _ _ hz hz' h

theorem Ex.append {n : Str} {p1 p2 p3 pos : Pos} {e : Expr} {x : V} {l : List V} (hω : ω n = some (.lst l)) (h : Ev g defs d env ρ e x) (he : isStar e = false) (hlen : l.length ≤ 1000)
    (hd : (n == ("__debug__" : Str)) = false) (hl : (p2.endLine == p3.line) = true) (hi : interactive env = false) :
    Ex g defs d env ρ ω (.Expr (.Call (.Attribute (.Name n p1) "append" p2) [e] [] p3) pos) (.nx ρ (ownTo ω n (.lst (l ++ [x])))) := fun A E g0 Fg F s rm y => by
  refine wpAny_Expr_any (Call_method rfl hl (by rw [List.any_cons, he]; rfl) (by show 1 < 30; decide) ?_) hi rfl
  refine xE y.own fun ad W => ?_
  refine look_name y.ok.kind (W.look n _ hω) ?_ hd
  refine xEEA (W.obj n _ hω) fun xs k e1 r1 => ?_
  refine Calls.getMethod_list_append e1 rfl rfl ?_
  refine callWith_first (by intro a; nofun) (.cons he h .nil) rm y.ok fun vs s₂ F₂ m₂ r₂ => ?_
  refine RdL.conse r₂ fun _ _ rx r₂ => ?_
  · (first | refine Rd.ie r₂ fun _ => ?_ | refine Rd.se r₂ fun _ => ?_ | refine Rd.fe r₂ fun _ _ => ?_ | refine Rd.be r₂ fun _ => ?_ | refine Rd.ne r₂ ?_ | refine RdL.nile r₂ ?_ | cases r₂)
    have y₂ := y.mv' m₂
    have W₂ : OwnOk F₂ g0 env ω s₂.heap ad := ⟨fun z ov e => (W.look z ov e).keeps m₂.kp, fun z ov e => by
      refine xEEEA ((W.obj z ov e).seq) fun o _ _ ho _ => ?_
      exact m₂.new_none ho (W.fz z ov e), W.new, fun z ov e => (W.obj z ov e).keeps m₂.up m₂.kp, W.inj⟩
    refine append_at (hsz := ?_) (m₂.kp _ _ e1) fun h' hs' hD' => ⟨rfl, F₂, y₂.ownChange W₂ hω hs' (Nat.le_refl _) (ov' := .lst (l ++ [x])) ⟨_, _, hD', ?_⟩⟩
    · rw [Array.toList_push]
      exact RdL.snoc (r1.mono m₂.up) rx
    · have := r1.length
      simp only [Array.length_toList] at this
      rw [this, sizeLine]; lia

theorem Ns.det {h : Heap} {a : Addr} {m m' : Str → Option Value} (x : h.Ns a m) (y : h.Ns a m') : m = m' := by
  (refine xEEEAAA x ?_; clear x; intro o1 es1 ep1 g1 d1 _ f1)
  (refine xEEEAAA y ?_; clear y; intro o2 es2 ep2 g2 d2 _ f2)
  rw [g1] at g2; (injection g2 with g2; subst g2)
  rw [d1] at d2; (injection d2 with d2z0 d2z1; subst d2z0; subst d2z1)
  funext q; rw [← f1, ← f2]

/-- more is frozen: nothing that the frame still turns -/
theorem Fs.freezeTo {g0 : Gd} {Fg F F' : Fz} {s : Shared} {n : Str} {ad : Str → Addr} {x : V} (y : Fs g defs g0 Fg env ρ ω F s) (W : OwnOk F g0 env ω s.heap ad) (le : Le F F') (sub : Sub F' s.heap) (nw : ∀ b o, F' b = some o → F b = some o ∨ g0.G b = none)
    (hloc : F' env.locals = none) (hcell : ∀ z c, env.cells.lookup z = some c → F' c = none) (hown : ∀ z ov, z ≠ n → ω z = some ov → F' (ad z) = none) (lk : Look env s.heap n (.ref (ad n))) (rd : Rd F' (.ref (ad n)) x) :
    Fs g defs g0 Fg env (upd ρ n x) (era ω n) F' s := by
  have er : ∀ z ov, era ω n z = some ov → z ≠ n ∧ ω z = some ov := fun z ov e => by
    simp only [era] at e
    by_cases hzn : z = n
    · rw [if_pos hzn] at e; injection e
    · rw [if_neg hzn] at e; exact ⟨hzn, e⟩
  refine ⟨⟨⟨y.ok.pg.mono le, sub, y.ok.tk⟩, y.ok.kind, y.ok.gl, y.ok.bi, ?_, fun z Z e k => ?_, hloc, fun z c e => ⟨hcell z c e, (y.ok.fc z c e).2⟩⟩, ⟨y.mv.eq, y.mv.up.trans le, sub, fun b o e => ?_, y.mv.kp, y.mv.tk⟩, y.ln, y.cn, y.inj, ad, fun z ov e => W.look z ov (er z ov e).2, fun z ov e => hown z ov (er z ov e).1 (er z ov e).2, fun z ov e => W.new z ov (er z ov e).2, fun z ov e => (W.obj z ov (er z ov e).2).keeps le fun _ _ e => e, fun z z' ov ov' e e' => W.inj z z' ov ov' (er z ov e).2 (er z' ov' e').2⟩
  · refine xEA y.ok.loc fun m hm hv => ?_
    refine ⟨m, hm, fun z Z e k => ?_⟩
    simp only [upd] at e
    by_cases hzn : z = n
    · rw [if_pos hzn] at e; (injection e with e; subst e)
      subst hzn
      rcases lk with ⟨_, m', hm', em⟩ | ⟨k', _⟩
      · rw [Ns.det hm hm']; exact ⟨_, em, rd⟩
      · rw [k] at k'; (injection k' with k'; injection k')
    · rw [if_neg hzn] at e
      refine xEA (hv z Z e k) fun v e1 e2 => ?_
      exact ⟨v, e1, e2.mono le⟩
  · simp only [upd] at e
    by_cases hzn : z = n
    · rw [if_pos hzn] at e; (injection e with e; subst e)
      subst hzn
      rcases lk with ⟨k', _⟩ | ⟨_, c, hc, ic⟩
      · rw [k'] at k; rcases k with k | k <;> (injection k with k; injection k)
      · exact ⟨c, _, hc, ic, rd⟩
    · rw [if_neg hzn] at e
      refine xEEAA (y.ok.cel z Z e k) fun c v e1 e2 e3 => ?_
      exact ⟨c, v, e1, e2, e3.mono le⟩
  · rcases nw b o e with h | h
    · exact y.mv.new b o h
    · exact .inr h

theorem Fs.freeze {g0 : Gd} {Fg F : Fz} {s : Shared} {n : Str} {l : List V} (y : Fs g defs g0 Fg env ρ ω F s) (hω : ω n = some (.lst l)) : ∃ F', Le F F' ∧ Fs g defs g0 Fg env (upd ρ n (.lst l)) (era ω n) F' s := by
  refine xE y.own fun ad W => ?_
  refine xEEA (W.obj n _ hω) fun xs k e1 r1 => ?_
  have hF := W.fz n _ hω
  have le := put_le (F := F) (a := ad n) (o := { cls := .type "list", data := .seq xs k }) (.inl hF)
  have at_ : ∀ b, b ≠ ad n → Mine.put F (ad n) { cls := .type "list", data := .seq xs k } b = F b := fun b hb => if_neg hb
  refine ⟨_, le, y.freezeTo W le (fun b o e => ?_) (fun b o e => ?_) ?_ (fun z c e => ?_) (fun z ov hz e => ?_) (W.look n _ hω) (.lst (put_self _ _ _) rfl rfl (r1.mono le))⟩
  · by_cases hb : b = ad n
    · subst hb; simp only [Mine.put, if_pos] at e; (injection e with e; subst e); exact e1
    · rw [at_ b hb] at e; exact y.ok.sub b o e
  · by_cases hb : b = ad n
    · rw [hb]; exact .inr (W.new n _ hω)
    · rw [at_ b hb] at e; exact .inl e
  · rw [at_ _ ?_]
    · exact y.ok.fl
    · intro q
      (refine xEA y.ok.loc fun m qq4 _ => ?_; refine xEEEAA qq4 ?_; clear qq4; intro o' es ep ho' hd' _)
      rw [q, e1] at ho'; (injection ho' with ho'; subst ho'); injection hd'
  · rw [at_ _ ?_]
    · exact (y.ok.fc z c e).1
    · intro q
      refine xAEEA (y.ok.fc z c e) fun _ v o' ho' hd' => ?_
      rw [q, e1] at ho'; (injection ho' with ho'; subst ho'); injection hd'
  · rw [at_ _ fun q => hz (W.inj z n _ _ e hω q)]; exact W.fz z ov e

theorem Exs.freeze {n : Str} {l : List V} {rest : List Stmt} {o : Out} (hω : ω n = some (.lst l)) (h : Exs g defs d env (upd ρ n (.lst l)) (era ω n) rest o) : Exs g defs d env ρ ω rest o := fun A E g0 Fg F s rm y => by
  refine xEA (y.freeze hω) fun F' le y' => ?_
  exact h A E g0 Fg F' s rm y'

/-- an item told by the list itself: an int -/
theorem Ex.appendI {n : Str} {p1 p2 p3 pos : Pos} {e : Expr} {i : Int} {l : List V} (hω : ω n = some (.lst l)) (h : Ev g defs d env (upd ρ n (.lst l)) e (.int i)) (he : isStar e = false) (hlen : l.length ≤ 1000)
    (hd : (n == ("__debug__" : Str)) = false) (hl : (p2.endLine == p3.line) = true) (hi : interactive env = false) :
    Ex g defs d env ρ ω (.Expr (.Call (.Attribute (.Name n p1) "append" p2) [e] [] p3) pos) (.nx ρ (ownTo ω n (.lst (l ++ [.int i])))) := fun A E g0 Fg F s rm y => by
  refine wpAny_Expr_any (Call_method rfl hl (by rw [List.any_cons, he]; rfl) (by show 1 < 30; decide) ?_) hi rfl
  refine xE y.own fun ad W => ?_
  refine look_name y.ok.kind (W.look n _ hω) ?_ hd
  refine xEEA (W.obj n _ hω) fun xs k e1 r1 => ?_
  refine Calls.getMethod_list_append e1 rfl rfl ?_
  refine xEA (y.freeze hω) fun F' le y' => ?_
  refine callWith_first (by intro a; nofun) (.cons he h .nil) rm y'.ok fun vs s₂ F₂ m₂ r₂ => ?_
  refine RdL.conse r₂ fun _ _ rx r₂ => ?_
  · (first | refine Rd.ie r₂ fun _ => ?_ | refine Rd.se r₂ fun _ => ?_ | refine Rd.fe r₂ fun _ _ => ?_ | refine Rd.be r₂ fun _ => ?_ | refine Rd.ne r₂ ?_ | refine RdL.nile r₂ ?_ | cases r₂)
    (first | refine Rd.ie rx fun _ => ?_ | refine Rd.se rx fun _ => ?_ | refine Rd.fe rx fun _ _ => ?_ | refine Rd.be rx fun _ => ?_ | refine Rd.ne rx ?_ | refine RdL.nile rx ?_ | cases rx)
    have m₃ : Mv F s F s₂ := ⟨m₂.eq, Le.rfl, fun b o e => m₂.sub b o (m₂.up _ _ (le _ _ e)), fun _ _ e => .inl e, m₂.kp, m₂.tk⟩
    have y₂ := y.mv' m₃
    have W₂ : OwnOk F g0 env ω s₂.heap ad := ⟨fun z ov e => (W.look z ov e).keeps m₃.kp, W.fz, W.new, fun z ov e => (W.obj z ov e).keeps m₃.up m₃.kp, W.inj⟩
    refine append_at (hsz := ?_) (m₃.kp _ _ e1) fun h' hs' hD' => ⟨rfl, F, y₂.ownChange W₂ hω hs' (Nat.le_refl _) (ov' := .lst (l ++ [.int i])) ⟨_, _, hD', ?_⟩⟩
    · rw [Array.toList_push]
      exact RdL.snoc r1 .int
    · have := r1.length
      simp only [Array.length_toList] at this
      rw [this, sizeLine]; lia

/-- a new object of one's own gets its name -/
theorem Fs.bindOwn {g0 : Gd} {Fg F F' : Fz} {s₀ s : Shared} {n : Str} {a : Addr} {ov : OwnV} {B : List Addr} {A : Around} {E : Value → Shared → Prop} (x : Fs g defs g0 Fg env ρ ω F s₀) (m : Mv F s₀ F' s)
    (hk : env.kindOf n = some .local ∨ (env.kindOf n = some .cell ∧ (env.cells.lookup n).isSome = true)) (ha : a ∈ B) (hB : ∀ b ∈ B, s₀.heap.get? b = none ∧ F' b = none ∧ ∃ o, s.heap.get? b = some o)
    (hobj : ∀ h', (∀ b ∈ B, ∀ o, s.heap.get? b = some o → h'.get? b = some o) → OwnObj env.locals g0.G F' h' a ov) :
    wpAny (model g.prog g.w) A (storeName env n (.ref a)) (fun _ s' => Fs g defs g0 Fg env (updO ρ n none) (ownTo ω n ov) F' s') E s := by
  have xp := x.prot m fun b hb => ⟨(hB b hb).1, (hB b hb).2.1⟩
  have g0B : ∀ b ∈ B, g0.G b = none := fun b hb => by
    cases q : g0.G b with
    | none => rfl
    | some o => have := x.mv.kp _ _ q; rw [(hB b hb).1] at this; injection this
  refine wpAny_mono (xp.storeG (y := none) hk fun _ e => nS e) (fun _ s' h => ?_) fun _ _ h => h
  (refine xA h ?_; clear h; intro y lk)
  have kept : ∀ b ∈ B, ∀ o, s.heap.get? b = some o → s'.heap.get? b = some o := fun b hb o e => y.mv.kp b o ((if_pos hb : (g0.prot B s).G b = s.heap.get? b).trans e)
  refine xE y.own fun ad W => ?_
  have ne : ∀ z ov, era ω n z = some ov → ad z ≠ a := fun z ov e q => by
    have h := W.new z ov e
    rw [q] at h
    refine xE ((hB a ha).2.2) fun o ho => ?_
    have h' : s.heap.get? a = none := (if_pos ha : (g0.prot B s).G a = s.heap.get? a).symm.trans h
    rw [ho] at h'; injection h'
  have z := y.unprot g0B
  obtain ⟨ad₂, W₂⟩ : ∃ ad', OwnOk F' g0 env (era ω n) s'.heap ad' ∧ ∀ z ov, era ω n z = some ov → ad' z ≠ a := by
    refine ⟨ad, ⟨W.look, W.fz, fun z ov e => ?_, fun z ov e => ?_, W.inj⟩, ne⟩
    · have h := W.new z ov e
      by_cases hb : ad z ∈ B
      · exact g0B _ hb
      · exact (if_neg hb : (g0.prot B s).G (ad z) = g0.G (ad z)).symm.trans h
    · have q := W.obj z ov e
      cases ov with
      | lst l => exact q
      | acc C l =>
        (refine xEEEEAA q ?_; clear q; intro xs k dx sl e1 r qr0; refine xAA qr0 ?_; clear qr0; intro ne nG qr1; refine xEA qr1 ?_; clear qr1; intro m' hm' mm)
        refine ⟨xs, k, dx, sl, e1, r, ne, ?_, m', hm', mm⟩
        by_cases hb : dx ∈ B
        · exact g0B _ hb
        · exact (if_neg hb : (g0.prot B s).G dx = g0.G dx).symm.trans nG
  (refine xA W₂ ?_; clear W₂; intro W₂ ne₂)
  have er : ∀ z oz, z ≠ n → ownTo ω n ov z = some oz → era ω n z = some oz := fun z oz q e => by
    simp only [ownTo, if_neg q] at e
    simp only [era, if_neg q]; exact e
  refine ⟨z.ok, z.mv, z.ln, z.cn, z.inj, fun q => if q = n then a else ad₂ q, fun q oz e => ?_, fun q oz e => ?_, fun q oz e => ?_, fun q oz e => ?_, fun q q' oz oz' e e' h => ?_⟩
  · by_cases hq : q = n
    · rw [if_pos hq, hq]; exact lk
    · rw [if_neg hq]; exact W₂.look q oz (er q oz hq e)
  · by_cases hq : q = n
    · rw [if_pos hq]; exact (hB a ha).2.1
    · rw [if_neg hq]; exact W₂.fz q oz (er q oz hq e)
  · by_cases hq : q = n
    · rw [if_pos hq]; exact g0B a ha
    · rw [if_neg hq]; exact W₂.new q oz (er q oz hq e)
  · by_cases hq : q = n
    · rw [if_pos hq]
      subst hq
      simp only [ownTo, if_pos] at e; (injection e with e; subst e)
      exact hobj _ kept
    · rw [if_neg hq]; exact W₂.obj q oz (er q oz hq e)
  · by_cases hq : q = n
    · by_cases hq' : q' = n
      · rw [hq, hq']
      · rw [if_pos hq, if_neg hq'] at h
        exact absurd h.symm (ne₂ q' oz' (er q' oz' hq' e'))
    · by_cases hq' : q' = n
      · rw [if_neg hq, if_pos hq'] at h
        exact absurd h (ne₂ q oz (er q oz hq e))
      · rw [if_neg hq, if_neg hq'] at h
        exact W₂.inj q q' oz oz' (er q oz hq e) (er q' oz' hq' e') h

/-- a list of one's own, by a display -/
theorem Ex.assignOwn {n : Str} {es : List Expr} {lp p pos : Pos} {xs : List V} (h : EvL g defs d env ρ es xs) (hl : xs.length ≤ 1000) (hk : env.kindOf n = some .local ∨ (env.kindOf n = some .cell ∧ (env.cells.lookup n).isSome = true)) :
    Ex g defs d env ρ ω (.Assign [.Name n p] (.List es lp) pos) (.nx (updO ρ n none) (ownTo ω n (.lst xs))) := fun A E g0 Fg F s rm y => by
  refine wpAny_Assign_Name (wpAny_List (wpAny_mono (h.run lp A E F s rm y.ok) (fun vs s₁ h₁ => ?_) fun _ _ h => h)) rfl
  (refine xEA h₁ ?_; clear h₁; intro F₁ m₁ r₁)
  refine ⟨by rw [r₁.length, sizeLine]; lia, ?_⟩
  have m₂ : Mv F s F₁ { s₁ with heap := s₁.heap.push { cls := .type "list", data := .seq vs.toArray } } := m₁.trans (Mv.keep m₁.sub (fun b o e => Heap.get?_push_of_some _ e) (Nat.le_refl _))
  refine wpAny_mono (y.bindOwn m₂ (B := [s₁.heap.objs.size]) (ov := .lst xs) hk List.mem_cons_self (fun b hb => ?_) fun h' kk => ⟨_, _, kk _ List.mem_cons_self _ (Heap.get?_push_size _ rfl), by simpa using r₁⟩) (fun _ s' h => ⟨rfl, F₁, h⟩) fun _ _ h => h
  rw [List.mem_singleton.mp hb]
  exact ⟨new_of m₁ (Nat.le_refl _), fz_size m₁.sub (Nat.le_refl _), _, Heap.get?_push_size _ rfl⟩
end
end Mine

namespace Mine
open PySem PyProof.Rows PySem.W PySem.SeqAt

/-- an item at an index -/
noncomputable def idxV (l : List V) (i : Int) : Option V := oB (seqIndex? i l.length) fun j => l[j]?
noncomputable def fits63 (i : Int) : Bool := decide (-(2 ^ 63 : Int) ≤ i) && decide (i < 2 ^ 63)
noncomputable def getV (a b : V) : Option V :=
  oO (bL a fun l => bI b fun i => if fits63 i then idxV l i else none)
  (oO (bT a fun l => bI b fun i => if fits63 i then idxV l i else none)
  (bS a fun x => bI b fun i => if fits63 i then oB (Txt.charAt x i) fun c => some (.str ⟨#[c]⟩) else none))

noncomputable def isSlice : Expr → Bool
  | .Slice _ _ _ _ => true
  | _ => false

theorem subscripted_index {slice : Expr} (h : isSlice slice = false) (o i : Value) : subscripted slice false o i = operate [o, i] (getItem o i) := by
  cases slice <;> first | rfl | cases h

section
variable {g : Gl} {defs : List Fd} {d : Nat} {env : Env} {ρ : Rho} {ω : Omg}

theorem fits63_of {i : Int} (h : fits63 i = true) : -(2 ^ 63 : Int) ≤ i ∧ i < 2 ^ 63 := by
  simp only [fits63, Bool.and_eq_true, decide_eq_true_eq] at h; exact h

theorem seqIndex_some {i : Int} {n j : Nat} (h : seqIndex? i n = some j) : (i < 0 → -(n : Int) ≤ i ∧ (i + n).toNat = j) ∧ (¬ i < 0 → i.toNat = j) := by
  by_cases hneg : i < 0
  · have h' : (if (decide (0 ≤ i + (n : Int)) && decide (i + (n : Int) < n)) = true then some (i + (n : Int)).toNat else none) = some j := by
      unfold seqIndex? at h; simp only [hneg, if_true] at h; exact h
    split at h'
    · rename_i hb
      simp only [Bool.and_eq_true, decide_eq_true_eq] at hb
      simp only [Option.some.injEq] at h'
      exact ⟨fun _ => ⟨by lia, h'⟩, fun q => absurd hneg q⟩
    · injection h'
  · have h' : (if (decide (0 ≤ i) && decide (i < (n : Int))) = true then some i.toNat else none) = some j := by
      unfold seqIndex? at h; simp only [hneg, if_false] at h; exact h
    split at h'
    · simp only [Option.some.injEq] at h'
      exact ⟨fun q => absurd q hneg, fun _ => h'⟩
    · injection h'

theorem idx_at {F : Fz} {xs : Array Value} {l : List V} {i : Int} {c : V} (rl : RdL F xs.toList l) (h : idxV l i = some c) : ∃ j v, seqIndex? i xs.size = some j ∧ xs[j]? = some v ∧ Rd F v c := by
  have h : oB (seqIndex? i l.length) (fun j => l[j]?) = some c := h
  rw [← rl.length, Array.length_toList] at h
  exact oBE h fun j hj h => xEA (rl.get (i := j) h) fun v hv rv => ⟨j, v, hj, by rw [← Array.getElem?_toList]; exact hv, rv⟩
theorem item_at {value slice : Expr} {A : Around} {E : Value → Shared → Prop} {F F₂ : Fz} {s s₂ : Shared} {va vb : Value} {a b c : V} (hs : isSlice slice = false) (m : Mv F s F₂ s₂) (r₁ : Rd F₂ va a) (r₂ : Rd F₂ vb b) (h : getV a b = some c) :
    wpAny (model g.prog g.w) A (subscriptTail value slice va vb) (Res F s c) E s₂ :=
  oE h (fun h => lR r₁ h fun x o xs n l e cl dd rl h => iR r₂ h fun i t h => iS h fun hf h => xEEAA (idx_at rl h) fun j v hj hv rv => by
      have hf := fits63_of hf
      have hl : s₂.heap.IsList x xs := ⟨o, m.sub _ _ e, cl, n, dd⟩
      refine tail_any hl.typeIs slot_list_getitem.lookup ?_ (subscripted_index hs _ _)
      have hs := seqIndex_some hj
      by_cases hneg : i < 0
      · exact wpAny_getItem_list_neg hl hneg (hs.1 hneg).1 hf.1 (by rw [(hs.1 hneg).2]; exact hv) ⟨F₂, m, rv⟩
      · exact wpAny_getItem_list hl (Int.not_lt.mp hneg) hf.2 (by rw [hs.2 hneg]; exact hv) ⟨F₂, m, rv⟩)
  fun h => oE h (fun h => tR r₁ h fun x o xs n l e cl dd rl h => iR r₂ h fun i t h => iS h fun hf h => xEEAA (idx_at rl h) fun j v hj hv rv =>
      have hl : IsTup s₂.heap x xs := ⟨o, m.sub _ _ e, cl, n, dd⟩
      tail_any hl.typeIs PySem.F.slot_tuple_getitem.lookup (PyProof.Rows.getItem_tuple hl (fits63_of hf).1 (fits63_of hf).2 hj hv ⟨F₂, m, rv⟩) (subscripted_index hs _ _))
  fun h => sR r₁ h fun x t h => iR r₂ h fun i u h => iS h fun hf h => oBE h fun k hc h => jS h
      (tail_any (typeIs_str _ _ _) PySem.F.slot_str_getitem.lookup (P.getItem_str (by
        have hf := fits63_of hf
        simp only [Bool.or_eq_false_iff, decide_eq_false_iff_not]
        lia) hc ⟨F₂, m.trans (Mv.toks m.sub (Nat.le_succ _)), .str⟩) (subscripted_index hs _ _))
theorem Ev.item {value slice : Expr} {pos : Pos} {a b c : V} (hs : isSlice slice = false) (hv : Ev g defs d env ρ value a) (hi : Ev g defs d env ρ slice b) (h : getV a b = some c) : Ev g defs d env ρ (.Subscript value slice pos) c := fun A E F s rm ok =>
  Subscript_ (wpAny_mono (hv A E F s rm ok) (fun va s₁ h₁ => xEA h₁ fun F₁ m₁ r₁ => wpAny_mono (hi A E F₁ s₁ rm (ok.mv m₁)) (fun vb s₂ h₂ => xEA h₂ fun F₂ m₂ r₂ => item_at hs (m₁.trans m₂) (r₁.mono m₂.up) r₂ h) fun _ _ h => h) fun _ _ h => h)

/-- a slice's part -/
inductive EvP (g : Gl) (defs : List Fd) (d : Nat) (env : Env) (ρ : Rho) : Option Expr → Option Int → Prop
  | none : EvP g defs d env ρ Option.none Option.none
  | some {e : Expr} {i : Int} : Ev g defs d env ρ e (.int i) → EvP g defs d env ρ (Option.some e) (Option.some i)
theorem EvP.run {o : Option Expr} {k : Option Int} (h : EvP g defs d env ρ o k) (A : Around) (E : Value → Shared → Prop) (F : Fz) (s : Shared) (rm : Room d A) (ok : Ok g defs F env ρ s) :
    wpAny (model g.prog g.w) A (evalPart o env) (fun v s' => ∃ F', Mv F s F' s' ∧ IsPart v k) E s := by
  cases h with
  | none => exact wpAny_pure ⟨F, Mv.refl ok.sub, .none⟩
  | some h =>
    refine wpAny_mono (h A E F s rm ok) (fun v s₁ h₁ => ?_) fun _ _ h => h
    (refine xEA h₁ ?_; clear h₁; intro F₁ m₁ r₁)
    (first | refine Rd.ie r₁ fun _ => ?_ | refine Rd.se r₁ fun _ => ?_ | refine Rd.fe r₁ fun _ _ => ?_ | refine Rd.be r₁ fun _ => ?_ | refine Rd.ne r₁ ?_ | refine RdL.nile r₁ ?_ | cases r₁)
    exact ⟨F₁, m₁, .int _ _⟩

noncomputable def pickL (l : List V) (lo hi st : Option Int) : List V := (sliceRange (sliceBounds lo hi st l.length).1 (sliceBounds lo hi st l.length).2.1 (sliceBounds lo hi st l.length).2.2).filterMap (l[·]?)
theorem pick_rd {F : Fz} {xs : Array Value} {l : List V} (r : RdL F xs.toList l) (lo hi st : Option Int) : RdL F (slicePick xs lo hi st).toList (pickL l lo hi st) := by
  have hlen : xs.size = l.length := by rw [← r.length]; simp
  unfold slicePick pickL
  rw [hlen]
  generalize sliceRange _ _ _ = ix
  induction ix with
  | nil => exact .nil
  | cons i ix ih =>
    rw [List.filterMap_cons, List.filterMap_cons]
    cases q : xs[i]? with
    | none =>
      have : l[i]? = none := by
        rw [List.getElem?_eq_none_iff]
        rw [Array.getElem?_eq_none_iff] at q; lia
      rw [this]; exact ih
    | some v =>
      obtain ⟨x, hx, rx⟩ := r.get' (i := i) (v := v) (by rw [Array.getElem?_toList]; exact q)
      rw [hx]
      exact .cons rx ih

noncomputable def noI {β : Type} (x : Option Int) (f : Option β) : Option β := match x with | none => f | some _ => none
@[elab_as_elim] theorem noE {β : Type} {c : β} {x : Option Int} {f : Option β} {P : Option Int → Prop} (h : noI x f = some c) (k : f = some c → P none) : P x := by
  revert h
  cases x with
  | none => exact k
  | some _ => exact fun h => nS h
noncomputable def sliceV (a : V) (lo hi st : Option Int) : Option V :=
  oO (bL a fun l => if l.length ≤ 1000 ∧ st ≠ some 0 then some (.lst (pickL l lo hi st)) else none)
  (oO (bS a fun x => noI st (if x.length ≤ 16777216 then some (.str (Txt.slice x lo hi)) else none))
  (bY a fun b => noI st (if b.size ≤ 16777216 then some (.byt (KBy.picked b lo hi)) else none)))

theorem str_slice_item {A : Around} {E : Value → Shared → Prop} {P : Heap → Prop} {s : Shared} {x : Str} {t : Tok} {Q : Value → Shared → Prop} {l u : Value} {lo hi : Option Int} (pl : IsPart l lo) (pu : IsPart u hi) (hk : KeptH P) (hI : P s.heap)
    (h : ∀ h' t' k, P h' → Q (.str (Txt.slice x lo hi) t') { s with heap := h', toks := k }) (hsz : x.length ≤ sizeLine) :
    wpAny (model g.prog g.w) A (getItem (.str x t) (.ref s.heap.objs.size)) Q E { s with heap := s.heap.push { cls := .type "slice", data := .fields #[l, u, .none] } } := by
  have get : ItemOn (model g.prog g.w) A E (.str x t) (.ref s.heap.objs.size) Q { s with heap := s.heap.push { cls := .type "slice", data := .fields #[l, u, .none] } } := by
    cases pl <;> cases pu
    · exact SBH.sliceItem_nn hk hI h hsz
    · exact SBH.sliceItem_ns hk hI h hsz
    · exact SBH.sliceItem_sn hk hI h hsz
    · exact SBH.sliceItem_ss hk hI h hsz
  exact get.choose_spec.choose_spec.2.2

theorem subscripted_slice2 (a b : Option Expr) (p : Pos) (o i : Value) : subscripted (.Slice a b Option.none p) false o i = operate [i, o] (getItem o i) := rfl
theorem subscripted_slice3 (a b : Option Expr) (c : Expr) (p : Pos) (o i : Value) : subscripted (.Slice a b (Option.some c) p) false o i = operate [o, i] (getItem o i) := rfl

theorem slice_at {A : Around} {E : Value → Shared → Prop} {F F₄ : Fz} {s s₄ : Shared} {va vl vu vs : Value} {ops : List Value} {value slice : Expr} {a c : V} {lo hi st : Option Int} (bs : Bs g defs F s) (mm : Mv F s F₄ s₄) (r₁ : Rd F₄ va a) (p₂ : IsPart vl lo) (p₃ : IsPart vu hi) (p₄ : IsPart vs st)
    (h : sliceV a lo hi st = Option.some c) (hsub : subscripted slice false va (.ref s₄.heap.objs.size) = operate ops (getItem va (.ref s₄.heap.objs.size))) :
    wpAny (model g.prog g.w) A (subscriptTail value slice va (.ref s₄.heap.objs.size)) (Res F s c) E { s₄ with heap := s₄.heap.push { cls := .type "slice", data := .fields #[vl, vu, vs] } } := by
  have mp : ∀ o : Obj, Mv F₄ s₄ F₄ { s₄ with heap := s₄.heap.push o } := fun o => Mv.keep mm.sub (fun b o' e => Heap.get?_push_of_some _ e) (Nat.le_refl _)
  revert hsub
  exact oE h (fun h => lR r₁ h fun x o xs n l e cl dd rl h hsub => iS h fun hh h => jS h (by
      have hlen := rd_size rl
      have hl : (s₄.heap.push { cls := .type "slice", data := .fields #[vl, vu, vs] }).IsList x xs := (show s₄.heap.IsList x xs from ⟨o, mm.sub _ _ e, cl, n, dd⟩).push _
      refine tail_any (Heap.IsList.typeIs (s := { s₄ with heap := s₄.heap.push { cls := .type "slice", data := .fields #[vl, vu, vs] } }) hl) slot_list_getitem.lookup (wpAny_getItem_list_slice (hsz := by rw [hlen, sizeLine]; lia) hl (Heap.IsSliceOf.new ..) p₂ p₃ p₄ hh.2 ?_) hsub
      refine xEA (res_list (n := 0) ((bs.mv mm).mv (mp { cls := .type "slice", data := .fields #[vl, vu, vs] })) (vs := (slicePick xs lo hi st).toList) (pick_rd rl lo hi st) (Nat.le_refl _)) fun F₅ m₅ r₅ => ?_
      simp only [Array.toArray_toList] at m₅
      exact ⟨F₅, (mm.trans (mp _)).trans m₅, r₅⟩))
    fun h => oE h (fun h => sR r₁ h fun x t h => noE (P := fun st => IsPart vs st → _ → _) h (fun h p₄ hsub => iS h fun hz h => jS h (by
      cases p₄
      refine upT (tail_any (typeIs_str _ _ _) PySem.F.slot_str_getitem.lookup (str_slice_item (P := fun h' => ∀ b o, s₄.heap.get? b = Option.some o → h'.get? b = Option.some o) p₂ p₃ (fun h' ob k b o e => Heap.get?_push_of_some _ (k b o e)) (fun _ _ e => e) (fun h' t' k hk htk => ?_) (by rw [sizeLine]; lia)) hsub)
      exact ⟨F₄, mm.trans (Mv.keep mm.sub hk htk), .str⟩)) p₄)
    fun h => yR r₁ h fun x t h => noE (P := fun st => IsPart vs st → _ → _) h (fun h p₄ hsub => iS h fun hz h => jS h (by
      cases p₄
      refine upT (tail_any (typeIs_bytes _ _ _) PySem.W.FB.slot_bytes_getitem.lookup (getItem_meets (typeIs_bytes _ _ _) (by decide) PySem.W.FB.slot_bytes_getitem PySem.W.FB.entry_bytes_getitem (PySem.W.FB.args_bytes_getitem_2 _ _) (KBc.meets_slice2 _ _ _ p₂ p₃)
        ⟨Heap.IsSliceOf.new _ _ _ _, Nat.le_trans (KBc.size_picked_le _ lo hi) (by rw [sizeLine]; lia), fun t' k htk => ?_⟩) hsub)
      exact ⟨F₄, mm.trans (Mv.keep mm.sub (fun b o e => Heap.get?_push_of_some _ e) htk), .byt⟩)) p₄
theorem Ev.slice {value : Expr} {lower upper step : Option Expr} {p pos : Pos} {a c : V} {lo hi st : Option Int} (hv : Ev g defs d env ρ value a) (h1 : EvP g defs d env ρ lower lo) (h2 : EvP g defs d env ρ upper hi) (h3 : EvP g defs d env ρ step st) (h : sliceV a lo hi st = Option.some c) :
    Ev g defs d env ρ (.Subscript value (.Slice lower upper step p) pos) c := fun A E F s rm ok => by
  refine Subscript_ (wpAny_mono (hv A E F s rm ok) (fun va s₁ q₁ => xEA q₁ fun F₁ m₁ r₁ => wpAny_Slice (wpAny_mono (h1.run A E F₁ s₁ rm (ok.mv m₁)) (fun vl s₂ q₂ => xEA q₂ fun F₂ m₂ p₂ => wpAny_mono (h2.run A E F₂ s₂ rm ((ok.mv m₁).mv m₂)) (fun vu s₃ q₃ => xEA q₃ fun F₃ m₃ p₃ =>
    wpAny_mono (h3.run A E F₃ s₃ rm (((ok.mv m₁).mv m₂).mv m₃)) (fun vs s₄ q₄ => xEA q₄ fun F₄ m₄ p₄ => ?_) fun _ _ h => h) fun _ _ h => h) fun _ _ h => h)) fun _ _ h => h)
  have hsub : ∃ ops, subscripted (.Slice lower upper step p) false va (.ref s₄.heap.objs.size) = operate ops (getItem va (.ref s₄.heap.objs.size)) := by
    cases step with
    | none => exact ⟨_, subscripted_slice2 _ _ _ _ _⟩
    | some e => exact ⟨_, subscripted_slice3 _ _ _ _ _ _⟩
  exact xE hsub fun ops hsub => slice_at ok.toBs (((m₁.trans m₂).trans m₃).trans m₄) (r₁.mono ((m₂.trans m₃).trans m₄).up) p₂ p₃ p₄ h hsub
end
end Mine

namespace Mine
open PySem PyProof.Rows PySem.W PySem.SeqAt

section
variable {g : Gl} {defs : List Fd} {d : Nat} {env : Env} {ρ : Rho} {ω : Omg}

/-- signs -/
noncomputable def unV : UnaryOp → V → Option V
  | .USub, x => bI x fun a => some (.int (-a))
  | _, _ => none
theorem Tr.un {op : UnaryOp} {a c : V} (h : unV op a = some c) : Tr g defs d [a] (unT op) c := fun A E F s vs rm bs r => by
  refine RdL.conse r fun _ _ r1 r => RdL.nile r (up ?_)
  cases op with
  | USub =>
    have h : (bI a fun a => some (.int (-a))) = some c := h
    exact iR r1 h fun i t h => jS h (PyProof.Rows.neg_int (resT bs rfl .int))
  | _ => exact nS h

noncomputable def intOf : V → Int
  | .int i => i
  | _ => 0
noncomputable def isFlt : V → Bool
  | .flt _ => true
  | _ => false
noncomputable def isStrV : V → Bool
  | .str _ => true
  | _ => false
noncomputable def strOfV : V → Str
  | .str x => x
  | _ => Str.empty
noncomputable def sumV (l : List V) : Int := (l.map intOf).sum
noncomputable def gtV : V → V → Bool
  | .int a, .int b => decide (a > b)
  | .flt a, .flt b => Float64.cmp a b == some .gt
  | _, _ => false
noncomputable def ltV : V → V → Bool
  | .int a, .int b => decide (a < b)
  | .flt a, .flt b => Float64.cmp a b == some .lt
  | _, _ => false
noncomputable def bestV (f : V → V → Bool) (x : V) (l : List V) : V := l.foldl (fun m y => if f y m then y else m) x

theorem best_at (f : V → V → Bool) (x : V) (xs : List V) : ∀ k, k ≤ xs.length → (x :: xs)[argBest (fun i j => match (x :: xs)[i]?, (x :: xs)[j]? with | some a, some b => f a b | _, _ => false) k]? = some (bestV f x (xs.take k))
  | 0, _ => rfl
  | k + 1, h => by
    have ih := best_at f x xs k (by lia)
    have hk : (x :: xs)[k + 1]? = some xs[k] := by rw [List.getElem?_cons_succ, List.getElem?_eq_getElem (by lia)]
    have ht : xs.take (k + 1) = xs.take k ++ [xs[k]] := by rw [List.take_add_one, List.getElem?_eq_getElem (by lia)]; rfl
    rw [ht]
    unfold bestV
    rw [List.foldl_append, List.foldl_cons, List.foldl_nil]
    show (x :: xs)[if _ then k + 1 else _]? = some (if f xs[k] (bestV f x (xs.take k)) then xs[k] else bestV f x (xs.take k))
    simp only [hk, ih]
    split
    · exact hk
    · exact ih

noncomputable def maxI (a b : Int) : Int := if a < b then b else a
noncomputable def intsOf : List V → Option (List Int)
  | [] => some []
  | x :: l => bI x fun i => oB (intsOf l) fun r => some (i :: r)
theorem intsOf_eq {l : List V} : ∀ {is : List Int}, intsOf l = some is → l = is.map .int := by
  induction l with
  | nil => intro is h; exact jS (P := fun is => [] = is.map V.int) h rfl
  | cons x l ih => intro is h; exact iX h fun i h => oBE h fun r hr h => jS h (by rw [ih hr]; rfl)
theorem best_ints : ∀ (is : List Int) (i : Int), bestV gtV (.int i) (is.map .int) = .int (is.foldl maxI i)
  | [], i => rfl
  | j :: is, i => by
    have e : bestV gtV (.int i) ((j :: is).map .int) = bestV gtV (if gtV (.int j) (.int i) then .int j else .int i) (is.map .int) := rfl
    rw [e, List.foldl_cons]
    have e2 : (if gtV (.int j) (.int i) then V.int j else V.int i) = V.int (maxI i j) := by
      unfold maxI gtV
      by_cases h : i < j
      · rw [if_pos h, if_pos (by simpa using h)]
      · rw [if_neg h, if_neg (by simpa using h)]
    rw [e2]; exact best_ints is _
theorem ints_all : ∀ (is : List Int), (is.map V.int).all isInt = true
  | [] => rfl
  | i :: is => by rw [List.map_cons, List.all_cons, ints_all is]; rfl

noncomputable def lenB (xs : List V) : Option V := b1 xs fun x => oO (bL x fun l => if l.length ≤ 100000 then some (.int l.length) else none) (bS x fun x => if x.length ≤ 100000 then some (.int x.length) else none)
noncomputable def sumB (xs : List V) : Option V := b1 xs fun x => bL x fun l => if l.all isInt then some (.int (sumV l)) else none
noncomputable def maxB (xs : List V) : Option V := oO (b1 xs fun x => bL x fun l => oB (intsOf l) fun is => (match is with | [] => none | i :: is => some (.int (is.foldl maxI i)))) (b3 xs fun a b c => if [a, b, c].all isFlt then some (bestV gtV a [b, c]) else none)
noncomputable def minB (xs : List V) : Option V := oO (b2 xs fun a b => if [a, b].all isFlt then some (bestV ltV a [b]) else none) (b3 xs fun a b c => if [a, b, c].all isFlt then some (bestV ltV a [b, c]) else none)
noncomputable def absB (xs : List V) : Option V := b1 xs fun x => bI x fun a => some (.int (if a < 0 then -a else a))
noncomputable def dmB (xs : List V) : Option V := b2 xs fun x y => bI x fun a => bI y fun b => if b = 0 then none else if b.natAbs < 1073741824 then some (.tup [.int (a.fdiv b), .int (a.fmod b)]) else none
noncomputable def trunc? (x : UInt64) : Option Int := match Float64.decode x with | .fin sg m e => some (Float64.truncOf sg m e) | _ => none
theorem trunc_at {x : UInt64} {i : Int} (h : trunc? x = some i) : ∃ sg m e, Float64.decode x = .fin sg m e ∧ i = Float64.truncOf sg m e := by
  unfold trunc? at h
  generalize Float64.decode x = y at h
  cases y with
  | fin sg m e => exact ⟨sg, m, e, rfl, (Option.some.inj h).symm⟩
  | _ => exact nS h
noncomputable def intB (xs : List V) : Option V := b1 xs fun x => oO (bI x fun a => some (.int a)) (bF x fun x => oB (trunc? x) fun i => some (.int i))
noncomputable def ordB (xs : List V) : Option V := b1 xs fun x => bS x fun x => if x.length = 1 then some (.int (x.cps.getD 0 0 : Nat)) else none
noncomputable def tupB (xs : List V) : Option V := b1 xs fun x => bL x fun l => if l.length ≤ 1000 then some (.tup l) else none
noncomputable def bltV (n : Str) (xs : List V) : Option V :=
  if n = "len" then lenB xs else if n = "sum" then sumB xs else if n = "max" then maxB xs else if n = "min" then minB xs else if n = "abs" then absB xs
  else if n = "divmod" then dmB xs else if n = "int" then intB xs else if n = "ord" then ordB xs else if n = "tuple" then tupB xs else none
noncomputable def bltF (n : Str) : Value :=
  if n = "len" then .builtin "len" else if n = "sum" then .builtin "sum" else if n = "max" then .builtin "max" else if n = "min" then .builtin "min" else if n = "abs" then .builtin "abs" else if n = "divmod" then .builtin "divmod"
  else if n = "int" then .type "int" else if n = "ord" then .builtin "ord" else if n = "tuple" then .type "tuple" else .none
noncomputable def blts : List Str := ["len", "sum", "max", "min", "abs", "divmod", "int", "ord", "tuple"]
noncomputable def isRef : Value → Bool
  | .ref _ => true
  | _ => false
theorem nrB {v : Value} (h : isRef v = false) {a : Addr} : v ≠ .ref a := fun e => by rw [e] at h; exact nG h
theorem blt_boot : ∀ n ∈ blts, bootBuiltins n = some (bltF n) ∧ (∀ a, bltF n ≠ .ref a) ∧ n ≠ "__name__" ∧ (n == ("__debug__" : Str)) = false := by
  intro n hn
  simp only [blts, List.mem_cons, List.not_mem_nil, or_false] at hn
  rcases hn with rfl | rfl | rfl | rfl | rfl | rfl | rfl | rfl | rfl <;> exact ⟨by kernel_rfl, fun a => nrB rfl, by decide, by decide⟩

/-- comparing what is of one kind -/
theorem flt_r {F : Fz} {v : Value} {x : V} (r : Rd F v x) : isFlt x = true → ∃ i t, x = .flt i ∧ v = .float i t :=
  Rd.rec (motive_1 := fun v x _ => isFlt x = true → ∃ i t, x = .flt i ∧ v = .float i t) (motive_2 := fun _ _ _ => True) (fun h => nF h) (fun h => nF h) (fun h => nF h) (fun _ _ => ⟨_, _, rfl, rfl⟩) (fun h => nF h) (fun h => nF h)
    (fun _ _ _ _ _ h => nF h) (fun _ _ _ _ _ h => nF h) (fun _ h => nF h) trivial (fun _ _ _ _ => trivial) r
theorem int_rx {F : Fz} {v : Value} {x : V} (r : Rd F v x) : isInt x = true → ∃ i t, x = .int i ∧ v = .int i t :=
  Rd.rec (motive_1 := fun v x _ => isInt x = true → ∃ i t, x = .int i ∧ v = .int i t) (motive_2 := fun _ _ _ => True) (fun h => nF h) (fun h => nF h) (fun _ => ⟨_, _, rfl, rfl⟩) (fun _ h => nF h) (fun h => nF h) (fun h => nF h)
    (fun _ _ _ _ _ h => nF h) (fun _ _ _ _ _ h => nF h) (fun _ h => nF h) trivial (fun _ _ _ _ => trivial) r
theorem cmp_both {prog : Program} {w : World} {A : Around} {E : Value → Shared → Prop} {F : Fz} {s : Shared} {v u : Value} {x y : V} (rv : Rd F v x) (ru : Rd F u y) (hk : (isInt x = true ∧ isInt y = true) ∨ (isFlt x = true ∧ isFlt y = true)) :
    (∀ {Q : Value → Shared → Prop}, Q (.bool (gtV x y)) s → wpAny (model prog w) A (richCompare .Gt v u) Q E s) ∧ (∀ {Q : Value → Shared → Prop}, Q (.bool (ltV x y)) s → wpAny (model prog w) A (richCompare .Lt v u) Q E s) := by
  refine hk.elim (fun hk => ?_) fun hk => ?_
  · refine xEEA (int_rx rv hk.1) fun i t e1 e2 => xEEA (int_rx ru hk.2) fun j t' e3 e4 => ?_
    subst e1 e2 e3 e4
    exact ⟨PyProof.Rows.gt_int, PyProof.Rows.lt_int⟩
  · refine xEEA (flt_r rv hk.1) fun i t e1 e2 => xEEA (flt_r ru hk.2) fun j t' e3 e4 => ?_
    subst e1 e2 e3 e4
    exact ⟨AutoFloatOps.gt_0, AutoFloatOps.lt_0⟩

noncomputable def sameKind (l : List V) : Prop := l.all isInt = true ∨ l.all isFlt = true
theorem sameKind.at {l : List V} (h : sameKind l) {i j : Nat} {x y : V} (hx : l[i]? = some x) (hy : l[j]? = some y) : (isInt x = true ∧ isInt y = true) ∨ (isFlt x = true ∧ isFlt y = true) := by
  rcases h with h | h
  · exact .inl ⟨List.all_eq_true.mp h x (List.mem_of_getElem? hx), List.all_eq_true.mp h y (List.mem_of_getElem? hy)⟩
  · exact .inr ⟨List.all_eq_true.mp h x (List.mem_of_getElem? hx), List.all_eq_true.mp h y (List.mem_of_getElem? hy)⟩

noncomputable def btOf (f : V → V → Bool) (l : List V) : Nat → Nat → Bool := fun i j => match l[i]?, l[j]? with | some a, some b => f a b | _, _ => false
theorem bt_eq {f : V → V → Bool} {l : List V} {i j : Nat} {a b : V} (ha : l[i]? = some a) (hb : l[j]? = some b) : btOf f l i j = f a b := by unfold btOf; rw [ha, hb]

theorem cmpOf {A : Around} {F : Fz} {xs : Array Value} {l : List V} (r : RdL F xs.toList l) (hk : sameKind l) : CmpOf g.prog g.w A .Gt (fun i v => xs[i]? = some v) (btOf gtV l) ∧ CmpOf g.prog g.w A .Lt (fun i v => xs[i]? = some v) (btOf ltV l) := by
  have key : ∀ i j vi vj, xs[i]? = some vi → xs[j]? = some vj → ∃ x y, l[i]? = some x ∧ l[j]? = some y ∧ Rd F vi x ∧ Rd F vj y := fun i j vi vj hi hj =>
    xEA (r.get' (i := i) (v := vi) (by rw [Array.getElem?_toList]; exact hi)) fun x hx rx => xEA (r.get' (i := j) (v := vj) (by rw [Array.getElem?_toList]; exact hj)) fun y hy ry => ⟨x, y, hx, hy, rx, ry⟩
  exact ⟨fun i j vi vj s Q E hi hj hQ => xEEAAA (key i j vi vj hi hj) fun x y hx hy rx ry => (cmp_both rx ry (hk.at hx hy)).1 (by rw [← bt_eq (f := gtV) hx hy]; exact hQ),
    fun i j vi vj s Q E hi hj hQ => xEEAAA (key i j vi vj hi hj) fun x y hx hy rx ry => (cmp_both rx ry (hk.at hx hy)).2 (by rw [← bt_eq (f := ltV) hx hy]; exact hQ)⟩

/-- the end of a search for the best -/
theorem best_end {F : Fz} {xs : Array Value} {f : V → V → Bool} {x : V} {l : List V} (r : RdL F xs.toList (x :: l)) {v : Value} (h : xs[argBest (btOf f (x :: l)) (xs.size - 1)]? = some v) : Rd F v (bestV f x l) := by
  have hlen : xs.size = l.length + 1 := by have := r.length; simpa using this
  rw [hlen] at h
  refine xEA (r.get' (v := v) (by rw [Array.getElem?_toList]; exact h)) fun y hy ry => ?_
  have e := best_at f x l l.length (Nat.le_refl _)
  rw [List.take_length] at e
  have e' : (x :: l)[argBest (btOf f (x :: l)) (l.length + 1 - 1)]? = some (bestV f x l) := e
  rw [e'] at hy
  (injection hy with hy; subst hy)
  exact ry

/-- over an iterator's run nothing else moves -/
theorem walk_mv {F : Fz} {s s₂ : Shared} {I : Addr} {h' : Heap} {tk : Nat} (m : Mv F s F s₂) (hI : s.heap.get? I = none) (hF : F I = none) (k : ∀ b o, b ∉ [I] → s₂.heap.get? b = some o → h'.get? b = some o) (ht : s₂.toks ≤ tk) : Mv F s F { s₂ with heap := h', toks := tk } :=
  m.touch (B := [I]) (fun b hb => by rw [List.mem_singleton.mp hb]; exact ⟨hI, hF⟩) k ht

theorem max_list_tr {A : Around} {E : Value → Shared → Prop} {F : Fz} {s : Shared} {a : Addr} {o : Obj} {xs : Array Value} {n : Nat} (rm : Room d A) (bs : Bs g defs F s) (e : F a = some o) (c : o.cls = .type "list") (dd : o.data = .seq xs n) {x : V} {l : List V} (rl : RdL F xs.toList (x :: l)) (hk : sameKind (x :: l)) :
    wpAny (model g.prog g.w) A (PySem.call (.builtin "max") [.ref a]) (Res F s (bestV gtV x l)) E s := by
    · have hl : s.heap.IsList a xs := ⟨o, bs.sub _ _ e, c, n, dd⟩
      have hlt := Heap.lt_size (bs.sub _ _ e)
      have hlen : xs.size = l.length + 1 := by have := rl.length; simpa using this
      have m₁ : Mv F s F { s with heap := s.heap.push { cls := .type "list_iterator", data := .fields #[.ref a, .int 0 0] } } := Mv.keep bs.sub (fun b o e => Heap.get?_push_of_some _ e) (Nat.le_refl _)
      refine upT (call_max_walk (wpAny_pyIter_list hl ⟨_, _, _, _, _, _, _, rfl, Walks.list (A := A.in1) rm.hd s.heap.objs.size a (Nat.ne_of_lt hlt) xs, ⟨⟨_, Heap.get?_push_size _ rfl, rfl, rfl⟩, hl.push _⟩, fun b hb => ?_, by lia, (cmpOf rl hk).1, fun v h' tk hv hk' htk => ?_⟩))
      · show b < (Heap.push _ _).objs.size
        rw [Heap.size_push]
        rcases List.mem_cons.mp hb with rfl | hb
        · exact Nat.lt_succ_self _
        · rw [List.mem_singleton.mp hb]; exact Nat.lt_succ_of_lt hlt
      · exact ⟨F, walk_mv m₁ (get_none_size _) (fz_size bs.sub (Nat.le_refl _)) hk' htk, best_end rl hv⟩

/-- two or three values, by the tuple that the call makes -/
theorem tup_src {A : Around} {E : Value → Shared → Prop} {F : Fz} {s : Shared} {vs : Array Value} {l : List V} {Q : Value → Shared → Prop} {op : CmpOp} {f : V → V → Bool} (rm : Room d A) (bs : Bs g defs F s) (rl : RdL F vs.toList l) (hne : 0 < vs.size)
    (hc : CmpOf g.prog g.w A.in1 op (fun i v => vs[i]? = some v) (btOf f l))
    (hQ : ∀ v h' tk, vs[argBest (btOf f l) (vs.size - 1)]? = some v → Mv F s F { s with heap := h', toks := tk } → Q v { s with heap := h', toks := tk }) :
    wpAny (model g.prog g.w) A.in1 (pyIter (.ref s.heap.objs.size)) (fun it s₂ => ∃ (I : Addr) (fp wr : List Addr) (n : Nat) (P : Nat → Value → Prop) (St : Nat → Heap → Prop) (bt : Nat → Nat → Bool), it = .ref I ∧ Walks g.prog g.w A.in1 I fp wr n P St ∧ St 0 s₂.heap ∧ (∀ b ∈ fp, b < s₂.heap.objs.size) ∧ 0 < n ∧ CmpOf g.prog g.w A.in1 op P bt ∧
      ∀ v h' tk, P (argBest bt (n - 1)) v → (∀ b o, b ∉ wr → s₂.heap.get? b = some o → h'.get? b = some o) → (s.toks ≤ tk → Q v { s₂ with heap := h', toks := tk })) E
      { s with heap := s.heap.push { cls := .type "tuple", data := .seq vs } } := by
  have ht : (s.heap.push { cls := .type "tuple", data := .seq vs }).IsTuple s.heap.objs.size vs := ⟨_, Heap.get?_push_size _ rfl, rfl, 0, rfl⟩
  have m₁ : Mv F s F { s with heap := s.heap.push { cls := .type "tuple", data := .seq vs } } := Mv.keep bs.sub (fun b o e => Heap.get?_push_of_some _ e) (Nat.le_refl _)
  have hsz : (s.heap.push { cls := .type "tuple", data := .seq vs }).objs.size = s.heap.objs.size + 1 := Heap.size_push ..
  have m₂ : Mv F s F { s with heap := (s.heap.push { cls := .type "tuple", data := .seq vs }).push { cls := .type "tuple_iterator", data := .fields #[.ref s.heap.objs.size, .int 0 0] } } :=
    m₁.trans (Mv.keep m₁.sub (fun b o e => Heap.get?_push_of_some _ e) (Nat.le_refl _))
  refine wpAny_pyIter_tuple ht ⟨_, _, _, _, _, _, _, rfl, Walks.tuple (A := A.in1) rm.hd _ s.heap.objs.size (by rw [hsz]; exact Nat.ne_of_lt (Nat.lt_succ_self _)) vs, ⟨⟨_, Heap.get?_push_size _ rfl, rfl, rfl⟩, ht.push _⟩, fun b hb => ?_, hne, hc, fun v h' tk hv hk htk => ?_⟩
  · show b < ((s.heap.push _).push _).objs.size
    rw [Heap.size_push, hsz]
    rcases List.mem_cons.mp hb with rfl | hb
    · rw [hsz]; exact Nat.lt_succ_self _
    · rw [List.mem_singleton.mp hb]; exact Nat.lt_succ_of_lt (Nat.lt_succ_self _)
  · have q := walk_mv m₂ (new_of m₁ (Nat.le_refl _)) (fz_size m₁.sub (Nat.le_refl _)) hk htk
    exact hQ v h' tk hv q

theorem max3_tr {A : Around} {E : Value → Shared → Prop} {F : Fz} {s : Shared} {a b c : V} {va vb vc : Value} (rm : Room d A) (bs : Bs g defs F s) (hk : sameKind [a, b, c]) (r1 : Rd F va a) (r2 : Rd F vb b) (r3 : Rd F vc c) :
    wpAny (model g.prog g.w) A (PySem.call (.builtin "max") [va, vb, vc]) (Res F s (bestV gtV a [b, c])) E s ∧ wpAny (model g.prog g.w) A (PySem.call (.builtin "min") [va, vb, vc]) (Res F s (bestV ltV a [b, c])) E s := by
  have rl : RdL F (#[va, vb, vc] : Array Value).toList [a, b, c] := .cons r1 (.cons r2 (.cons r3 .nil))
  exact ⟨upT (call_max_three (tup_src rm bs rl (by show 0 < 3; decide) (cmpOf rl hk).1 fun v h' tk hv m => ⟨F, m, best_end rl hv⟩)),
    upT (call_min_three (tup_src rm bs rl (by show 0 < 3; decide) (cmpOf rl hk).2 fun v h' tk hv m => ⟨F, m, best_end rl hv⟩))⟩
theorem min2_tr {A : Around} {E : Value → Shared → Prop} {F : Fz} {s : Shared} {a b : V} {va vb : Value} (rm : Room d A) (bs : Bs g defs F s) (hk : sameKind [a, b]) (r1 : Rd F va a) (r2 : Rd F vb b) :
    wpAny (model g.prog g.w) A (PySem.call (.builtin "min") [va, vb]) (Res F s (bestV ltV a [b])) E s := by
  have rl : RdL F (#[va, vb] : Array Value).toList [a, b] := .cons r1 (.cons r2 .nil)
  exact upT (call_min_two (tup_src rm bs rl (by show 0 < 2; decide) (cmpOf rl hk).2 fun v h' tk hv m => ⟨F, m, best_end rl hv⟩))

theorem preSum_at {l : List V} : ∀ k, k ≤ l.length → preSum (fun i => intOf ((l[i]?).getD .none)) k = ((l.take k).map intOf).sum := by
  intro k
  induction k with
  | zero => intro _; rfl
  | succ k ih =>
    intro h
    show preSum _ k + intOf ((l[k]?).getD .none) = _
    rw [ih (Nat.le_of_succ_le h), List.take_add_one, List.map_append, List.sum_append, List.getElem?_eq_getElem (Nat.lt_of_succ_le h)]
    exact congrArg _ (Int.add_zero _).symm

theorem sum_tr {A : Around} {E : Value → Shared → Prop} {F : Fz} {s : Shared} {a : Addr} {o : Obj} {xs : Array Value} {n : Nat} (rm : Room d A) (bs : Bs g defs F s) (e : F a = some o) (c : o.cls = .type "list") (dd : o.data = .seq xs n) {l : List V} (rl : RdL F xs.toList l) (ha : l.all isInt = true) :
    wpAny (model g.prog g.w) A (PySem.call (.builtin "sum") [.ref a]) (Res F s (.int (sumV l))) E s := by
    · have hl : s.heap.IsList a xs := ⟨o, bs.sub _ _ e, c, n, dd⟩
      have hlt := Heap.lt_size (bs.sub _ _ e)
      have hlen : xs.size = l.length := by have := rl.length; simpa using this
      have m₁ : Mv F s F { s with heap := s.heap.push { cls := .type "list_iterator", data := .fields #[.ref a, .int 0 0] } } := Mv.keep bs.sub (fun b o e => Heap.get?_push_of_some _ e) (Nat.le_refl _)
      refine upT (call_sum_walkG (wpAny_pyIter_list hl ⟨_, _, _, _, _, _, fun i => intOf ((l[i]?).getD .none), rfl, Walks.list (A := A.in1) rm.hd s.heap.objs.size a (Nat.ne_of_lt hlt) xs, ⟨⟨_, Heap.get?_push_size _ rfl, rfl, rfl⟩, hl.push _⟩, fun b hb => ?_, fun i v hv => ?_, fun h' tk t' hk' htk => ?_⟩))
      · show b < (Heap.push _ _).objs.size
        rw [Heap.size_push]
        rcases List.mem_cons.mp hb with rfl | hb
        · exact Nat.lt_succ_self _
        · rw [List.mem_singleton.mp hb]; exact Nat.lt_succ_of_lt hlt
      · have hv' : xs[i]? = some v := hv
        refine xEA (rl.get' (i := i) (v := v) (by rw [Array.getElem?_toList]; exact hv')) fun x hx rx => ?_
        refine xEEA (int_rx rx (List.all_eq_true.mp ha x (List.mem_of_getElem? hx))) fun j t e1 e2 => ?_
        refine ⟨t, ?_⟩
        show v = .int (intOf ((l[i]?).getD .none)) t
        rw [hx, e1]; exact e2
      · have e1 : preSum (fun i => intOf ((l[i]?).getD .none)) xs.size = sumV l := by
          rw [hlen, preSum_at l.length (Nat.le_refl _), List.take_length]; rfl
        rw [e1]
        exact ⟨F, walk_mv m₁ (get_none_size _) (fz_size bs.sub (Nat.le_refl _)) hk' htk, .int⟩

theorem len_tr {xs : List V} {y : V} (h : lenB xs = some y) : Tr g defs d xs (fun vs => PySem.call (.builtin "len") vs) y := fun A E F s vs rm bs r =>
  r1E r h fun v x r h => oE h (fun h => lR r h fun a o xs n l e c dd rl h => iS h fun hl h => jS h (by
      have hlen := rd_size rl
      refine up (Calls.call_len_list (s := s) (items := xs) ⟨o, bs.sub _ _ e, c, n, dd⟩ (by rw [hlen]; lia) ?_)
      rw [hlen]
      exact resT bs rfl .int))
    fun h => sR r h fun i t h => iS h fun hl h => jS h (up (P.len_str (by lia) (resT bs rfl .int)))
theorem sumB_tr {xs : List V} {y : V} (h : sumB xs = some y) : Tr g defs d xs (fun vs => PySem.call (.builtin "sum") vs) y := fun A E F s vs rm bs r =>
  r1E r h fun v x r h => lR r h fun a o xs n l e c dd rl h => iS h fun hl h => jS h (sum_tr rm bs e c dd rl hl)
theorem maxB_tr {xs : List V} {y : V} (h : maxB xs = some y) : Tr g defs d xs (fun vs => PySem.call (.builtin "max") vs) y := fun A E F s vs rm bs r =>
  oE h (fun h => r1E r h fun v x r h => lR r h fun a o xs n l e c dd rl h => oBE h fun is hi h => by
      revert hi h
      cases is with
      | nil => exact fun _ h => nS h
      | cons i is =>
        intro hi h
        rw [← Option.some.inj h, ← best_ints]
        rw [intsOf_eq hi] at rl
        exact max_list_tr rm bs e c dd rl (.inl (ints_all (i :: is))))
    fun h => r3E r h fun v x u y t z a b c h => iS h fun hf h => jS h (max3_tr rm bs (.inr hf) a b c).1
theorem minB_tr {xs : List V} {y : V} (h : minB xs = some y) : Tr g defs d xs (fun vs => PySem.call (.builtin "min") vs) y := fun A E F s vs rm bs r =>
  oE h (fun h => r2E r h fun v x u y a b h => iS h fun hf h => jS h (min2_tr rm bs (.inr hf) a b))
    fun h => r3E r h fun v x u y t z a b c h => iS h fun hf h => jS h (max3_tr rm bs (.inr hf) a b c).2
theorem abs_tr {xs : List V} {y : V} (h : absB xs = some y) : Tr g defs d xs (fun vs => PySem.call (.builtin "abs") vs) y := fun A E F s vs rm bs r =>
  r1E r h fun v x r h => iR r h fun i t h => jS h (up (call_abs_int fun u tk => resT bs rfl .int))
theorem dm_tr {xs : List V} {y : V} (h : dmB xs = some y) : Tr g defs d xs (fun vs => PySem.call (.builtin "divmod") vs) y := fun A E F s vs rm bs r =>
  r2E r h fun v x u y r1 r2 h => iR r1 h fun a t h => iR r2 h fun b t h => iN h fun hb h => iS h fun hs h => jS h (upT (divmod_int hb (fun htk => by
    have m := Mv.push bs.sub (o := { cls := .type "tuple", data := .seq #[.int (a.fdiv b) s.toks, .int (a.fmod b) (s.toks + 1)] }) rfl htk
    exact ⟨_, m, .tup (put_self _ _ _) rfl rfl (.cons .int (.cons .int .nil))⟩) (.inl (PyProof.noPylong_small hs))))
theorem int_tr {xs : List V} {y : V} (h : intB xs = some y) : Tr g defs d xs (fun vs => PySem.call (.type "int") vs) y := fun A E F s vs rm bs r =>
  r1E r h fun v x r h => oE h (fun h => iR r h fun i t h => jS h (up (call_int_int (resT bs rfl .int))))
    fun h => fltR r h fun i t _ h => oBE h fun j hj h => jS h (xEEEA (trunc_at hj) fun sg m e hd e2 => e2 ▸ up (call_int_float hd (resT bs rfl .int)))
theorem ord_tr {xs : List V} {y : V} (h : ordB xs = some y) : Tr g defs d xs (fun vs => PySem.call (.builtin "ord") vs) y := fun A E F s vs rm bs r =>
  r1E r h fun v x r h => sR r h fun i t h => iS h fun hl h => jS h (up (ord_of_one hl (resT bs rfl .int)))
theorem tup_tr {xs : List V} {y : V} (h : tupB xs = some y) : Tr g defs d xs (fun vs => PySem.call (.type "tuple") vs) y := fun A E F s vs rm bs r =>
  r1E r h fun v x r h => lR r h fun a o xs n l e c dd rl h => iS h fun hl h => jS h (by
    refine PySem.call_tuple_list (s := s) (items := xs) (hsz := by rw [rd_size rl, sizeLine]; lia) ⟨o, bs.sub _ _ e, c, n, dd⟩ fun h' hk => ?_
    have m₁ : Mv F s F { s with heap := h' } := Mv.keep bs.sub hk (Nat.le_refl _)
    have m₂ := Mv.push m₁.sub (s := { s with heap := h' }) (o := { cls := .type "tuple", data := .seq xs }) rfl (Nat.le_refl s.toks)
    exact ⟨_, m₁.trans m₂, .tup (put_self _ _ _) rfl rfl (rl.mono m₂.up)⟩)
theorem Tr.blt {n : Str} {xs : List V} {y : V} (h : bltV n xs = some y) : Tr g defs d xs (fun vs => PySem.call (bltF n) vs) y :=
  jE h (fun hn h => hn ▸ len_tr h) fun h => jE h (fun hn h => hn ▸ sumB_tr h) fun h => jE h (fun hn h => hn ▸ maxB_tr h) fun h => jE h (fun hn h => hn ▸ minB_tr h) fun h => jE h (fun hn h => hn ▸ abs_tr h)
  fun h => jE h (fun hn h => hn ▸ dm_tr h) fun h => jE h (fun hn h => hn ▸ int_tr h) fun h => jE h (fun hn h => hn ▸ ord_tr h) fun h => jE h (fun hn h => hn ▸ tup_tr h) fun h => nS h
end
end Mine

namespace Mine
open PySem PyProof.Rows PySem.W PySem.SeqAt

theorem rx_plainAttrs_match : PlainAttrs "re.Match" :=
  ⟨⟨"object.__getattribute__", by rw [typeLookup_type, builtinLookup_eq_fast]; kernel_rfl, by decide +kernel⟩, by rw [typeLookup_type, builtinLookup_eq_fast]; kernel_rfl⟩
theorem rx_plainAttrs_pat : PlainAttrs "re.Pattern" :=
  ⟨⟨"object.__getattribute__", by rw [typeLookup_type, builtinLookup_eq_fast]; kernel_rfl, by decide +kernel⟩, by rw [typeLookup_type, builtinLookup_eq_fast]; kernel_rfl⟩
theorem rx_slot_search : Slot "re.Pattern" "search" "re.Pattern.search" :=
  .of (owner := "re.Pattern") (n := "search") (by rw [typeLookup_type, builtinLookup_eq_fast]; kernel_rfl) (by decide +kernel) (by decide +kernel) (by decide +kernel)
    (by first | exact .inl (by decide +kernel) | exact .inr (by decide +kernel)) (by rw [isSubtype_type]; kernel_rfl)
theorem rx_type_search : typeOf (.builtin "re.Pattern.search") = pure (.type "method_descriptor") := by show builtinType _ = _; rw [builtinType_eq_fast]; kernel_rfl
theorem rx_entry_search : entryFor table "re.Pattern.search" = some Builtin.«re.Pattern.search» := entryFor_of_tree (by kernel_rfl)
theorem rx_args_search (a b : Value) : argsOk "re.Pattern.search" ⟨[a, b], []⟩ := by unfold argsOk; kernel_rfl
theorem rx_slot_span : Slot "re.Match" "span" "re.Match.span" :=
  .of (owner := "re.Match") (n := "span") (by rw [typeLookup_type, builtinLookup_eq_fast]; kernel_rfl) (by decide +kernel) (by decide +kernel) (by decide +kernel)
    (by first | exact .inl (by decide +kernel) | exact .inr (by decide +kernel)) (by rw [isSubtype_type]; kernel_rfl)
theorem rx_type_span : typeOf (.builtin "re.Match.span") = pure (.type "method_descriptor") := by show builtinType _ = _; rw [builtinType_eq_fast]; kernel_rfl
theorem rx_entry_span : entryFor table "re.Match.span" = some Builtin.«re.Match.span» := entryFor_of_tree (by kernel_rfl)
theorem rx_args_span (a b : Value) : argsOk "re.Match.span" ⟨[a, b], []⟩ := by unfold argsOk; kernel_rfl
theorem rx_slot_group : Slot "re.Match" "group" "re.Match.group" :=
  .of (owner := "re.Match") (n := "group") (by rw [typeLookup_type, builtinLookup_eq_fast]; kernel_rfl) (by decide +kernel) (by decide +kernel) (by decide +kernel)
    (by first | exact .inl (by decide +kernel) | exact .inr (by decide +kernel)) (by rw [isSubtype_type]; kernel_rfl)
theorem rx_type_group : typeOf (.builtin "re.Match.group") = pure (.type "method_descriptor") := by show builtinType _ = _; rw [builtinType_eq_fast]; kernel_rfl
theorem rx_entry_group : entryFor table "re.Match.group" = some Builtin.«re.Match.group» := entryFor_of_tree (by kernel_rfl)
theorem rx_args_group (a b : Value) : argsOk "re.Match.group" ⟨[a, b], []⟩ := by unfold argsOk; kernel_rfl
end Mine

namespace Mine
open PySem PyProof.Rows PySem.W PySem.SeqAt PySem.Builtin PySem.Builtin.Re

section
variable {g : Gl} {defs : List Fd} {d : Nat}

theorem rx_found {M : Model} {A : Around} {E : Value → Shared → Prop} {F : Fz} {s : Shared} {a : Addr} {o : Obj} {T : Addr} {oT : Obj} {t : Str} {tk : Tok} {p q r u : Value} {n : Nat} {b e c f : Nat} {Q : ReFound → Shared → Prop} (sub : Sub F s.heap)
    (e1 : F a = some o) (e3 : o.data = .fields #[.str t tk, p, q, r, u, .ref T]) (e4 : F T = some oT) (e6 : oT.data = .seq #[rawInt b, rawInt e, rawInt c, rawInt f] n)
    (h : Q ⟨#[.str t tk, p, q, r, u, .ref T], #[(b : Int), e, c, f]⟩ s) : wpAny M A (reFound (.ref a)) Q E s := by
  unfold reFound
  refine wpAny_bind (wpAny_fieldsOf (sub _ _ e1) e3 ?_)
  refine wpAny_bind ?_
  unfold reRawItems
  refine wpAny_bind (wpAny_seqItems (sub _ _ e4) e6 ?_)
  have e0 : Array.map reRawOf ((some #[rawInt (b : Int), rawInt (e : Int), rawInt (c : Int), rawInt (f : Int)]).getD #[]) = #[(b : Int), e, c, f] := by simp [reRawOf, rawInt]
  exact wpAny_pure (wpAny_pure (by rw [e0]; exact h))

theorem rx_text {M : Model} {A : Around} {E : Value → Shared → Prop} {s : Shared} {t : Str} {tk : Tok} {Q : Array Nat × Nat → Shared → Prop} (h : Q (t.cps, 0) s) : wpAny M A (reTextOf (.str t tk)) Q E s := by
  unfold reTextOf
  exact wpAny_bind (wpAny_pure (wpAny_pure h))

theorem rx_group {t : Str} {b e c f : Nat} (hl : t.length ≤ 100000) : Tr g defs d [.mat t b e c f, .int 1] (fun vs => PySem.call (.builtin "re.Match.group") vs) (.str ⟨t.cps.extract c f⟩) := fun A E F s vs rm bs r => by
  refine RdL.conse r fun _ _ r1 r => ?_
  · refine RdL.conse r fun _ _ r2 r => ?_
    · (first | refine Rd.ie r fun _ => ?_ | refine Rd.se r fun _ => ?_ | refine Rd.fe r fun _ _ => ?_ | refine Rd.be r fun _ => ?_ | refine Rd.ne r ?_ | refine RdL.nile r ?_ | cases r)
      (first | refine Rd.ie r2 fun _ => ?_ | refine Rd.se r2 fun _ => ?_ | refine Rd.fe r2 fun _ _ => ?_ | refine Rd.be r2 fun _ => ?_ | refine Rd.ne r2 ?_ | refine RdL.nile r2 ?_ | cases r2)
      refine Rd.me r1 fun _ _ _ _ _ _ _ _ _ _ e1 e2 e3 e4 e5 e6 _ => ?_
      · refine upT (wpAny_call_entry rx_slot_group ⟨_, bs.sub _ _ e1, e2⟩ rx_entry_group ?_ (rx_args_group _ _))
        show wpAny _ _ (reFound _ >>= fun x => reGroupNumber x _ >>= fun k => reGroupText x k .none >>= fun v => ret v) _ _ s
        refine wpAny_bind (rx_found bs.sub e1 e3 e4 e6 ?_)
        refine wpAny_bind (wpAny_of_eq (a := 1) rfl ?_)
        refine wpAny_bind ?_
        unfold reGroupText
        show wpAny _ _ (if (decide ((c : Int) < 0) || decide ((f : Int) < 0)) = true then _ else _) _ _ s
        have hn : (decide ((c : Int) < 0) || decide ((f : Int) < 0)) = false := by
          simp only [Bool.or_eq_false_iff, decide_eq_false_iff_not]; lia
        rw [hn, if_neg Bool.false_ne_true]
        refine wpAny_bind (rx_text ?_)
        show wpAny _ _ (mkStr ⟨t.cps.extract c f⟩) _ _ s
        refine wpAny_mkStr (wpAny_pure ⟨_, rfl, fun htk => ⟨F, Mv.toks bs.sub (Nat.le_succ _), .str⟩⟩) ?_
        have h1 : (⟨t.cps.extract c f⟩ : Str).length ≤ t.length := by
          show (t.cps.extract c f).size ≤ t.cps.size
          rw [Array.size_extract]; lia
        rw [sizeLine]; lia

theorem rx_span {t : Str} {b e c f : Nat} : Tr g defs d [.mat t b e c f, .int 0] (fun vs => PySem.call (.builtin "re.Match.span") vs) (.tup [.int b, .int e]) := fun A E F s vs rm bs r => by
  refine RdL.conse r fun _ _ r1 r => ?_
  · refine RdL.conse r fun _ _ r2 r => ?_
    · (first | refine Rd.ie r fun _ => ?_ | refine Rd.se r fun _ => ?_ | refine Rd.fe r fun _ _ => ?_ | refine Rd.be r fun _ => ?_ | refine Rd.ne r ?_ | refine RdL.nile r ?_ | cases r)
      (first | refine Rd.ie r2 fun _ => ?_ | refine Rd.se r2 fun _ => ?_ | refine Rd.fe r2 fun _ _ => ?_ | refine Rd.be r2 fun _ => ?_ | refine Rd.ne r2 ?_ | refine RdL.nile r2 ?_ | cases r2)
      refine Rd.me r1 fun _ _ _ _ _ _ _ _ _ _ e1 e2 e3 e4 e5 e6 _ => ?_
      · refine upT (wpAny_call_entry rx_slot_span ⟨_, bs.sub _ _ e1, e2⟩ rx_entry_span ?_ (rx_args_span _ _))
        show wpAny _ _ (reOneGroup "Match.span" "span" _ >>= fun x => _) _ _ s
        refine wpAny_bind ?_
        unfold reOneGroup
        refine wpAny_bind (wpAny_of_eq (a := (_, [_])) rfl ?_)
        refine wpAny_bind (rx_found bs.sub e1 e3 e4 e6 ?_)
        refine wpAny_bind (wpAny_of_eq (a := 0) rfl ?_)
        refine wpAny_pure ?_
        refine wpAny_bind (wpAny_mkInt ?_)
        refine wpAny_bind (wpAny_mkInt ?_)
        refine wpAny_bind (wpAny_newObj_type (wpAny_pure ⟨_, rfl, fun htk => ?_⟩))
        have m := Mv.push bs.sub (o := { cls := .type "tuple", data := .seq #[.int (b : Int) s.toks, .int (e : Int) (s.toks + 1)] }) rfl htk
        exact ⟨_, m, .tup (put_self _ _ _) rfl rfl (.cons .int (.cons .int .nil))⟩
end
end Mine

namespace Mine
open PySem PyProof.Rows PySem.W PySem.SeqAt PySem.Builtin PySem.Builtin.Re

theorem rx_typeOf_string : typeOf (.builtin "re.Match.string") = pure (.type "member_descriptor") := by show builtinType _ = _; rw [builtinType_eq_fast]; kernel_rfl
theorem rx_slot_ms_get : Slot "member_descriptor" "__get__" "member_descriptor.__get__" :=
  .of (owner := "member_descriptor") (n := "__get__") (by rw [typeLookup_type, builtinLookup_eq_fast]; kernel_rfl) (by decide +kernel) (by decide +kernel) (by decide +kernel)
    (by first | exact .inl (by decide +kernel) | exact .inr (by decide +kernel)) (by rw [isSubtype_type]; kernel_rfl)
theorem rx_slot_ms_set : Slot "member_descriptor" "__set__" "member_descriptor.__set__" :=
  .of (owner := "member_descriptor") (n := "__set__") (by rw [typeLookup_type, builtinLookup_eq_fast]; kernel_rfl) (by decide +kernel) (by decide +kernel) (by decide +kernel)
    (by first | exact .inl (by decide +kernel) | exact .inr (by decide +kernel)) (by rw [isSubtype_type]; kernel_rfl)
theorem rx_entry_ms_get : entryFor table "member_descriptor.__get__" = some Builtin.«member_descriptor.__get__» := entryFor_of_tree (by kernel_rfl)
theorem rx_args_ms_get (a b c : Value) : argsOk "member_descriptor.__get__" ⟨[a, b, c], []⟩ := by unfold argsOk; kernel_rfl
theorem rx_entry_string : entryFor table "re.Match.string" = some Builtin.«re.Match.string» := entryFor_of_tree (by kernel_rfl)
theorem rx_slot_ga : Slot "re.Match" "__getattribute__" "object.__getattribute__" :=
  .of (owner := "object") (n := "__getattribute__") (by rw [typeLookup_type, builtinLookup_eq_fast]; kernel_rfl) (by decide +kernel) (by decide +kernel) (by decide +kernel)
    (by first | exact .inl (by decide +kernel) | exact .inr (by decide +kernel)) (by rw [isSubtype_type]; kernel_rfl)
theorem rx_entry_ga : entryFor table "object.__getattribute__" = some Builtin.«object.__getattribute__» := entryFor_of_tree (by kernel_rfl)
theorem rx_args_ga (a b : Value) : argsOk "object.__getattribute__" ⟨[a, b], []⟩ := by unfold argsOk; kernel_rfl
theorem rx_lk_string : typeLookup (.type "re.Match") "string" = pure (some (.builtin "re.Match.string")) := by rw [typeLookup_type, builtinLookup_eq_fast]; kernel_rfl
theorem rx_owner_string : (".".intercalate ("re.Match.string".cutAt '.').dropLast) = "re.Match" := by
  have e0 : "re.Match.string".cutAt '.' = ["re", "Match", "string"] := by first | rfl | decide +kernel
  rw [e0]; decide +kernel
theorem rx_sub_string : isSubtype (.type "re.Match") (.type (".".intercalate ("re.Match.string".cutAt '.').dropLast)) = pure true := by
  rw [rx_owner_string, isSubtype_type]; kernel_rfl

section
variable {prog : Program} {w : World} {A : Around} {E : Value → Shared → Prop} {h : Heap} {g : Array GenState} {d : Drawn} {t : Nat} {os : OsState} {a : Addr} {o : Obj} {vs : Array Value} {x : Str} {u : Tok}

theorem rx_get {R : Result → Shared → Prop} (hx : h.get? a = some o) (hc : o.cls = .type "re.Match") (hd : o.data = .fields vs) (hv : vs[0]? = some (.str x u)) (hq : R (.ok (.ret (.str x u))) ⟨h, g, d, t, os⟩) :
    codeAny (model prog w) A (.call (.builtin "member_descriptor.__get__") ⟨[.builtin "re.Match.string", .ref a, .type "re.Match"], []⟩) R ⟨h, g, d, t, os⟩ := by
  have hT : (⟨h, g, d, t, os⟩ : Shared).TypeIs (.ref a) "re.Match" := ⟨_, hx, hc⟩
  have hT5 : (⟨h, g, d, t, os⟩ : Shared).TypeIs (.builtin "re.Match.string") "member_descriptor" := rx_typeOf_string
  have f8 := rx_sub_string
  refine codeAny_call_builtin rx_slot_ms_get.plain rx_entry_ms_get (rx_slot_ms_get.check _ _ _ _ _ _ _ _ hT5 (rx_args_ms_get _ _ _) ?_)
  repeat (any_goals (first | assumption | wp_step))
  refine ⟨Code.quiet_builtin _ (by decide +kernel), codeAny_builtin rx_entry_string ?_⟩
  show wpAny _ _ (field (.ref a) 0 >>= fun v => ret v) _ _ _
  exact wpAny_bind (wpAny_field (s := ⟨h, g, d, t, os⟩) hx hd hv (wpAny_pure hq))

theorem rx_entry {tk : Tok} {Q : Fin → Shared → Prop} (hx : h.get? a = some o) (hc : o.cls = .type "re.Match") (hd : o.data = .fields vs) (hv : vs[0]? = some (.str x u)) (hq : Q (.done (.ret (.str x u))) ⟨h, g, d, t, os⟩) :
    wpAny (model prog w) A (Builtin.«object.__getattribute__» ⟨[.ref a, .str "string" tk], []⟩) Q E ⟨h, g, d, t, os⟩ := by
  have hT : (⟨h, g, d, t, os⟩ : Shared).TypeIs (.ref a) "re.Match" := ⟨_, hx, hc⟩
  have hT5 : (⟨h, g, d, t, os⟩ : Shared).TypeIs (.builtin "re.Match.string") "member_descriptor" := rx_typeOf_string
  have f4 := rx_lk_string
  have f5 := rx_typeOf_string
  have f6 := rx_slot_ms_get.lookup
  have f7 := rx_slot_ms_set.lookup
  repeat (any_goals (first | assumption | wp_step))
  refine rx_get hx hc hd hv ?_
  repeat (any_goals (first | assumption | wp_step))

theorem rx_call {tk : Tok} {R : Result → Shared → Prop} (hx : h.get? a = some o) (hc : o.cls = .type "re.Match") (hd : o.data = .fields vs) (hv : vs[0]? = some (.str x u)) (hq : R (.ok (.ret (.str x u))) ⟨h, g, d, t, os⟩) :
    codeAny (model prog w) A (.call (.builtin "object.__getattribute__") ⟨[.ref a, .str "string" tk], []⟩) R ⟨h, g, d, t, os⟩ :=
  codeAny_call_builtin rx_slot_ga.plain rx_entry_ga (rx_slot_ga.check _ _ _ _ _ _ _ _ (show (⟨h, g, d, t, os⟩ : Shared).TypeIs (.ref a) "re.Match" from ⟨_, hx, hc⟩) (rx_args_ga _ _) (rx_entry hx hc hd hv hq))

theorem rx_by {tk : Tok} {Q : Value → Shared → Prop} (hx : h.get? a = some o) (hc : o.cls = .type "re.Match") (hd : o.data = .fields vs) (hv : vs[0]? = some (.str x u)) (hq : Q (.str x u) ⟨h, g, d, t, os⟩) :
    wpAny (model prog w) A (getAttrBy (.ref a) (.str "string" tk) true true) Q E ⟨h, g, d, t, os⟩ := by
  have hT : (⟨h, g, d, t, os⟩ : Shared).TypeIs (.ref a) "re.Match" := ⟨_, hx, hc⟩
  have f2 := rx_slot_ga.lookup
  have f3 := rx_slot_ga.bind (.ref a)
  repeat (any_goals (first | assumption | wp_step))
  refine rx_call hx hc hd hv ?_
  repeat (any_goals (first | assumption | wp_step))

theorem rx_attr {Q : Value → Shared → Prop} (hx : h.get? a = some o) (hc : o.cls = .type "re.Match") (hd : o.data = .fields vs) (hv : vs[0]? = some (.str x u)) (hq : Q (.str x u) ⟨h, g, d, t + 1, os⟩) :
    wpAny (model prog w) A (getAttr (.ref a) "string" true) Q E ⟨h, g, d, t, os⟩ := by
  unfold getAttr
  refine wpAny_bind (wpAny_mkText ?_)
  exact rx_by hx hc hd hv hq
end
section
variable {g : Gl} {defs : List Fd} {d : Nat} {env : Env} {ρ : Rho} {ω : Omg}
/-- the text that was matched -/
theorem Ev.mstring {n : Str} {np pos : Pos} {t : Str} {b e c f : Nat} (h : Ev g defs d env ρ (.Name n np) (.mat t b e c f)) : Ev g defs d env ρ (.Attribute (.Name n np) "string" pos) (.str t) := fun A E F s rm ok => by
  refine PyProof.Rows.Attribute_name (wpAny_mono (h A E F s rm ok) (fun v s₁ h₁ => ?_) fun _ _ h => h)
  (refine xEA h₁ ?_; clear h₁; intro F₁ m₁ r₁)
  refine Rd.me r₁ fun _ _ _ _ _ _ _ _ _ _ e1 e2 e3 e4 e5 e6 _ => ?_
  exact rx_attr (m₁.sub _ _ e1) e2 e3 rfl ⟨F₁, m₁.trans (Mv.toks m₁.sub (Nat.le_succ _)), .str⟩
end
end Mine

namespace Mine
open PySem PySem.Sre

noncomputable def hexC (c : Nat) : Bool := c < 256 && (rxCode.getD (16 + c / 32) 0).testBit (c % 32)

/-- where a run of the matcher comes to -/
noncomputable def Reach (b : Nat) (m m' : M) : Prop := ∃ k, k ≤ b ∧ ∀ j, M.runFor (k + j) m = M.runFor j m'
theorem Reach.refl {b : Nat} {m : M} : Reach b m m := ⟨0, Nat.zero_le _, fun j => by rw [Nat.zero_add]⟩
theorem Reach.trans {b c : Nat} {m m' m'' : M} (x : Reach b m m') (y : Reach c m' m'') : Reach (b + c) m m'' := by
  (refine xEA x ?_; clear x; intro k hk hx)
  (refine xEA y ?_; clear y; intro l hl hy)
  exact ⟨k + l, by lia, fun j => by rw [Nat.add_assoc, hx, hy]⟩
theorem Reach.step {m m' : M} (ho : m.outcome = none) (h : m.step = m') : Reach 1 m m' := ⟨1, Nat.le_refl _, fun j => by
  subst h
  rw [Nat.add_comm]
  show (if m.outcome.isSome then m else M.runFor j m.step) = _
  rw [ho]; rfl⟩
theorem Reach.le {b c : Nat} {m m' : M} (x : Reach b m m') (h : b ≤ c) : Reach c m m' := xEA x fun k hk hx => ⟨k, Nat.le_trans hk h, hx⟩
theorem runFor_done {m : M} (h : m.outcome.isSome = true) : ∀ j, M.runFor j m = m
  | 0 => rfl
  | j + 1 => by
    show (if m.outcome.isSome then m else M.runFor j m.step) = _
    rw [h]; rfl

/-- the matcher at a start -/
noncomputable def atS (x : Array Nat) (s : Nat) (fst : Bool) (mk : Array (Option Nat)) (sn : Seen) : M :=
  { code := rxCode, text := x, lim := x.size, start := s, lastStart := x.size, pc := 9, pos := s, handed := s, outermost := fst, marks := mk, frames := [{ wait := .nextStart, pc := 9, pos := s, outermost := fst }], weight := 1, seen := sn }
/-- within an attempt -/
noncomputable def atP (x : Array Nat) (s pc p : Nat) (fst : Bool) (mk : Array (Option Nat)) (lm li : Int) (sn : Seen) : M :=
  { code := rxCode, text := x, lim := x.size, start := s, lastStart := x.size, pc := pc, pos := p, handed := s, outermost := fst, marks := mk, lastmark := lm, lastindex := li, frames := [{ wait := .nextStart, pc := 9, pos := s, outermost := fst }], weight := 1, seen := sn }
/-- an attempt that failed -/
noncomputable def atF (x : Array Nat) (s pc p : Nat) (fst : Bool) (mk : Array (Option Nat)) (lm li : Int) (sn : Seen) : M := { atP x s pc p fst mk lm li sn with answer := some false }

variable {x : Array Nat} {s : Nat} {fst : Bool} {mk : Array (Option Nat)} {sn : Seen}

theorem rx_fail_next {pc p : Nat} {lm li : Int} (h : s < x.size) : Reach 1 (atF x s pc p fst mk lm li sn) (atS x (s + 1) false mk sn) := by
  refine Reach.step rfl ?_
  show (if s < x.size then _ else _) = _
  rw [if_pos h]
  rfl
theorem rx_fail_end {pc p : Nat} {lm li : Int} (h : ¬ s < x.size) : ∃ m, Reach 2 (atF x s pc p fst mk lm li sn) m ∧ m.outcome = some .failed := by
  let m1 : M := { atP x s pc p fst mk lm li sn with frames := [], weight := 0, pc := 9, pos := s, outermost := fst, answer := some false }
  have h1 : Reach 1 (atF x s pc p fst mk lm li sn) m1 := by
    refine Reach.step rfl ?_
    show (if s < x.size then _ else _) = _
    rw [if_neg h]
    rfl
  have h2 : Reach 1 m1 { m1 with outcome := some .failed } := Reach.step rfl rfl
  exact ⟨_, h1.trans h2, rfl⟩

theorem rx_lit_ok (h : s < x.size) (hc : x.getD s 0 = 37) : ∃ sn', Reach 1 (atS x s fst mk sn) (atP x s 11 (s + 1) fst mk (-1) (-1) sn') := by
  refine ⟨sn.add 16, Reach.step rfl ?_⟩
  show (if s ≥ x.size then _ else match (Except.ok (x.getD s 0 == 37, sn.add 16) : Except String (Bool × Seen)) with | .error why => _ | .ok (false, seen) => _ | .ok (true, seen) => _) = _
  rw [if_neg (by lia), hc]
  rfl
theorem rx_lit_no (h : s < x.size) (hc : x.getD s 0 ≠ 37) : ∃ sn', Reach 1 (atS x s fst mk sn) (atF x s 9 s fst mk (-1) (-1) sn') := by
  refine ⟨sn.add 16, Reach.step rfl ?_⟩
  have hc' : (x.getD s 0 == 37) = false := by simpa using hc
  show (if s ≥ x.size then _ else match (Except.ok (x.getD s 0 == 37, sn.add 16) : Except String (Bool × Seen)) with | .error why => _ | .ok (false, seen) => _ | .ok (true, seen) => _) = _
  rw [if_neg (by lia), hc']
  rfl
theorem rx_lit_end (h : ¬ s < x.size) : ∃ sn', Reach 1 (atS x s fst mk sn) (atF x s 9 s fst mk (-1) (-1) sn') := by
  refine ⟨sn.add 16, Reach.step rfl ?_⟩
  show (if s ≥ x.size then _ else _) = _
  rw [if_pos (by lia)]
  rfl
theorem rx_mark0 {p : Nat} : ∃ sn', Reach 1 (atP x s 11 p fst mk (-1) (-1) sn) (atP x s 13 p fst (mk.setIfInBounds 0 (some p)) 0 (-1) sn') := ⟨sn.add 17, Reach.step rfl rfl⟩
theorem rx_mark1 {p : Nat} : ∃ sn', Reach 1 (atP x s 37 p fst mk 0 (-1) sn) (atP x s 39 p fst (mk.setIfInBounds 1 (some p)) 1 1 sn') := ⟨sn.add 17, Reach.step rfl (by kernel_rfl)⟩

theorem inSet_15 (c : Nat) (sn : Seen) : ∃ sn', inSet rxCode c 40 15 true sn = .ok (hexC c, sn') := by
  have e : inSet rxCode c 40 15 true sn = if (decide (c < 256) && (rxCode.getD (15 + (1 + c / 32)) 0).testBit (c % 32)) = true then .ok (true, sn.add 9) else .ok (false, (sn.add 9).add 0) := rfl
  rw [e]
  have e2 : 15 + (1 + c / 32) = 16 + c / 32 := by lia
  rw [e2]
  unfold hexC
  split
  · rename_i h; rw [h]; exact ⟨_, rfl⟩
  · rename_i h
    have h' : (decide (c < 256) && (rxCode.getD (16 + c / 32) 0).testBit (c % 32)) = false := by simpa using h
    rw [h']; exact ⟨_, rfl⟩
theorem inSet_27 (c : Nat) (sn : Seen) : ∃ sn', inSet rxCode c 40 27 true sn = .ok (hexC c, sn') := by
  have e : inSet rxCode c 40 27 true sn = if (decide (c < 256) && (rxCode.getD (27 + (1 + c / 32)) 0).testBit (c % 32)) = true then .ok (true, sn.add 9) else .ok (false, (sn.add 9).add 0) := rfl
  have e2 : (decide (c < 256) && (rxCode.getD (27 + (1 + c / 32)) 0).testBit (c % 32)) = hexC c := by
    unfold hexC
    by_cases h : c < 256
    · have h8 : c / 32 < 8 := by lia
      have e3 : rxCode.getD (27 + (1 + c / 32)) 0 = rxCode.getD (16 + c / 32) 0 := by
        generalize c / 32 = k at h8
        have : k = 0 ∨ k = 1 ∨ k = 2 ∨ k = 3 ∨ k = 4 ∨ k = 5 ∨ k = 6 ∨ k = 7 := by lia
        rcases this with rfl | rfl | rfl | rfl | rfl | rfl | rfl | rfl <;> rfl
      rw [e3]
    · rw [decide_eq_false h]; rfl
  rw [e, e2]
  cases hexC c
  · exact ⟨_, rfl⟩
  · exact ⟨_, rfl⟩

theorem rx_in1_ok {p : Nat} {lm li : Int} (h : p < x.size) (hc : hexC (x.getD p 0) = true) : ∃ sn', Reach 1 (atP x s 13 p fst mk lm li sn) (atP x s 25 (p + 1) fst mk lm li sn') := by
  refine xE (inSet_15 (x.getD p 0) (sn.add 13)) fun sn' e => ?_
  refine ⟨sn', Reach.step rfl ?_⟩
  show (if p ≥ x.size then _ else match inSet rxCode (x.getD p 0) 40 15 true (sn.add 13) with | .error why => _ | .ok (false, seen) => _ | .ok (true, seen) => _) = _
  rw [if_neg (by lia), e, hc]
  rfl
theorem rx_in2_ok {p : Nat} {lm li : Int} (h : p < x.size) (hc : hexC (x.getD p 0) = true) : ∃ sn', Reach 1 (atP x s 25 p fst mk lm li sn) (atP x s 37 (p + 1) fst mk lm li sn') := by
  refine xE (inSet_27 (x.getD p 0) (sn.add 13)) fun sn' e => ?_
  refine ⟨sn', Reach.step rfl ?_⟩
  show (if p ≥ x.size then _ else match inSet rxCode (x.getD p 0) 40 27 true (sn.add 13) with | .error why => _ | .ok (false, seen) => _ | .ok (true, seen) => _) = _
  rw [if_neg (by lia), e, hc]
  rfl
theorem rx_in1_no {p : Nat} {lm li : Int} (h : ¬ (p < x.size ∧ hexC (x.getD p 0) = true)) : ∃ sn', Reach 1 (atP x s 13 p fst mk lm li sn) (atF x s 13 p fst mk lm li sn') := by
  by_cases hp : p < x.size
  · have hc : hexC (x.getD p 0) = false := by
      cases q : hexC (x.getD p 0) with
      | false => rfl
      | true => exact absurd ⟨hp, q⟩ h
    refine xE (inSet_15 (x.getD p 0) (sn.add 13)) fun sn' e => ?_
    refine ⟨sn', Reach.step rfl ?_⟩
    show (if p ≥ x.size then _ else match inSet rxCode (x.getD p 0) 40 15 true (sn.add 13) with | .error why => _ | .ok (false, seen) => _ | .ok (true, seen) => _) = _
    rw [if_neg (by lia), e, hc]
    rfl
  · refine ⟨sn.add 13, Reach.step rfl ?_⟩
    show (if p ≥ x.size then _ else _) = _
    rw [if_pos (by lia)]
    rfl
theorem rx_in2_no {p : Nat} {lm li : Int} (h : ¬ (p < x.size ∧ hexC (x.getD p 0) = true)) : ∃ sn', Reach 1 (atP x s 25 p fst mk lm li sn) (atF x s 25 p fst mk lm li sn') := by
  by_cases hp : p < x.size
  · have hc : hexC (x.getD p 0) = false := by
      cases q : hexC (x.getD p 0) with
      | false => rfl
      | true => exact absurd ⟨hp, q⟩ h
    refine xE (inSet_27 (x.getD p 0) (sn.add 13)) fun sn' e => ?_
    refine ⟨sn', Reach.step rfl ?_⟩
    show (if p ≥ x.size then _ else match inSet rxCode (x.getD p 0) 40 27 true (sn.add 13) with | .error why => _ | .ok (false, seen) => _ | .ok (true, seen) => _) = _
    rw [if_neg (by lia), e, hc]
    rfl
  · refine ⟨sn.add 13, Reach.step rfl ?_⟩
    show (if p ≥ x.size then _ else _) = _
    rw [if_pos (by lia)]
    rfl

/-- the end of a search -/
noncomputable def Found (s : Nat) (m : M) : Prop := m.outcome = some .matched ∧ m.start = s ∧ m.handed = s + 3 ∧ m.lastmark = 1 ∧ m.marks = #[some (s + 1), some (s + 3)]

theorem rx_success (hm : mk = #[some (s + 1), some (s + 3)]) : ∃ m, Reach 3 (atP x s 39 (s + 3) fst mk 1 1 sn) m ∧ Found s m := by
  let m1 : M := { atP x s 39 (s + 3) fst mk 1 1 (sn.add 1) with handed := s + 3, answer := some true }
  let m2 : M := { m1 with frames := [], weight := 0, pc := 9, pos := s, outermost := fst }
  have e1 : Reach 1 (atP x s 39 (s + 3) fst mk 1 1 sn) m1 := Reach.step rfl (by cases fst <;> rfl)
  have e2 : Reach 1 m1 m2 := Reach.step rfl rfl
  have e3 : Reach 1 m2 { m2 with outcome := some .matched } := Reach.step rfl rfl
  exact ⟨_, ((e1.trans e2).trans e3), rfl, rfl, rfl, rfl, hm⟩

/-- does the pattern stand at a place -/
noncomputable def hitAt (x : Array Nat) (s : Nat) : Bool := decide (s + 2 < x.size) && x.getD s 0 == 37 && hexC (x.getD (s + 1) 0) && hexC (x.getD (s + 2) 0)
noncomputable def findR (x : Array Nat) : Nat → Nat → Option Nat
  | 0, _ => none
  | n + 1, s => if hitAt x s then some s else findR x n (s + 1)

theorem rx_hit (hm : mk.size = 2) (h : hitAt x s = true) : ∃ m, Reach 9 (atS x s fst mk sn) m ∧ Found s m := by
  simp only [hitAt, Bool.and_eq_true, decide_eq_true_eq, beq_iff_eq] at h
  (refine xA h ?_; clear h; intro qq0 h2; refine xA qq0 ?_; clear qq0; intro qq1 h1; refine xA qq1 ?_; clear qq1; intro hs h0)
  refine xE (rx_lit_ok (fst := fst) (mk := mk) (sn := sn) (by lia : s < x.size) h0) fun sn1 r1 => ?_
  refine xE (rx_mark0 (x := x) (s := s) (p := s + 1) (fst := fst) (mk := mk) (sn := sn1)) fun sn2 r2 => ?_
  refine xE (rx_in1_ok (s := s) (fst := fst) (mk := mk.setIfInBounds 0 (some (s + 1))) (sn := sn2) (lm := 0) (li := -1) (by lia : s + 1 < x.size) h1) fun sn3 r3 => ?_
  refine xE (rx_in2_ok (s := s) (fst := fst) (mk := mk.setIfInBounds 0 (some (s + 1))) (sn := sn3) (lm := 0) (li := -1) (by lia : s + 2 < x.size) h2) fun sn4 r4 => ?_
  refine xE (rx_mark1 (x := x) (s := s) (p := s + 3) (fst := fst) (mk := mk.setIfInBounds 0 (some (s + 1))) (sn := sn4)) fun sn5 r5 => ?_
  have hz : (mk.setIfInBounds 0 (some (s + 1))).setIfInBounds 1 (some (s + 3)) = #[some (s + 1), some (s + 3)] := by
    obtain ⟨l⟩ := mk
    match l, hm with
    | [a, b], _ => rfl
  refine xEA (rx_success (x := x) (s := s) (fst := fst) (mk := (mk.setIfInBounds 0 (some (s + 1))).setIfInBounds 1 (some (s + 3))) (sn := sn5) hz) fun m r6 f => ?_
  exact ⟨m, (((((r1.trans r2).trans r3).trans r4).trans r5).trans r6).le (by lia), f⟩

theorem rx_miss (hm : mk.size = 2) (h : hitAt x s = false) : ∃ pc p mk' lm li sn', mk'.size = 2 ∧ Reach 4 (atS x s fst mk sn) (atF x s pc p fst mk' lm li sn') := by
  by_cases hs : s < x.size
  · by_cases h0 : x.getD s 0 = 37
    · refine xE (rx_lit_ok (fst := fst) (mk := mk) (sn := sn) hs h0) fun sn1 r1 => ?_
      refine xE (rx_mark0 (x := x) (s := s) (p := s + 1) (fst := fst) (mk := mk) (sn := sn1)) fun sn2 r2 => ?_
      by_cases h1 : s + 1 < x.size ∧ hexC (x.getD (s + 1) 0) = true
      · refine xE (rx_in1_ok (s := s) (fst := fst) (mk := mk.setIfInBounds 0 (some (s + 1))) (sn := sn2) (lm := 0) (li := -1) h1.1 h1.2) fun sn3 r3 => ?_
        have h2 : ¬ (s + 2 < x.size ∧ hexC (x.getD (s + 2) 0) = true) := by
          rintro ⟨a, b⟩
          have : hitAt x s = true := by unfold hitAt; rw [h0, h1.2, b, decide_eq_true a]; rfl
          rw [h] at this; injection this
        refine xE (rx_in2_no (s := s) (fst := fst) (mk := mk.setIfInBounds 0 (some (s + 1))) (sn := sn3) (lm := 0) (li := -1) h2) fun sn4 r4 => ?_
        exact ⟨_, _, _, _, _, _, by simp [hm], ((r1.trans r2).trans r3).trans r4⟩
      · refine xE (rx_in1_no (s := s) (fst := fst) (mk := mk.setIfInBounds 0 (some (s + 1))) (sn := sn2) (lm := 0) (li := -1) h1) fun sn3 r3 => ?_
        exact ⟨_, _, _, _, _, _, by simp [hm], ((r1.trans r2).trans r3).le (by lia)⟩
    · refine xE (rx_lit_no (fst := fst) (mk := mk) (sn := sn) hs h0) fun sn1 r1 => ?_
      exact ⟨_, _, _, _, _, _, hm, r1.le (by lia)⟩
  · refine xE (rx_lit_end (fst := fst) (mk := mk) (sn := sn) hs) fun sn1 r1 => ?_
    exact ⟨_, _, _, _, _, _, hm, r1.le (by lia)⟩

theorem rx_run : ∀ (n s : Nat) (fst : Bool) (mk : Array (Option Nat)) (sn : Seen), mk.size = 2 → s + n = x.size + 1 → 0 < n → ∃ m, Reach (10 * n + 2) (atS x s fst mk sn) m ∧ (match findR x n s with | some k => Found k m | none => m.outcome = some .failed)
  | 0, _, _, _, _, _, _, h => absurd h (Nat.lt_irrefl _)
  | n + 1, s, fst, mk, sn, hm, hn, _ => by
    unfold findR
    by_cases h : hitAt x s = true
    · rw [if_pos h]
      refine xEA (rx_hit (fst := fst) (sn := sn) hm h) fun m r f => ?_
      exact ⟨m, r.le (by lia), f⟩
    · rw [if_neg h]
      refine xEEEEEE (rx_miss (fst := fst) (sn := sn) hm (Bool.eq_false_iff.mpr h)) fun pc p mk' lm li sn' qr0 => xA qr0 fun hm' r => ?_
      by_cases hs : s < x.size
      · have r2 := rx_fail_next (fst := fst) (mk := mk') (sn := sn') (pc := pc) (p := p) (lm := lm) (li := li) hs
        refine xEA (rx_run n (s + 1) false mk' sn' hm' (by lia) (by lia)) fun m r3 f => ?_
        exact ⟨m, ((r.trans r2).trans r3).le (by lia), f⟩
      · refine xEA (rx_fail_end (fst := fst) (mk := mk') (sn := sn') (pc := pc) (p := p) (lm := lm) (li := li) hs) fun m r2 f => ?_
        have hn0 : n = 0 := by lia
        subst hn0
        exact ⟨m, (r.trans r2).le (by lia), f⟩
end Mine

namespace Mine
open PySem PyProof.Rows PySem.W PySem.SeqAt PySem.Builtin PySem.Builtin.Re PySem.Sre

theorem rx_start (x : Array Nat) (h : 3 ≤ x.size) : forSearch rxCode x 1 0 x.size false = atS x 0 true #[none, none] (({} : Sre.Seen).add 14) := by
  have e : forSearch rxCode x 1 0 x.size false = if (decide (0 > x.size) || decide (x.size - 0 < 3)) = true then (forMatch rxCode x 1 0 x.size false false).say false else atS x 0 true #[none, none] (({} : Sre.Seen).add 14) := by
    have e0 : (decide (0 > x.size) || decide (x.size - 0 < 3)) = false := by
      simp only [Bool.or_eq_false_iff, decide_eq_false_iff_not]; lia
    rw [if_neg (by rw [e0]; exact Bool.false_ne_true)]
    unfold forSearch
    show (if (decide (0 > x.size) || decide (x.size - 0 < 3)) = true then _ else _) = _
    rw [if_neg (by rw [e0]; exact Bool.false_ne_true)]
    rfl
  have e0 : (decide (0 > x.size) || decide (x.size - 0 < 3)) = false := by
    simp only [Bool.or_eq_false_iff, decide_eq_false_iff_not]; lia
  rw [e, if_neg (by rw [e0]; exact Bool.false_ne_true)]
theorem rx_short (x : Array Nat) (h : x.size < 3) : ∃ m, Reach 1 (forSearch rxCode x 1 0 x.size false) m ∧ m.outcome = some .failed := by
  have e0 : (decide (0 > x.size) || decide (x.size - 0 < 3)) = true := by
    simp only [Bool.or_eq_true, decide_eq_true_eq]; lia
  have e : ∃ m : M, forSearch rxCode x 1 0 x.size false = m.say false ∧ m.outcome = none ∧ m.frames = [] := by
    unfold forSearch
    refine ⟨_, (if_pos e0 : (if (decide (0 > x.size) || decide (x.size - 0 < 3)) = true then _ else _) = _), rfl, rfl⟩
  (refine xEAA e ?_; clear e; intro m e h1 h2)
  rw [e]
  refine ⟨(m.say false).step, Reach.step h1 rfl, ?_⟩
  unfold M.step
  have h1' : (m.say false).outcome.isSome = false := by show m.outcome.isSome = false; rw [h1]; rfl
  rw [h1', if_neg Bool.false_ne_true]
  have h2' : (m.say false).frames = [] := h2
  show (match (some false : Option Bool), (m.say false).frames with | some yes, [] => _ | some yes, f :: rest => _ | none, _ => _ : M).outcome = _
  rw [h2']
  rfl
theorem findR_short {x : Array Nat} (h : x.size < 3) : ∀ n s, findR x n s = none
  | 0, _ => rfl
  | n + 1, s => by
    unfold findR
    have : hitAt x s = false := by
      unfold hitAt
      rw [decide_eq_false (by lia)]; rfl
    rw [this, if_neg Bool.false_ne_true]
    exact findR_short h n (s + 1)

theorem rx_whole (x : Array Nat) : ∃ m, Reach (10 * x.size + 20) (forSearch rxCode x 1 0 x.size false) m ∧ (match findR x (x.size + 1) 0 with | some k => Found k m | none => m.outcome = some .failed) := by
  by_cases h : x.size < 3
  · refine xEA (rx_short x h) fun m r f => ?_
    rw [findR_short h]
    exact ⟨m, r.le (by lia), f⟩
  · rw [rx_start x (by lia)]
    refine xEA (rx_run (x := x) (x.size + 1) 0 true #[none, none] (({} : Sre.Seen).add 14) rfl (by lia) (by lia)) fun m r f => ?_
    exact ⟨m, r.le (by lia), f⟩

section
variable {prog : Program} {w : World} {A : Around} {E : Value → Shared → Prop}

theorem runFor_add : ∀ (a b : Nat) (m : M), M.runFor (a + b) m = M.runFor b (M.runFor a m)
  | 0, b, m => by rw [Nat.zero_add]; rfl
  | a + 1, b, m => by
    rw [Nat.add_right_comm]
    show (if m.outcome.isSome then m else M.runFor (a + b) m.step) = M.runFor b (if m.outcome.isSome then m else M.runFor a m.step)
    by_cases h : m.outcome.isSome = true
    · rw [if_pos h, if_pos h, runFor_done h]
    · rw [if_neg h, if_neg h, runFor_add a b]

theorem rx_drive {M' : Model} {s : Shared} {Q : M → Shared → Prop} : ∀ (k n : Nat) (m mf : M), k < n → M.runFor (4 * (k + 1)) m = mf → mf.outcome.isSome = true → Q mf s → wpAny M' A (reDrive n m) Q E s
  | _, 0, _, _, h, _, _, _ => absurd h (Nat.not_lt_zero _)
  | k, n + 1, m, mf, h, hr, hd, hQ => by
    show wpAny M' A (if (m.runFor 4).outcome.isSome = true then pure (m.runFor 4) else rule "sre.turn" >>= fun _ => reDrive n (m.runFor 4)) Q E s
    by_cases hs : (m.runFor 4).outcome.isSome = true
    · rw [if_pos hs]
      have : m.runFor 4 = mf := by
        have e : 4 * (k + 1) = 4 + 4 * k := by lia
        rw [e, runFor_add, runFor_done hs] at hr
        exact hr
      rw [this]
      exact wpAny_pure hQ
    · rw [if_neg hs]
      refine wpAny_bind (wpAny_rule ?_)
      cases k with
      | zero =>
        have : m.runFor 4 = mf := hr
        rw [this] at hs; exact absurd hd hs
      | succ k =>
        refine rx_drive k n (m.runFor 4) mf (by lia) ?_ hd hQ
        have e : 4 * (k + 1 + 1) = 4 + 4 * (k + 1) := by lia
        rw [e, runFor_add] at hr
        exact hr

theorem rx_rules {M' : Model} {s : Shared} {m : M} : ∀ (l : List Nat) (Q : PUnit → Shared → Prop), Q ⟨⟩ s → wpAny M' A (forIn l PUnit.unit fun i _ => if m.seen.has i = true then rule (names.getD i "") >>= fun _ => pure (ForInStep.yield PUnit.unit) else pure (ForInStep.yield PUnit.unit)) Q E s
  | [], Q, h => wpAny_pure h
  | i :: l, Q, h => by
    rw [List.forIn_cons]
    refine wpAny_bind ?_
    by_cases hs : m.seen.has i = true
    · rw [if_pos hs]
      exact wpAny_bind (wpAny_rule (wpAny_pure (rx_rules l Q h)))
    · rw [if_neg hs]
      exact wpAny_pure (rx_rules l Q h)

theorem rx_toEnd {M' : Model} {s : Shared} {x : Array Nat} {Q : Option M → Shared → Prop} (hx : x.size ≤ 1000)
    (h : ∀ r, (match findR x (x.size + 1) 0, r with | some k, some m => Found k m | none, none => True | _, _ => False) → Q r s) : wpAny M' A (reRunToEnd (forSearch rxCode x 1 0 x.size false)) Q E s := by
  (refine xEA (rx_whole x) fun m qq0 f => ?_; refine xEA qq0 ?_; clear qq0; intro k hk r)
  have hd : m.outcome.isSome = true := by
    cases q : findR x (x.size + 1) 0 with
    | none => rw [q] at f; have f : m.outcome = some .failed := f; rw [f]; rfl
    | some i => rw [q] at f; rw [f.1]; rfl
  have hr : M.runFor (4 * (k + 1)) (forSearch rxCode x 1 0 x.size false) = m := by
    have e : 4 * (k + 1) = k + (3 * k + 4) := by lia
    rw [e, r, runFor_done hd]
  unfold reRunToEnd
  refine wpAny_bind (rx_drive k (2 ^ 64) _ m (by have : (10 * 1000 + 20 : Nat) < 2 ^ 64 := by decide
                                                 lia) hr hd ?_)
  refine wpAny_bind (rx_rules _ _ ?_)
  cases q : findR x (x.size + 1) 0 with
  | none =>
    rw [q] at f
    have f : m.outcome = some .failed := f
    rw [f]
    exact wpAny_pure (h none (by rw [q]; trivial))
  | some i =>
    rw [q] at f
    have f : Found i m := f
    rw [f.1]
    exact wpAny_pure (h (some m) (by rw [q]; exact f))
end
end Mine

namespace Mine
open PySem PyProof.Rows PySem.W PySem.SeqAt PySem.Builtin PySem.Builtin.Re PySem.Sre

noncomputable def searchV (t : Str) : V := match findR t.cps (t.cps.size + 1) 0 with
  | some k => .mat t k (k + 3) (k + 1) (k + 3)
  | none => .none

section
variable {g : Gl} {defs : List Fd} {d : Nat} {env : Env} {ρ : Rho} {ω : Omg}

theorem rx_newMatch {M' : Model} {A : Around} {E : Value → Shared → Prop} {s : Shared} {F : Fz} {P : Addr} {t : Str} {tk : Tok} {m : M} {k : Nat} {Q : Value → Shared → Prop} (sub : Sub F s.heap) (f : Found k m)
    (h : ∀ a h' F', Mv F s F' { s with heap := h' } → Rd F' (.ref a) (.mat t k (k + 3) (k + 1) (k + 3)) → Q (.ref a) { s with heap := h' }) : wpAny M' A (reNewMatch (.ref P) (.str t tk) 1 0 t.cps.size m) Q E s := by
  (refine xAAAA f ?_; clear f; intro f1 f2 f3 f4 f5)
  obtain ⟨c1, c2, c3, c4, c5, c6, c7, c8, c9, c10, c11, c12, c13, c14, c15, c16, c17, c18, c19, c20, c21⟩ := m
  simp only at f2 f3 f4 f5
  subst f2 f3 f4 f5
  have e3 : decide (c4 + 3 < c4 + 1) = false := decide_eq_false (by lia)
  unfold reNewMatch
  show wpAny M' A (if ((decide ((1 : Int) ≤ 1) && decide (c4 + 3 < c4 + 1)) || false) = true then _ else newTuple [rawInt c4, rawInt ((c4 + 3 : Nat) : Int), rawInt ((c4 + 1 : Nat) : Int), rawInt ((c4 + 3 : Nat) : Int)] >>= fun T => newFields "re.Match" [.str t tk, .ref P, rawInt 0, rawInt t.cps.size, rawInt c14, T]) Q E s
  rw [e3, if_neg (by simp)]
  refine wpAny_bind (wpAny_newObj_type ?_)
  refine wpAny_newObj_type ?_
  have m1 := Mv.push sub (s := s) (o := { cls := .type "tuple", data := .seq #[rawInt (c4 : Int), rawInt ((c4 + 3 : Nat) : Int), rawInt ((c4 + 1 : Nat) : Int), rawInt ((c4 + 3 : Nat) : Int)] }) rfl (Nat.le_refl s.toks)
  have m2 := Mv.push m1.sub (s := { s with heap := s.heap.push { cls := .type "tuple", data := .seq #[rawInt (c4 : Int), rawInt ((c4 + 3 : Nat) : Int), rawInt ((c4 + 1 : Nat) : Int), rawInt ((c4 + 3 : Nat) : Int)] } })
    (o := { cls := .type "re.Match", data := .fields #[.str t tk, .ref P, rawInt 0, rawInt t.cps.size, rawInt c14, .ref s.heap.objs.size] }) rfl (Nat.le_refl s.toks)
  exact h _ _ _ (m1.trans m2) (.mat ⟨_, _, _, _, _, _, _, _, _, put_self _ _ _, rfl, rfl, m2.up _ _ (put_self _ _ _), rfl, rfl, rfl⟩)

theorem rx_search {A : Around} {E : Value → Shared → Prop} {F : Fz} {s : Shared} {P : Addr} {t : Str} {tk : Tok} (bs : Bs g defs F s) (hp : PatAt F P) (ht : t.cps.size ≤ 1000) :
    wpAny (model g.prog g.w) A (PySem.call (.builtin "re.Pattern.search") [.ref P, .str t tk]) (Res F s (searchV t)) E s := by
  (refine xEEEEEE hp ?_; clear hp; intro o fs T oT cs n qr0; refine xAAAAAAAA qr0 ?_; clear qr0; intro h1 h2 _ h4 h5 h6 h7 h8 qr1; refine xA qr1 ?_; clear qr1; intro h9 h10)
  refine upT (wpAny_call_entry rx_slot_search ⟨_, bs.sub _ _ h1, h2⟩ rx_entry_search ?_ (rx_args_search _ _))
  show wpAny _ _ (reTarget "re.Pattern.search" "search" ⟨[.ref P, .str t tk], []⟩ >>= fun t => reAnswer t (forSearch t.code t.text t.groups t.pos t.lim false)) _ _ s
  refine wpAny_bind ?_
  unfold reTarget
  show wpAny _ _ (reNamed "re.Pattern.search" "search" ["string", "pos", "endpos"] 1 [.str t tk] [] >>= fun x => _) _ _ s
  refine wpAny_bind (wpAny_of_eq (a := [some (.str t tk), none, none]) (by kernel_rfl) ?_)
  show wpAny _ _ (fieldsOf (.ref P) >>= fun x => _) _ _ s
  refine wpAny_bind (wpAny_fieldsOf (bs.sub _ _ h1) h4 ?_)
  refine wpAny_bind (rx_text ?_)
  show wpAny _ _ (if (reRawNat (fs.getD 6 .none) == 0 && 0 == 1) = true then _ else _) _ _ s
  rw [h5]
  show wpAny _ _ (reNoCollectionInside (.str t tk) 0 >>= fun _ => reRawItems (fs.getD 5 .none) >>= fun c => pure (ReTarget.mk (.ref P) (.str t tk) (c.map (·.toNat)) t.cps 0 (reRawNat (fs.getD 2 .none)) (min (0 : Int).toNat t.cps.size) (min ((2 : Int) ^ 63 - 1).toNat t.cps.size))) _ _ s
  refine wpAny_bind (wpAny_of_eq (a := ()) rfl ?_)
  rw [h7, h6]
  refine wpAny_bind ?_
  unfold reRawItems
  refine wpAny_bind (wpAny_seqItems (bs.sub _ _ h8) h9 (wpAny_pure ?_))
  refine wpAny_pure ?_
  have e1 : ((some cs).getD #[] |>.map reRawOf).map (·.toNat) = rxCode := h10
  have e2 : min (0 : Int).toNat t.cps.size = 0 := Nat.zero_min _
  have e3 : min ((2 : Int) ^ 63 - 1).toNat t.cps.size = t.cps.size := by
    apply Nat.min_eq_right
    have : ((2 : Int) ^ 63 - 1).toNat = 9223372036854775807 := by decide
    rw [this]; lia
  rw [e1, e2, e3]
  show wpAny _ _ (reAnswer ⟨.ref P, .str t tk, rxCode, t.cps, 0, 1, 0, t.cps.size⟩ (forSearch rxCode t.cps 1 0 t.cps.size false)) _ _ s
  unfold reAnswer
  refine wpAny_bind (rx_toEnd ht fun r hr => ?_)
  unfold searchV
  cases q : findR t.cps (t.cps.size + 1) 0 with
  | none =>
    rw [q] at hr
    cases r with
    | none => exact wpAny_pure ⟨_, rfl, fun htk => ⟨F, Mv.refl bs.sub, .none⟩⟩
    | some m => exact hr.elim
  | some k =>
    rw [q] at hr
    cases r with
    | none => exact hr.elim
    | some m => exact wpAny_bind (rx_newMatch bs.sub hr fun a h' F' mv rd => wpAny_pure ⟨_, rfl, fun htk => ⟨F', mv, rd⟩⟩)
end
end Mine

namespace Mine
open PySem PyProof.Rows PySem.W PySem.SeqAt PySem.Builtin

noncomputable def asciiB (b : Array UInt8) : Bool := b.toList.all fun c => decide (c.toNat < 128)
noncomputable def textB (b : Array UInt8) : Str := ⟨b.map (·.toNat)⟩

theorem asc_run {id : String} {b : Array UInt8} (hb : asciiB b = true) (hz : b.size ≤ 1000) : _codecs.runDecoder id _codecs.asciiDecoder none true b 0 [] = pure (b.map (·.toNat), b.size) := by
  unfold _codecs.runDecoder
  simp only [KPc.range_list]
  generalize hf : (fun (_ : Nat) (r : _) => _) = f
  have step : ∀ (a p : Nat) (out : Array Nat) (st : _codecs.Faults), out.size = p → p < b.size → f a (p, out, st) = pure (ForInStep.yield (p + 1, out.push (b.getD p 0).toNat, st)) := by
    intro a p out st ho hp
    subst hf
    have hc : (b.getD p 0).toNat < 128 := by
      have h1 : b.getD p 0 = b[p] := by simp [Array.getD, hp]
      rw [h1]
      have := List.all_eq_true.mp hb b[p] (by simp)
      simpa using this
    have h1 : ¬ out.size > sizeLine := by rw [ho, sizeLine]; lia
    have h2 : ¬ p ≥ b.size := by lia
    have h3 : _codecs.asciiDecoder.find true b p = _codecs.Found.text [(b.getD p 0).toNat] (p + 1) := by
      show (if (b.getD p 0).toNat < 128 then _ else _) = _
      rw [if_pos hc]; rfl
    simp only [h1, h2, h3, if_false]
    have h4 : out ++ [(b.getD p 0).toNat].toArray = out.push (b.getD p 0).toNat := by simp
    rw [h4]
  have key : ∀ (l : List Nat) (p : Nat) (out : Array Nat) (st : _codecs.Faults), p + l.length = b.size → out.toList = (b.toList.map (·.toNat)).take p → forIn l (p, out, st) f = (pure (b.size, b.map (·.toNat), st) : Sem (Nat × Array Nat × _codecs.Faults)) := by
    intro l
    induction l with
    | nil =>
      intro p out st hp ho
      have hp' : p = b.size := by simpa using hp
      have e : out = b.map (·.toNat) := by
        apply Array.toList_inj.mp
        rw [ho, hp', Array.toList_map]
        exact List.take_of_length_le (by simp)
      rw [e, hp']; rfl
    | cons a l ih =>
      intro p out st hp ho
      have hlt : p < b.size := by simp only [List.length_cons] at hp; lia
      have hsz : out.size = p := by
        have := congrArg List.length ho
        simp only [Array.length_toList, List.length_take, List.length_map] at this
        lia
      rw [List.forIn_cons, step a p out st hsz hlt]
      show forIn l (p + 1, out.push (b.getD p 0).toNat, st) f = _
      refine ih _ _ _ (by simp only [List.length_cons] at hp; lia) ?_
      rw [Array.toList_push, ho, List.take_add_one]
      congr 1
      have h1 : b.getD p 0 = b[p] := by simp [Array.getD, hlt]
      rw [h1, List.getElem?_map, Array.getElem?_toList, Array.getElem?_eq_getElem hlt]; rfl
  rw [key _ 0 #[] _ (by simp) (by simp)]
  rfl

theorem asc_road {id : String} {b : Array UInt8} : _codecs.decodeRoad id b (PySem.Str.ofString "ascii") none [] = (_codecs.runDecoder id _codecs.asciiDecoder none true b 0 [] >>= fun r => mkStr ⟨r.1⟩) := by kernel_rfl
theorem asc_text {b : Array UInt8} {t t1 t2 : Tok} {d : Str} (hb : asciiB b = true) (hz : b.size ≤ 1000) :
    Meets («_codecs.decode.text» ⟨[.bytes b t, .str (PySem.Str.ofString "ascii") t1, .none, .str d t2], []⟩) (fun _ R s => R (.ok (.ret (.str (textB b) s.toks))) { s with toks := s.toks + 1 }) := by
  refine .of_wp fun prog w A R s h => ?_
  show wpAny _ _ (Bytes.bytesLike _ (.bytes b t) >>= fun r => _) _ _ s
  refine wpAny_bind (wpAny_of_eq KBd.like_eq ?_)
  refine wpAny_bind (wpAny_of_eq KBd.held_eq ?_)
  show wpAny _ _ (_codecs.decodeRoad _ b (PySem.Str.ofString "ascii") none [] >>= fun v => _) _ _ s
  rw [asc_road, asc_run hb hz]
  refine wpAny_bind (wpAny_bind (wpAny_pure ?_))
  refine wpAny_mkStr (wpAny_pure ⟨_, rfl, h⟩) ?_
  show (b.map (·.toNat)).size ≤ sizeLine
  rw [Array.size_map, sizeLine]; lia
theorem asc_entry {c : UInt8} {cs : List UInt8} {t u : Tok} : «bytes.decode» ⟨[.bytes (c :: cs).toArray t, .str (PySem.Str.ofString "ascii") u], []⟩ = (mkStr (PySem.Str.ofString "utf-8") >>= fun _ => mkStr (PySem.Str.ofString "ascii") >>= fun e => mkStr (PySem.Str.ofString "bytes.decode") >>= fun d =>
    PySem.call (.builtin "_codecs.decode.text") [.bytes (c :: cs).toArray t, e, .none, d] >>= fun v => ret v) := by kernel_rfl
theorem asc_args (a b : Value) : argsOk "bytes.decode" ⟨[a, b], []⟩ := by
  unfold argsOk; rw [signature?_of (id := "bytes.decode") (n := ['e', 'd', 'o', 'c', 'e', 'd']) (o := ['s', 'e', 't', 'y', 'b']) (by kernel_rfl) PySem.W.FB.owner_bytes]; kernel_rfl

section
variable {g : Gl} {defs : List Fd} {d : Nat} {env : Env} {ρ : Rho} {ω : Omg}
theorem decode_tr {b : Array UInt8} (h0 : b.size ≠ 0) (hb : asciiB b = true) (hz : b.size ≤ 1000) : Tr g defs d [.byt b, .str (PySem.Str.ofString "ascii")] (fun vs => PySem.call (.builtin "bytes.decode") vs) (.str (textB b)) := fun A E F s vs rm bs r => by
  refine RdL.conse r fun _ _ r1 r => ?_
  · refine RdL.conse r fun _ _ r2 r => ?_
    · (first | refine Rd.ie r fun _ => ?_ | refine Rd.se r fun _ => ?_ | refine Rd.fe r fun _ _ => ?_ | refine Rd.be r fun _ => ?_ | refine Rd.ne r ?_ | refine RdL.nile r ?_ | cases r)
      (first | refine Rd.ie r1 fun _ => ?_ | refine Rd.se r1 fun _ => ?_ | refine Rd.fe r1 fun _ _ => ?_ | refine Rd.be r1 fun _ => ?_ | refine Rd.ne r1 ?_ | refine RdL.nile r1 ?_ | cases r1)
      (first | refine Rd.ie r2 fun _ => ?_ | refine Rd.se r2 fun _ => ?_ | refine Rd.fe r2 fun _ _ => ?_ | refine Rd.be r2 fun _ => ?_ | refine Rd.ne r2 ?_ | refine RdL.nile r2 ?_ | cases r2)
      obtain ⟨l⟩ := b
      match l, h0 with
      | c :: cs, _ =>
        refine upT (wpAny_call_entry PySem.W.FB.slot_bytes_decode (typeIs_bytes _ _ _) PySem.W.FB.entry_bytes_decode ?_ (asc_args _ _))
        rw [asc_entry]
        refine wpAny_bind (wpAny_mkStr ?_ (by decide))
        refine wpAny_bind (wpAny_mkStr ?_ (by decide))
        refine wpAny_bind (wpAny_mkStr ?_ (by decide))
        refine wpAny_bind (call_function_meets KBd.kind_text KBd.plain_text KBd.entry_text (KBd.args_text _ _ _ _) (asc_text hb hz) (wpAny_pure ⟨_, rfl, fun htk => ?_⟩))
        exact ⟨F, Mv.toks bs.sub htk, .str⟩

/-- the one format of the text: a sign, then a text -/
noncomputable def fmtS : Str := "%%%s"
theorem fmt_tr {y : Str} (hy : y.length ≤ 1000) : Tr g defs d [.str fmtS, .str y] (fun vs => match vs with | [a, b] => binaryOp .Mod a b | _ => unsupported "") (.str (("%" : Str) ++ y)) := fun A E F s vs rm bs r => by
  refine RdL.conse r fun _ _ r1 r => ?_
  · refine RdL.conse r fun _ _ r2 r => ?_
    · (first | refine Rd.ie r fun _ => ?_ | refine Rd.se r fun _ => ?_ | refine Rd.fe r fun _ _ => ?_ | refine Rd.be r fun _ => ?_ | refine Rd.ne r ?_ | refine RdL.nile r ?_ | cases r)
      (first | refine Rd.ie r1 fun _ => ?_ | refine Rd.se r1 fun _ => ?_ | refine Rd.fe r1 fun _ _ => ?_ | refine Rd.be r1 fun _ => ?_ | refine Rd.ne r1 ?_ | refine RdL.nile r1 ?_ | cases r1)
      (first | refine Rd.ie r2 fun _ => ?_ | refine Rd.se r2 fun _ => ?_ | refine Rd.fe r2 fun _ _ => ?_ | refine Rd.be r2 fun _ => ?_ | refine Rd.ne r2 ?_ | refine RdL.nile r2 ?_ | cases r2)
      refine upT (KPc.mod_str (T := fun y => ("%" : Str) ++ y) (X' := ⟨#[37, 37, 37, 115]⟩) (by decide +kernel) (by lia) ?_ fun t' k htk => ⟨F, Mv.toks bs.sub htk, .str⟩)
      kpc_run_s
end
end Mine

namespace Mine
open PySem PyProof.Rows PySem.W PySem.SeqAt PySem.Builtin

noncomputable def sumLen (l : List V) : Nat := ((l.map strOfV).map (·.length)).sum
noncomputable def decM (b : Array UInt8) (n : Str) (xs : List V) : Option V := if n = "decode" then b1 xs fun x => bS x fun e => if e = "ascii" ∧ b.size ≠ 0 ∧ asciiB b = true ∧ b.size ≤ 1000 then some (.str (textB b)) else none else none
noncomputable def strM (y : Str) (n : Str) (xs : List V) : Option V :=
  if n = "lower" then bNil xs (if y.length ≤ 5592405 then some (.str (Txt.lower y)) else none)
  else if n = "upper" then bNil xs (if y.length ≤ 5592405 then some (.str (Txt.upper y)) else none)
  else if n = "join" then b1 xs fun x => bL x fun l => if l.all isStrV = true ∧ sumLen l + l.length * y.length ≤ 16777216 then some (.str (Txt.join y (l.map strOfV))) else none
  else none
noncomputable def matM (t : Str) (b e c f : Nat) (n : Str) (xs : List V) : Option V :=
  if n = "span" then b1 xs fun x => bI x fun i => if i = 0 then some (.tup [.int b, .int e]) else none
  else if n = "group" then b1 xs fun x => bI x fun i => if i = 1 ∧ t.length ≤ 100000 then some (.str ⟨t.cps.extract c f⟩) else none
  else none
noncomputable def mthV (x : V) (n : Str) (xs : List V) : Option V := oO (bY x fun b => decM b n xs) (oO (bS x fun y => strM y n xs) (bM x fun t b e c f => matM t b e c f n xs))
noncomputable def mthId (x : V) (n : Str) : String :=
  match x with
  | .byt _ => "bytes.decode"
  | .str _ => if n = "lower" then "str.lower" else if n = "upper" then "str.upper" else "str.join"
  | .mat .. => if n = "span" then "re.Match.span" else "re.Match.group"
  | _ => ""

section
variable {g : Gl} {defs : List Fd} {d : Nat} {env : Env} {ρ : Rho} {ω : Omg}

theorem strs_of {F : Fz} {vs : List Value} {l : List V} (r : RdL F vs l) : l.all isStrV = true → StrsAre vs (l.map strOfV) :=
  r.ind (P := fun vs l => l.all isStrV = true → StrsAre vs (l.map strOfV)) (fun _ => .nil) fun v vs x l r _ ih h => by
    rw [List.all_cons, Bool.and_eq_true] at h
    cases x <;> first | exact nF h.1 | exact Rd.se r fun t => .cons _ _ (ih h.2)

/-- no method of a value's type: its dict is none where it is an object -/
theorem mth_builtin {x : V} {T : String} {name : Str} {id : String} (pa : PlainAttrs T) (slot : Slot T name id) (hty : typeOf (.builtin id) = pure (.type "method_descriptor"))
    (hx : ∀ (F : Fz) (s : Shared) (v : Value), Sub F s.heap → Rd F v x → s.TypeIs v T ∧ ∀ a, v = .ref a → ∃ o, s.heap.get? a = some o ∧ o.dict = none) : Mth x name id := fun M A E F s v pl Q sub r h =>
  getMethod_builtin (hx F s v sub r).1 pa slot hty (hx F s v sub r).2 h
theorem mth_str {y : Str} {name : Str} {id : String} (slot : Slot "str" name id) (hty : typeOf (.builtin id) = pure (.type "method_descriptor")) : Mth (.str y) name id :=
  mth_builtin PySem.F.plainAttrs_str slot hty fun F s v sub r => Rd.se r fun t => ⟨typeIs_str _ _ _, fun a e => Value.noConfusion e⟩
theorem mth_mat {t : Str} {b e c f : Nat} {name : Str} {id : String} (slot : Slot "re.Match" name id) (hty : typeOf (.builtin id) = pure (.type "method_descriptor")) : Mth (.mat t b e c f) name id :=
  mth_builtin rx_plainAttrs_match slot hty fun F s v sub r => Rd.me r fun _ _ _ _ _ _ _ _ _ _ e1 e2 e3 e4 e5 e6 e7 => ⟨⟨_, sub _ _ e1, e2⟩, fun a e => by (injection e with e; subst e); exact ⟨_, sub _ _ e1, e7⟩⟩
@[elab_as_elim] theorem bNilE {β : Type} {c : β} {xs : List V} {f : Option β} {P : List V → Prop} (h : bNil xs f = some c) (k : f = some c → P []) : P xs := by
  revert h
  cases xs with
  | nil => exact fun h => k h
  | cons x xs => exact fun h => nS h
@[elab_as_elim] theorem b1E {β : Type} {c : β} {xs : List V} {f : V → Option β} {P : List V → Prop} (h : b1 xs f = some c) (k : ∀ x, f x = some c → P [x]) : P xs := by
  revert h
  cases xs with
  | nil => exact fun h => nS h
  | cons x xs => exact fun h => bNilE (P := fun xs => P (x :: xs)) h (k x)
/-- a method and what it answers -/
theorem mth_all {x : V} {n : Str} {xs : List V} {y : V} (h : mthV x n xs = some y) : Mth x n (mthId x n) ∧ Tr g defs d (x :: xs) (fun vs => PySem.call (.builtin (mthId x n)) vs) y :=
  oE h (fun h => yX h fun b h => iS h fun hn h => hn ▸ b1E h fun x h => sX h fun e h => iS h fun hc h => jS h
      ⟨mth_builtin PySem.W.FB.plainAttrs_bytes PySem.W.FB.slot_bytes_decode PySem.W.FB.type_bytes_decode fun F s v sub r => Rd.be r fun t => ⟨typeIs_bytes _ _ _, fun a e => Value.noConfusion e⟩, hc.1 ▸ decode_tr hc.2.1 hc.2.2.1 hc.2.2.2⟩)
    fun h => oE h (fun h => sX h fun w h =>
      jE h (fun hn h => hn ▸ bNilE h fun h => iS h fun hl h => jS h ⟨mth_str PySem.F.slot_str_lower PySem.F.type_str_lower, fun A E F s vs rm bs r => RdL.conse r fun _ _ r1 r => RdL.nile r (Rd.se r1 fun t => up (SCL.lower hl fun _ => resT bs rfl .str))⟩)
      fun h => jE h (fun hn h => hn ▸ bNilE h fun h => iS h fun hl h => jS h ⟨mth_str PySem.F.slot_str_upper PySem.F.type_str_upper, fun A E F s vs rm bs r => RdL.conse r fun _ _ r1 r => RdL.nile r (Rd.se r1 fun t => up (SCL.upper hl fun _ => resT bs rfl .str))⟩)
      fun h => iS h fun hn h => hn ▸ b1E h fun x h => lX h fun l h => iS h fun hl h => jS h ⟨mth_str PySem.F.slot_str_join PySem.F.type_str_join, fun A E F s vs rm bs r => RdL.conse r fun _ _ r1 r => RdL.conse r fun _ _ r2 r => RdL.nile r (Rd.se r1 fun t => Rd.le r2 fun a o xs n e c dd rl =>
        upT (join_list (s := s) (items := xs) ⟨o, bs.sub _ _ e, c, n, dd⟩ (strs_of rl hl.1) (by rw [List.length_map]; exact hl.2) fun t' k htk => ⟨F, Mv.toks bs.sub htk, .str⟩))⟩)
    fun h => mX h fun t b e c f h =>
      jE h (fun hn h => hn ▸ b1E h fun x h => iX h fun i h => iS h fun hi h => jS h ⟨mth_mat rx_slot_span rx_type_span, hi ▸ rx_span⟩)
      fun h => iS h fun hn h => hn ▸ b1E h fun x h => iX h fun i h => iS h fun hi h => jS h ⟨mth_mat rx_slot_group rx_type_group, hi.1 ▸ rx_group hi.2⟩

/-- the pattern's search -/
theorem Ev.search {p1 p2 p3 : Pos} {e : Expr} {t : Str} (hl : (p2.endLine == p3.line) = true) (he : isStar e = false) (h : Ev g defs d env ρ e (.str t)) (ht : t.cps.size ≤ 1000) (hk : env.kindOf "ESCAPED_CHAR_RE" = some .globalImplicit) :
    Ev g defs d env ρ (.Call (.Attribute (.Name "ESCAPED_CHAR_RE" p1) "search" p2) [e] [] p3) (searchV t) := fun A E F s rm ok => by
  refine xEA ok.pg.pat fun P hP hat => ?_
  refine Call_method rfl hl (by rw [List.any_cons, he]; rfl) (by show 1 < 30; decide) (ev_global ok hP ?_ hk (by decide))
  refine xEEEEEE (id hat) fun o fs T oT cs n qr0 => xAAA qr0 fun h1 h2 h3 hrest => ?_
  refine getMethod_builtin ⟨o, ok.sub _ _ h1, h2⟩ rx_plainAttrs_pat rx_slot_search rx_type_search (fun a e => by (injection e with e; subst e); exact ⟨o, ok.sub _ _ h1, h3⟩) ?_
  refine callWith_first (fun a => nrB rfl) (.cons he h .nil) rm ok fun vs s₂ F₂ m₂ r₂ => ?_
  refine RdL.conse r₂ fun _ _ rx r₂ => ?_
  · (first | refine Rd.ie r₂ fun _ => ?_ | refine Rd.se r₂ fun _ => ?_ | refine Rd.fe r₂ fun _ _ => ?_ | refine Rd.be r₂ fun _ => ?_ | refine Rd.ne r₂ ?_ | refine RdL.nile r₂ ?_ | cases r₂)
    (first | refine Rd.ie rx fun _ => ?_ | refine Rd.se rx fun _ => ?_ | refine Rd.fe rx fun _ _ => ?_ | refine Rd.be rx fun _ => ?_ | refine Rd.ne rx ?_ | refine RdL.nile rx ?_ | cases rx)
    exact res_mono m₂ (rx_search (ok.mv m₂).toBs (hat.mono m₂.up) ht)
end
end Mine

namespace Mine
open PySem PyProof.Rows PySem.W PySem.SeqAt PySem.Builtin

noncomputable abbrev Sc := List (Str × NameKind)
structure Ct where
  fn : Str → List V → Option V
  gv : Str → Option V

noncomputable def constV : Const → Option V
  | .int i => some (.int i)
  | .str s => some (.str s)
  | .none => some .none
  | .bool b => some (.bool b)
  | .float x => some (.flt x)
  | .bytes b => some (.byt b.toArray)
  | _ => none
noncomputable def nameK (c : Ct) (ρ : Rho) (x : Str) (k : NameKind) : Option V := match k with
  | .local => ρ x
  | .cell => ρ x
  | .free => ρ x
  | .globalImplicit => c.gv x
  | _ => none
noncomputable def nameV (c : Ct) (sc : Sc) (ρ : Rho) (x : Str) : Option V := if x = "__debug__" ∨ x = "__classdict__" then none else oB (sc.lookup x) fun k => nameK c ρ x k
noncomputable def binW (op : Operator) (a b : V) : Option V :=
  match op with
  | .Mod => oO (bS a fun x => bS b fun y => if x = fmtS ∧ y.length ≤ 1000 then some (.str (("%" : Str) ++ y)) else none) (binV .Mod a b)
  | .Add => oO (bL a fun x => bL b fun y => if x.length ≤ 1000 ∧ y.length ≤ 1000 then some (.lst (x ++ y)) else none) (binV .Add a b)
  | op => binV op a b

@[elab_as_elim] theorem b2E {β : Type} {c : β} {xs : List V} {f : V → V → Option β} {P : List V → Prop} (h : b2 xs f = some c) (k : ∀ x y, f x y = some c → P [x, y]) : P xs := by
  revert h
  cases xs with
  | nil => exact fun h => nS h
  | cons x xs => exact fun h => b1E (P := fun xs => P (x :: xs)) h (k x)
/-- just one -/
noncomputable def one {α β : Type} (l : List α) (f : α → Option β) : Option β := match l with
  | [] => none
  | a :: r => (match r with | [] => f a | _ :: _ => none)
@[elab_as_elim] theorem oneE {α β : Type} {l : List α} {f : α → Option β} {c : β} {P : List α → Prop} (h : one l f = some c) (k : ∀ a, f a = some c → P [a]) : P l := by
  revert h
  cases l with
  | nil => exact fun h => nS h
  | cons a r =>
    cases r with
    | nil => exact fun h => k a h
    | cons _ _ => exact fun h => nS h
noncomputable def eN {β : Type} (e : Expr) (k : Str → Pos → Option β) : Option β := match e with | .Name x p => k x p | _ => none
noncomputable def eA {β : Type} (e : Expr) (k : Expr → Str → Pos → Option β) : Option β := match e with | .Attribute o m p => k o m p | _ => none
noncomputable def eC {β : Type} (e : Expr) (k : Expr → List Expr → Pos → Option β) : Option β := match e with | .Call f es kw p => (match kw with | [] => k f es p | _ :: _ => none) | _ => none
section
variable {β : Type} {c : β} {e : Expr} {P : Expr → Prop}
@[elab_as_elim] theorem eNE {f : Str → Pos → Option β} (h : eN e f = some c) (k : ∀ x p, f x p = some c → P (.Name x p)) : P e := by
  revert h; cases e <;> first | exact fun h => nS h | exact fun h => k _ _ h
@[elab_as_elim] theorem eAE {f : Expr → Str → Pos → Option β} (h : eA e f = some c) (k : ∀ o m p, f o m p = some c → P (.Attribute o m p)) : P e := by
  revert h; cases e <;> first | exact fun h => nS h | exact fun h => k _ _ _ h
@[elab_as_elim] theorem eCE {f : Expr → List Expr → Pos → Option β} (h : eC e f = some c) (k : ∀ o es p, f o es p = some c → P (.Call o es [] p)) : P e := by
  revert h
  cases e with
  | Call o es kw p => cases kw with
    | nil => exact fun h => k _ _ _ h
    | cons _ _ => exact fun h => nS h
  | _ => exact fun h => nS h
end
section
variable (ev : Sc → Rho → Expr → Option V) (c : Ct)
noncomputable def evT (sc : Sc) (ρ : Rho) : Expr → Option Bool
  | .Compare l ops rs _ => one ops fun op => one rs fun r => if behindInMarks op r then none else oB (ev sc ρ l) fun a => oB (ev sc ρ r) fun b => cmpV op a b
  | .Name x p => oB (ev sc ρ (.Name x p)) fun v => bI v fun i => some (i != 0)
  | _ => none
noncomputable def evOr (sc : Sc) (ρ : Rho) : Expr → Option Bool
  | .BoolOp op es _ => (match op with
    | .Or => (match es with
      | [] => none
      | a :: r => one r fun b => oB (evT ev sc ρ a) fun x => cond x (some true) (evT ev sc ρ b))
    | _ => none)
  | _ => none
noncomputable def evB (sc : Sc) (ρ : Rho) (t : Expr) : Option Bool := oO (evOr ev sc ρ t) (evT ev sc ρ t)
noncomputable def evs (sc : Sc) (ρ : Rho) : List Expr → Option (List V)
  | [] => some []
  | e :: es => if isStar e then none else oB (ev sc ρ e) fun x => oB (evs sc ρ es) fun l => some (x :: l)
noncomputable def evP (sc : Sc) (ρ : Rho) : Option Expr → Option (Option Int)
  | none => some none
  | some e => oB (ev sc ρ e) fun v => bI v fun i => some (some i)
noncomputable def evTests (sc : Sc) (ρ : Rho) : List Expr → Option Bool
  | [] => some true
  | t :: ts => oB (evB ev sc ρ t) fun b => cond b (evTests sc ρ ts) (some false)
noncomputable def evSeq (sc : Sc) (ρ : Rho) (target iter : Expr) : Option (List V) :=
  if notSet iter then oB (ev sc ρ iter) fun v => oO (bL v some) (oO (bT v some) (bS v fun x => if isTgtName target then some (chars x) else none)) else none
noncomputable def evIterF (sc : Sc) (ρ : Rho) (target : Expr) (f : Str) (es : List Expr) : Option (List V) :=
  if f = "range" then (if isTgtName target then oB (evs ev sc ρ es) fun xs => oO (b1 xs fun x => bI x fun b => if okR 0 b then some (rangeV 0 b) else none) (b2 xs fun x y => bI x fun a => bI y fun b => if okR a b then some (rangeV a b) else none) else none)
  else if f = "enumerate" then (if isTgtTuple target then oB (evs ev sc ρ es) fun xs => b1 xs fun x => bL x fun l => some (enumV 0 l) else none)
  else if f = "zip" then (if isTgtTuple target then oB (evs ev sc ρ es) fun xs => b2 xs fun x y => bL x fun l => bL y fun r => some (zipV l r) else none)
  else none
noncomputable def evIter (sc : Sc) (ρ : Rho) (target : Expr) (e : Expr) : Option (List V) :=
  oO (eC e fun f es _ => eN f fun x _ => if sc.lookup x = some .globalImplicit then evIterF ev sc ρ target x es else none) (evSeq ev sc ρ target e)
noncomputable def evComp (sc : Sc) (ρ0 : Rho) (target elt : Expr) (ifs : List Expr) : List V → Option (List V)
  | [] => some []
  | x :: l => oB (bindT target x ρ0) fun ρ1 => oB (evTests ev sc ρ1 ifs) fun b => cond b (oB (ev sc ρ1 elt) fun y => oB (evComp sc ρ0 target elt ifs l) fun ys => some (y :: ys)) (evComp sc ρ0 target elt ifs l)
noncomputable def isFunc (k : ScopeKind) : Bool := match k with | .function => true | _ => false
noncomputable def namesOk (sc : Sc) (ρ : Rho) (scope : Scope) (target : Expr) : Bool :=
  isFunc scope.kind && scope.names.all (fun x => match x.2 with
    | .cell => false
    | .local => scope.names.lookup x.1 == some .local
    | .free => (sc.lookup x.1 == some .cell || sc.lookup x.1 == some .free) && (ρ x.1).isSome
    | _ => true) && (tgtNames target).all fun n => scope.names.lookup n == some .local
noncomputable def evList (sc : Sc) (ρ : Rho) (elt target iter : Expr) (ifs : List Expr) (scope : Scope) : Option (List V) :=
  if namesOk sc ρ scope target && notSet iter then oB (evIter ev sc ρ target iter) fun l => if l.length ≤ 100000 then evComp ev (relab (fun y => sc.lookup y) scope.names) (inner scope.names ρ) target elt ifs l else none
  else none
noncomputable def evCall (sc : Sc) (ρ : Rho) (f : Str) (es : List Expr) : Option V :=
  if sc.lookup f = some .globalImplicit then oB (evs ev sc ρ es) fun xs => if f ∈ blts then bltV f xs else c.fn f xs else none
noncomputable def isRe (e : Expr) : Bool := match eName e with
  | some x => x == ("ESCAPED_CHAR_RE" : Str)
  | none => false
noncomputable def evMeth (sc : Sc) (ρ : Rho) (o : Expr) (m : Str) (apos : Pos) (es : List Expr) (pos : Pos) : Option V :=
  if notBare o && apos.endLine == pos.line && decide (es.length < 30) then
    (if isRe o then (if sc.lookup ("ESCAPED_CHAR_RE" : Str) = some NameKind.globalImplicit ∧ m = "search" then oB (evs ev sc ρ es) fun xs => b1 xs fun v => bS v fun t => if t.cps.size ≤ 1000 then some (searchV t) else none else none)
    else oB (ev sc ρ o) fun x => oB (evs ev sc ρ es) fun xs => mthV x m xs)
  else none
noncomputable def evSub (sc : Sc) (ρ : Rho) (a : V) (i : Expr) : Option V := match i with
  | .Slice lo hi st _ => oB (evP ev sc ρ lo) fun x => oB (evP ev sc ρ hi) fun y => oB (evP ev sc ρ st) fun z => sliceV a x y z
  | i => oB (ev sc ρ i) fun b => getV a b
end

/-- expressions over plain values -/
noncomputable def ev (c : Ct) : Nat → Sc → Rho → Expr → Option V
  | 0, _, _, _ => none
  | n + 1, sc, ρ, e => match e with
    | .Constant k _ _ => constV k
    | .Name x _ => nameV c sc ρ x
    | .BinOp l op r _ => oB (ev c n sc ρ l) fun a => oB (ev c n sc ρ r) fun b => binW op a b
    | .UnaryOp op x _ => oB (ev c n sc ρ x) fun a => unV op a
    | .IfExp t b o _ => oB (evB (ev c n) sc ρ t) fun x => cond x (ev c n sc ρ b) (ev c n sc ρ o)
    | .Tuple es _ _ => oB (evs (ev c n) sc ρ es) fun l => if l.length ≤ 1000 then some (.tup l) else none
    | .List es _ => oB (evs (ev c n) sc ρ es) fun l => if l.length ≤ 1000 then some (.lst l) else none
    | .Subscript v i _ => oB (ev c n sc ρ v) fun a => evSub (ev c n) sc ρ a i
    | .Call f es kw pos => (match kw with
      | [] => oO (eN f fun f _ => evCall (ev c n) c sc ρ f es) (eA f fun o m apos => evMeth (ev c n) sc ρ o m apos es pos)
      | _ :: _ => none)
    | .Attribute o a _ => eN o fun x p => if a = "string" then oB (ev c n sc ρ (.Name x p)) fun v => bM v fun t _ _ _ _ => some (.str t) else none
    | .ListComp elt gens scope _ => one gens fun q => if q.is_async = 0 then oB (evList (ev c n) sc ρ elt q.target q.iter q.ifs scope) fun l => some (.lst l) else none
    | _ => none

section
variable {c : Ct} {n : Nat} {sc : Sc} {ρ : Rho}
theorem evq_bin {l r : Expr} {op : Operator} {p : Pos} : ev c (n + 1) sc ρ (.BinOp l op r p) = oB (ev c n sc ρ l) fun a => oB (ev c n sc ρ r) fun b => binW op a b := rfl
theorem evq_nm {x : Str} {p : Pos} : ev c (n + 1) sc ρ (.Name x p) = nameV c sc ρ x := rfl
theorem evq_un {x : Expr} {op : UnaryOp} {p : Pos} : ev c (n + 1) sc ρ (.UnaryOp op x p) = oB (ev c n sc ρ x) fun a => unV op a := rfl
theorem evq_if {t b o : Expr} {p : Pos} : ev c (n + 1) sc ρ (.IfExp t b o p) = oB (evB (ev c n) sc ρ t) fun x => cond x (ev c n sc ρ b) (ev c n sc ρ o) := rfl
theorem evq_tup {es : List Expr} {k : Nat} {p : Pos} : ev c (n + 1) sc ρ (.Tuple es k p) = oB (evs (ev c n) sc ρ es) fun l => if l.length ≤ 1000 then some (.tup l) else none := rfl
theorem evq_lst {es : List Expr} {p : Pos} : ev c (n + 1) sc ρ (.List es p) = oB (evs (ev c n) sc ρ es) fun l => if l.length ≤ 1000 then some (.lst l) else none := rfl
theorem evq_slice {v : Expr} {lo hi st : Option Expr} {q p : Pos} : ev c (n + 1) sc ρ (.Subscript v (.Slice lo hi st q) p) = oB (ev c n sc ρ v) fun a => oB (evP (ev c n) sc ρ lo) fun x => oB (evP (ev c n) sc ρ hi) fun y => oB (evP (ev c n) sc ρ st) fun z => sliceV a x y z := rfl
theorem evq_call {f : Str} {q p : Pos} {es : List Expr} : ev c (n + 1) sc ρ (.Call (.Name f q) es [] p) = oO (evCall (ev c n) c sc ρ f es) none := rfl
theorem evq_meth {o : Expr} {m : Str} {q p : Pos} {es : List Expr} : ev c (n + 1) sc ρ (.Call (.Attribute o m q) es [] p) = evMeth (ev c n) sc ρ o m q es p := rfl
theorem evq_att {x a : Str} {q p : Pos} : ev c (n + 1) sc ρ (.Attribute (.Name x q) a p) = if a = "string" then oB (ev c n sc ρ (.Name x q)) fun v => bM v fun t _ _ _ _ => some (.str t) else none := rfl
theorem evq_comp {elt target iter : Expr} {ifs : List Expr} {a : Int} {scope : Scope} {p : Pos} : ev c (n + 1) sc ρ (.ListComp elt [⟨target, iter, ifs, a⟩] scope p) = if a = 0 then oB (evList (ev c n) sc ρ elt target iter ifs scope) fun l => some (.lst l) else none := rfl
theorem oO_none {β : Type} {x : Option β} : oO x none = x := by cases x <;> rfl
end

structure Wf (g : Gl) (defs : List Fd) (c : Ct) (d : Nat) : Prop where
  bl : ∀ n, n ∈ blts ∨ n = "range" ∨ n = "enumerate" ∨ n = "zip" → g.mg n = none
  gv : ∀ x v, c.gv x = some v → ∃ u, g.mg x = some u ∧ ∀ F, Rd F u v
  fn : ∀ f xs y, c.fn f xs = some y → ∃ fd, fd ∈ defs ∧ fd.name = f ∧ (f == ("__debug__" : Str)) = false ∧ Cl g defs d f xs y

structure EnvS (env : Env) (sc : Sc) : Prop where
  names : env.scope.names = sc
  kind : env.scope.kind = .function
theorem EnvS.kindOf {env : Env} {sc : Sc} (h : EnvS env sc) (x : Str) : env.kindOf x = sc.lookup x := by unfold Env.kindOf; rw [h.names]

section
variable {g : Gl} {defs : List Fd} {d : Nat} {c : Ct}

/-- the interpreter tells what the run does -/
noncomputable def Sound (g : Gl) (defs : List Fd) (d : Nat) (ev : Sc → Rho → Expr → Option V) : Prop := ∀ sc ρ e x env, ev sc ρ e = some x → EnvS env sc → Ev g defs d env ρ e x

variable {ev' : Sc → Rho → Expr → Option V} (H : Sound g defs d ev') {sc : Sc} {ρ : Rho} {env : Env} (hE : EnvS env sc)

theorem nameV_sound (W : Wf g defs c d) {x : Str} {p : Pos} {v : V} (hE : EnvS env sc) (h : nameV c sc ρ x = some v) : Ev g defs d env ρ (.Name x p) v :=
  iN h fun hx h => oBE h fun k hk h => by
    rw [not_or] at hx
    have h1 : (x == ("__debug__" : Str)) = false := beq_eq_false_iff_ne.mpr hx.1
    have h2 : (x == ("__classdict__" : Str)) = false := beq_eq_false_iff_ne.mpr hx.2
    rw [← hE.kindOf] at hk
    revert hk h
    cases k with
    | «local» => exact fun hk h => Ev.name h (.inl hk) h1 h2
    | cell => exact fun hk h => Ev.name h (.inr (.inl hk)) h1 h2
    | free => exact fun hk h => Ev.name h (.inr (.inr hk)) h1 h2
    | globalImplicit => exact fun hk h => xEA (W.gv x v h) fun u hu hr => Ev.const hu hr hk h1
    | _ => exact fun _ h => nS h

theorem constV_sound {k : Const} {n : Nat} {p : Pos} {v : V} (h : constV k = some v) : Ev g defs d env ρ (.Constant k n p) v := by
  cases k with
  | int i => exact jS (show some _ = some v from h) Ev.int
  | str i => exact jS (show some _ = some v from h) Ev.str
  | none => exact jS (show some _ = some v from h) Ev.none
  | bool i => exact jS (show some _ = some v from h) Ev.bool
  | float i => exact jS (show some _ = some v from h) Ev.flt
  | bytes i => exact jS (show some _ = some v from h) Ev.byt
  | _ => exact nS h

theorem add_lst_tr {x y : List V} (hx : x.length ≤ 1000) (hy : y.length ≤ 1000) : Tr g defs d [.lst x, .lst y] (fun vs => match vs with | [a, b] => binaryOp .Add a b | _ => unsupported "") (.lst (x ++ y)) := fun A E F s vs rm bs r => by
  refine RdL.conse r fun _ _ r1 r => ?_
  · refine RdL.conse r fun _ _ r2 r => ?_
    · (first | refine Rd.ie r fun _ => ?_ | refine Rd.se r fun _ => ?_ | refine Rd.fe r fun _ _ => ?_ | refine Rd.be r fun _ => ?_ | refine Rd.ne r ?_ | refine RdL.nile r ?_ | cases r)
      refine Rd.le r1 fun a o xs n e c dd rl => ?_
      · refine Rd.le r2 fun a' o' xs' n' e' c' dd' rl' => ?_
        · obtain ⟨cls, dc, data, sl⟩ := o
          obtain ⟨cls2, dc2, data2, sl2⟩ := o'
          simp only at c dd c' dd'
          subst c dd c' dd'
          have e1 : xs.size = x.length := by rw [← rl.length]; simp
          have e2 : xs'.size = y.length := by rw [← rl'.length]; simp
          refine up (concat_meets ⟨_, bs.sub _ _ e, rfl⟩ ⟨_, bs.sub _ _ e', rfl⟩ noFill_list_add seq_list_add PySem.F.slot_list_add PySem.F.entry_list_add (PySem.F.args_list_add_2 _ _) (list_addW a a' xs xs' n n' dc dc2 sl sl2 (by rw [sizeLine]; lia)) ⟨bs.sub _ _ e, bs.sub _ _ e', ?_⟩)
          have := res_list bs (rl.append rl') (n := 0)
          rw [show (xs.toList ++ xs'.toList).toArray = xs ++ xs' from by simp] at this
          exact this
theorem binW_sound {op : Operator} {a b x : V} (h : binW op a b = some x) : Tr g defs d [a, b] (fun vs => match vs with | [x, y] => binaryOp op x y | _ => unsupported "") x := by
  cases op with
  | Mod => exact oE (show oO (bS a fun x => bS b fun y => if x = fmtS ∧ y.length ≤ 1000 then some (V.str (("%" : Str) ++ y)) else none) (binV .Mod a b) = some x from h) (fun h => sX h fun x h => sX h fun y h => iS h fun hc h => jS h (hc.1 ▸ fmt_tr hc.2)) fun h => Tr.bin h
  | Add => exact oE (show oO (bL a fun x => bL b fun y => if x.length ≤ 1000 ∧ y.length ≤ 1000 then some (V.lst (x ++ y)) else none) (binV .Add a b) = some x from h) (fun h => lX h fun x h => lX h fun y h => iS h fun hc h => jS h (add_lst_tr hc.1 hc.2)) fun h => Tr.bin h
  | _ => exact Tr.bin h

include H hE in
theorem evT_sound {t : Expr} {b : Bool} (h : evT ev' sc ρ t = some b) : Is g defs d env ρ t b := by
  cases t with
  | Compare l ops rs p =>
    have h : (one ops fun op => one rs fun r => if behindInMarks op r then none else oB (ev' sc ρ l) fun a => oB (ev' sc ρ r) fun b => cmpV op a b) = some b := h
    exact oneE h fun op h => oneE h fun r h => iN h fun hm h => oBE h fun a ha h => oBE h fun b' hb h => Is.cmp (H _ _ _ _ _ ha hE) (H _ _ _ _ _ hb hE) (Tr.cmp h) (Bool.eq_false_iff.mpr hm)
  | Name y p =>
    have h : (oB (ev' sc ρ (.Name y p)) fun v => bI v fun i => some (i != 0)) = some b := h
    exact oBE h fun v hv h => by
      revert hv
      exact iX h fun i h hv => jS h (Is.name (H _ _ _ _ _ hv hE))
  | _ => exact nS h
include H hE in
theorem evOr_sound {t : Expr} {b : Bool} (h : evOr ev' sc ρ t = some b) : Is g defs d env ρ t b := by
  cases t with
  | BoolOp op es p =>
    cases op with
    | Or =>
      cases es with
      | nil => exact nS h
      | cons a r =>
        have h : (one r fun b => oB (evT ev' sc ρ a) fun x => cond x (some true) (evT ev' sc ρ b)) = some b := h
        exact oneE h fun t h => oBE h fun x hx h => by
          cases x with
          | true => exact jS (show some true = some b from h) (Is.or2 (y := false) (evT_sound H hE hx) fun e => nG e)
          | false => exact Bool.false_or b ▸ Is.or2 (evT_sound H hE hx) fun _ => evT_sound H hE h
    | _ => exact nS h
  | _ => exact nS h
include H hE in
theorem evB_sound {t : Expr} {b : Bool} (h : evB ev' sc ρ t = some b) : Is g defs d env ρ t b := oE h (evOr_sound H hE) (evT_sound H hE)
include H hE in
theorem evs_sound {es : List Expr} : ∀ {xs : List V}, evs ev' sc ρ es = some xs → EvL g defs d env ρ es xs := by
  induction es with
  | nil => intro xs h; exact jS (show some [] = some xs from h) .nil
  | cons e es ih =>
    intro xs h
    have h : (if isStar e then none else oB (ev' sc ρ e) fun x => oB (evs ev' sc ρ es) fun l => some (x :: l)) = some xs := h
    exact iN h fun hs h => oBE h fun x hx h => oBE h fun l hl h => jS h (.cons (Bool.eq_false_iff.mpr hs) (H _ _ _ _ _ hx hE) (ih hl))
include H hE in
theorem evP_sound {o : Option Expr} {k : Option Int} (h : evP ev' sc ρ o = some k) : EvP g defs d env ρ o k := by
  cases o with
  | none => exact jS (show some none = some k from h) .none
  | some e =>
    have h : (oB (ev' sc ρ e) fun v => bI v fun i => some (some i)) = some k := h
    exact oBE h fun v hv h => by
      revert hv
      exact iX h fun i h hv => jS h (.some (H _ _ _ _ _ hv hE))
include H hE in
theorem evTests_sound {ts : List Expr} {b : Bool} : evTests ev' sc ρ ts = some b → Tests g defs d env ρ ts b := by
  induction ts with
  | nil => intro h; exact (Option.some.inj h).symm
  | cons t ts ih =>
    intro h
    have h : (oB (evB ev' sc ρ t) fun b => cond b (evTests ev' sc ρ ts) (some false)) = some b := h
    exact oBE h fun x hx h => by
      cases x with
      | true => exact .inl ⟨evB_sound H hE hx, ih h⟩
      | false => exact .inr ⟨evB_sound H hE hx, (Option.some.inj h).symm⟩
include H hE in
theorem evSeq_sound {target iter : Expr} {l : List V} (h : evSeq ev' sc ρ target iter = some l) : EvIt g defs d env ρ target iter l :=
  iS h fun _ h => oBE h fun v hv h => by
    revert hv
    exact oE h (fun h => lX h fun i h hv => jS h (EvIt.list (H _ _ _ _ _ hv hE))) fun h => oE h (fun h => tX h fun i h hv => jS h (EvIt.tup (H _ _ _ _ _ hv hE)))
      fun h => sX h fun i h hv => iS h fun ht h => jS h (EvIt.str ht (H _ _ _ _ _ hv hE))
include H hE in
theorem evIterF_sound (W : Wf g defs c d) {target : Expr} {f : Str} {p pos : Pos} {es : List Expr} {l : List V} (hk : sc.lookup f = some .globalImplicit) (h : evIterF ev' sc ρ target f es = some l) : EvIt g defs d env ρ target (.Call (.Name f p) es [] pos) l := by
  rw [← hE.kindOf] at hk
  refine jE h (fun hf h5 => ?_) fun h6 => jE h6 (fun hf h5 => ?_) fun h7 => iS h7 fun hf h5 => ?_
  · clear h; subst hf
    refine iS h5 fun ht h => oBE h fun xs hx h => ?_
    have hl := evs_sound H hE hx
    revert hl
    clear hx
    exact oE h (fun h => b1E h fun x h => iX h fun i h => fun hl => iS h fun ho h => jS h (EvIt.range1 ht hl (W.bl _ (by decide)) hk ho))
      fun h => b2E h fun x y h => iX h fun i h => iX h fun j h => fun hl => iS h fun ho h => jS h (EvIt.range2 ht hl (W.bl _ (by decide)) hk ho)
  · clear h h6; subst hf
    refine iS h5 fun ht h => oBE h fun xs hx h => xEEE (isTgtTuple_eq ht) fun elts k tp e => ?_
    have hl := evs_sound H hE hx
    revert hl
    subst e
    clear hx
    exact b1E h fun x h => lX h fun i h => fun hl => jS h (EvIt.enum hl (W.bl _ (by decide)) hk)
  · clear h h6 h7; subst hf
    refine iS h5 fun ht h => oBE h fun xs hx h => xEEE (isTgtTuple_eq ht) fun elts k tp e => ?_
    have hl := evs_sound H hE hx
    revert hl
    subst e
    clear hx
    exact b2E h fun x y h => lX h fun i h => lX h fun j h => fun hl => jS h (EvIt.zip hl (W.bl _ (by decide)) hk)
include H hE in
theorem evIter_sound (W : Wf g defs c d) {target iter : Expr} {l : List V} (h : evIter ev' sc ρ target iter = some l) : EvIt g defs d env ρ target iter l :=
  oE h (fun h => eCE h fun f es pos h => eNE h fun x p h => iS h fun hk h => evIterF_sound H hE W hk h) (evSeq_sound H hE)

theorem cenv_S {scope : Scope} {C : Addr} {cl : List (Str × Addr)} (hE : EnvS env sc) (hk : scope.kind = .function) : EnvS (compEnvC scope cl C env) (relab (fun y => sc.lookup y) scope.names) := by
  refine ⟨?_, hk⟩
  show (relabel scope env).names = _
  rw [relabel_names hE.kind]
  congr 1
  funext y
  exact hE.kindOf y
include H in
theorem evComp_sound {ce : Env → Prop} {sc' : Sc} {ρ0 : Rho} {target elt : Expr} {ifs : List Expr} (hce : ∀ e, ce e → EnvS e sc') {l : List V} : ∀ {out : List V}, evComp ev' sc' ρ0 target elt ifs l = some out → Turns g defs d ce target elt ifs ρ0 l out := by
  induction l with
  | nil => intro out h; exact jS (show some [] = some out from h) .nil
  | cons x l ih =>
    intro out h
    have h : (oB (bindT target x ρ0) fun ρ1 => oB (evTests ev' sc' ρ1 ifs) fun b => cond b (oB (ev' sc' ρ1 elt) fun y => oB (evComp ev' sc' ρ0 target elt ifs l) fun ys => some (y :: ys)) (evComp ev' sc' ρ0 target elt ifs l)) = some out := h
    refine oBE h fun ρ1 hb h => oBE h fun b ht h => ?_
    cases b with
    | true => exact oBE h fun y hy h => oBE h fun ys hys h => jS h (.keep hb (fun e he => evTests_sound H (hce e he) ht) (fun e he => H _ _ _ _ _ hy (hce e he)) (ih hys))
    | false => exact .skip hb (fun e he => evTests_sound H (hce e he) ht) (ih h)

theorem namesOk_sound {scope : Scope} {target : Expr} (hE : EnvS env sc) (h : namesOk sc ρ scope target = true) : Names scope env target ∧ ∀ x ∈ scope.names, x.2 = .free → (ρ x.1).isSome = true := by
  simp only [namesOk, Bool.and_eq_true, List.all_eq_true] at h
  (refine xA h ?_; clear h; intro qq6 ht; refine xA qq6 ?_; clear qq6; intro hk hn)
  have hkind : scope.kind = .function := by
    cases q : scope.kind <;> rw [q] at hk <;> first | rfl | cases hk
  refine ⟨⟨hkind, fun x hx e => ?_, fun x hx e => ?_, fun x hx e => ?_, fun n hn' => by simpa using ht n hn'⟩, fun x hx e => ?_⟩
  · have := hn x hx; rw [e] at this; injection this
  · have := hn x hx; rw [e] at this; simpa using this
  · have := hn x hx; rw [e] at this
    simp only [Bool.and_eq_true, Bool.or_eq_true, beq_iff_eq] at this
    rw [hE.kindOf]; exact this.1
  · have := hn x hx; rw [e] at this
    simp only [Bool.and_eq_true] at this
    exact this.2

include H hE in
theorem evList_sound (W : Wf g defs c d) {elt target iter : Expr} {ifs : List Expr} {scope : Scope} {out : List V} (h : evList ev' sc ρ elt target iter ifs scope = some out) :
    Names scope env target ∧ (∀ x ∈ scope.names, x.2 = .free → (ρ x.1).isSome = true) ∧ notSet iter = true ∧ ∃ l, EvIt g defs d env ρ target iter l ∧ l.length ≤ sizeLine ∧ CompTurns g defs d env scope target elt ifs ρ l out := by
  refine iS h fun hc h => oBE h fun l hl h => iS h fun hlen h => ?_
  rw [Bool.and_eq_true] at hc
  refine xA (namesOk_sound hE hc.1) fun hN hF => ?_
  refine ⟨hN, hF, hc.2, l, evIter_sound H hE W hl, by rw [sizeLine]; lia, ?_⟩
  refine evComp_sound H (fun e he => ?_) h
  (refine xE he ?_; clear he; intro C qq7; subst qq7)
  exact cenv_S hE hN.kind

include H hE in
theorem evCall_sound (W : Wf g defs c d) {f : Str} {p pos : Pos} {es : List Expr} {x : V} (h : evCall ev' c sc ρ f es = some x) : Ev g defs d env ρ (.Call (.Name f p) es [] pos) x := by
  refine iS h fun hk h => oBE h fun xs hxs h => ?_
  have hl := evs_sound H hE hxs
  by_cases hb : f ∈ blts
  · rw [if_pos hb] at h
    refine xAAA (blt_boot f hb) fun b1 b2 b3 b4 => ?_
    exact Ev.bcall hl (W.bl f (.inl hb)) b1 b3 (by rw [hE.kindOf, hk]) b4 b2 (Tr.blt h)
  · rw [if_neg hb] at h
    (refine xEAAA (W.fn f xs x h) fun fd hm qq8 hd hc => ?_; subst qq8)
    exact Ev.call hm hl (by rw [hE.kindOf, hk]) hd hc

theorem isRe_name {o : Expr} (h : isRe o = true) : ∃ y p, o = .Name y p ∧ y = "ESCAPED_CHAR_RE" := by
  unfold isRe at h
  cases q : eName o with
  | none => rw [q] at h; exact nF h
  | some y => rw [q] at h; exact xE (eName_some q) fun p e => ⟨y, p, e, beq_iff_eq.mp h⟩
include H hE in
theorem evMeth_sound {o : Expr} {m : Str} {apos pos : Pos} {es : List Expr} {x : V} (h : evMeth ev' sc ρ o m apos es pos = some x) : Ev g defs d env ρ (.Call (.Attribute o m apos) es [] pos) x := by
  refine iS h fun hc h => ?_
  rw [Bool.and_eq_true, Bool.and_eq_true, decide_eq_true_eq] at hc
  refine jE h (fun hr h => iS h fun hk h => oBE h fun xs hx h => ?_) fun h => oBE h fun a ha h => oBE h fun xs hxs h => Ev.mcall hc.1.1 hc.1.2 hc.2 (H _ _ _ _ _ ha hE) (evs_sound H hE hxs) (mth_all (g := g) (defs := defs) (d := d) h).1 (mth_all h).2
  have hl := evs_sound H hE hx
  clear hx
  revert hl
  refine b1E h fun v h => sX h fun t h hl => iS h fun hs h => jS h ?_
  refine xEEA (isRe_name hr) fun y p e hy => ?_
  subst e hy
  rw [hk.2]
  exact EvL.rec (motive := fun es xs _ => xs = [V.str t] → Ev g defs d env ρ (.Call (.Attribute (.Name "ESCAPED_CHAR_RE" p) "search" apos) es [] pos) (searchV t)) (fun e => by injection e)
    (fun {e es x xs} he h6 r _ e2 => by
      injection e2 with e2 e3
      subst e2 e3
      cases r
      exact Ev.search hc.1.2 he h6 hs (by rw [hE.kindOf]; exact hk.1)) hl rfl

theorem ev_sound (W : Wf g defs c d) (n : Nat) : Sound g defs d (ev c n) := by
  induction n with
  | zero => intro sc ρ e x env h _; exact nS h
  | succ n H =>
    intro sc ρ e x env h hE
    cases e with
    | Constant k m p => exact constV_sound h
    | Name y p => exact nameV_sound W hE h
    | BinOp l op r p => exact oBE (evq_bin.symm.trans h) fun a ha h => oBE h fun b hb h => Ev.binop (H _ _ _ _ _ ha hE) (H _ _ _ _ _ hb hE) (binW_sound h)
    | UnaryOp op a p => exact oBE (evq_un.symm.trans h) fun a ha h => Ev.unop (H _ _ _ _ _ ha hE) (Tr.un h)
    | IfExp t b o p =>
      refine oBE (evq_if.symm.trans h) fun x hx h => ?_
      cases x with
      | true => exact Ev.ifexp (evB_sound H hE hx) (fun _ => H _ _ _ _ _ h hE) (fun e => nG e)
      | false => exact Ev.ifexp (evB_sound H hE hx) (fun e => nF e) (fun _ => H _ _ _ _ _ h hE)
    | Tuple es k p => exact oBE (evq_tup.symm.trans h) fun l hl h => iS h fun hz h => jS h (Ev.tup (evs_sound H hE hl) hz)
    | List es p => exact oBE (evq_lst.symm.trans h) fun l hl h => iS h fun hz h => jS h (Ev.lst (evs_sound H hE hl) hz)
    | Subscript v i p =>
      have h : (oB (ev c n sc ρ v) fun a => evSub (ev c n) sc ρ a i) = some x := h
      refine oBE h fun a ha h => ?_
      have item : isSlice i = false → (oB (ev c n sc ρ i) fun b => getV a b) = some x → Ev g defs d env ρ (.Subscript v i p) x := fun hs h => oBE h fun b hb h => Ev.item hs (H _ _ _ _ _ ha hE) (H _ _ _ _ _ hb hE) h
      cases i with
      | Slice lo hi st q =>
        have h : (oB (evP (ev c n) sc ρ lo) fun x => oB (evP (ev c n) sc ρ hi) fun y => oB (evP (ev c n) sc ρ st) fun z => sliceV a x y z) = some x := h
        exact oBE h fun x h1 h => oBE h fun y h2 h => oBE h fun z h3 h => Ev.slice (H _ _ _ _ _ ha hE) (evP_sound H hE h1) (evP_sound H hE h2) (evP_sound H hE h3) h
      | _ => exact item rfl h
    | Call f es kw p =>
      cases kw with
      | cons _ _ => exact nS h
      | nil =>
        have h : oO (eN f fun f _ => evCall (ev c n) c sc ρ f es) (eA f fun o m apos => evMeth (ev c n) sc ρ o m apos es p) = some x := h
        exact oE h (fun h => eNE h fun f q h => evCall_sound H hE W h) fun h => eAE h fun o m q h => evMeth_sound H hE h
    | Attribute o a p =>
      have h : (eN o fun x p => if a = "string" then oB (ev c n sc ρ (.Name x p)) fun v => bM v fun t _ _ _ _ => some (.str t) else none) = some x := h
      exact eNE h fun y q h => iS h fun ha h => oBE h fun v hv h => by
        revert hv
        exact mX h fun t b e i j h hv => jS h (ha ▸ Ev.mstring (H _ _ _ _ _ hv hE))
    | ListComp elt gens scope p =>
      have h : (one gens fun q => if q.is_async = 0 then oB (evList (ev c n) sc ρ elt q.target q.iter q.ifs scope) fun l => some (.lst l) else none) = some x := h
      exact oneE h fun q h => iS h fun ha h => oBE h fun l hl h => jS h (by
        obtain ⟨target, iter, ifs, a⟩ := q
        subst ha
        refine xAAA (evList_sound H hE W hl) fun h1 h2 h3 qr0 => xEAA qr0 fun l' h4 h5 h6 => ?_
        exact Ev.comp h1 h2 h3 h4 h5 h6)
    | _ => exact nS h
end
end Mine

namespace Mine
open PySem PyProof.Rows PySem.W PySem.SeqAt PySem.Builtin

noncomputable def kOk (sc : Sc) (n : Str) : Bool := sc.lookup n == some .local || sc.lookup n == some .cell
noncomputable def swapB (sc : Sc) (scope : Scope) (t : Str) (tl vl : Nat) : Bool :=
  sc.lookup t == some .local && tl == vl && !(scope.names.any fun (n, k) => n == t && (k == .local || k == .cell))

noncomputable def ownNames : List Str := ["names", "fresh", "heights", "ring", "asking", "apart"]
noncomputable def bW {β : Type} (o : Option OwnV) (f : List V → Option β) (z : Option β) : Option β := match o with
  | some o => (match o with | .lst l => f l | _ => z)
  | none => z
/-- lists that no longer grow are told of -/
noncomputable def frz : List Str → Rho → Omg → Rho × Omg
  | [], ρ, ω => (ρ, ω)
  | n :: ns, ρ, ω => match ω n with
    | some o => (match o with | .lst l => frz ns (upd ρ n (.lst l)) (era ω n) | _ => frz ns ρ ω)
    | none => frz ns ρ ω
noncomputable def isFor : Stmt → Bool
  | .For _ _ _ _ _ => true
  | _ => false
noncomputable def isTuple : Expr → Bool
  | .Tuple _ _ _ => true
  | .ListComp _ _ _ _ => true
  | .SetComp _ _ _ _ => true
  | .DictComp _ _ _ _ _ => true
  | _ => false

/-- what comes behind a statement -/
noncomputable def oNx (o : Out) (f : Rho → Omg → Option Out) (z : Option Out) : Option Out := match o with
  | .nx ρ ω => f ρ ω
  | .rt _ => z
section
variable (ex : Rho → Omg → Bool → Stmt → Option Out)
noncomputable def exs (ρ : Rho) (ω : Omg) (top : Bool) : List Stmt → Option Out
  | [] => some (.nx ρ ω)
  | st :: rest => oB (ex ρ ω top st) fun o => oNx o (fun ρ1 ω1 => cond (top && isFor st) (exs (frz ownNames ρ1 ω1).1 (frz ownNames ρ1 ω1).2 top rest) (exs ρ1 ω1 top rest)) (some o)
noncomputable def exFor (target : Expr) (body : List Stmt) : List V → Rho → Omg → Option Out
  | [], ρ, ω => some (.nx ρ ω)
  | x :: l, ρ, ω => oB (bindT target x ρ) fun ρ1 => if (tgtNames target).all fun n => (ω n).isNone then oB (exs ex ρ1 ω false body) fun o => oNx o (fun ρ2 ω2 => exFor target body l ρ2 ω2) (some o) else none
noncomputable def exWh (ev : Rho → Expr → Option Bool) (test : Expr) (body : List Stmt) : Nat → Rho → Omg → Option Out
  | 0, _, _ => none
  | n + 1, ρ, ω => oB (ev ρ test) fun b => cond b (oB (exs ex ρ ω false body) fun o => oNx o (fun ρ1 ω1 => exWh ev test body n ρ1 ω1) none) (some (.nx ρ ω))
end

noncomputable def exAppend (c : Ct) (n : Nat) (sc : Sc) (ρ : Rho) (ω : Omg) (x : Str) (e : Expr) : Option Out :=
  bW (ω x) (fun l => if l.length ≤ 1000 ∧ isStar e = false ∧ x ≠ "__debug__" then
    oO (oB (ev c n sc ρ e) fun v => some (.nx ρ (ownTo ω x (.lst (l ++ [v]))))) (oB (ev c n sc (upd ρ x (.lst l)) e) fun v => bI v fun i => some (.nx ρ (ownTo ω x (.lst (l ++ [.int i]))))) else none) none
noncomputable def eLst (e : Expr) : Option (List Expr) := match e with
  | .List es _ => some es
  | _ => none
theorem eLst_some {e : Expr} {es : List Expr} (h : eLst e = some es) : ∃ p, e = .List es p := by
  cases e <;> first | exact nS h | exact ⟨_, congrArg (Expr.List · _) (Option.some.inj h)⟩
noncomputable def exAssign (c : Ct) (n : Nat) (sc : Sc) (ρ : Rho) (ω : Omg) (x : Str) (p : Pos) (pos : Pos) (e : Expr) : Option Out :=
  if isTuple e then (match e with
    | .ListComp elt gens scope cp => one gens fun q => if q.is_async = 0 then oB (evList (ev c n) sc ρ elt q.target q.iter q.ifs scope) fun l => some (.nx (upd ρ x (.lst l)) (era ω x)) else none
    | _ => none)
  else match eLst e with
    | some es => oB (evs (ev c n) sc ρ es) fun l => if l.length ≤ 1000 then some (.nx (updO ρ x none) (ownTo ω x (.lst l))) else none
    | none => oB (ev c n sc ρ e) fun v => some (.nx (upd ρ x v) (era ω x))
noncomputable def exAssignT (c : Ct) (n : Nat) (sc : Sc) (ρ : Rho) (ω : Omg) (elts : List Expr) (k : Nat) (tp : Pos) (value : Expr) : Option Out :=
  if isTuple value || !((tgtNames (.Tuple elts k tp)).all fun n => kOk sc n && (ω n).isNone) then none else oB (ev c n sc ρ value) fun v => oB (bindT (.Tuple elts k tp) v ρ) fun ρ' => some (.nx ρ' ω)
noncomputable def exAsg (c : Ct) (n : Nat) (sc : Sc) (ρ : Rho) (ω : Omg) (t value : Expr) (pos : Pos) : Option Out := match t with
  | .Name x p => if kOk sc x then exAssign c n sc ρ ω x p pos value else none
  | .Tuple elts k tp => exAssignT c n sc ρ ω elts k tp value
  | _ => none

/-- statements over plain values and lists of one's own -/
noncomputable def ex (c : Ct) : Nat → Sc → Rho → Omg → Bool → Stmt → Option Out
  | 0, _, _, _, _, _ => none
  | n + 1, sc, ρ, ω, top, st => match st with
    | .Assign ts value pos => one ts fun t => exAsg c n sc ρ ω t value pos
    | .If t b o _ => oB (evB (ev c n) sc ρ t) fun x => cond x (exs (ex c n sc) ρ ω top b) (exs (ex c n sc) ρ ω top o)
    | .For target iter body els _ => (match els with
      | [] => if notSet iter && (tgtNames target).all (kOk sc) then oB (evIter (ev c n) sc ρ target iter) fun l => exFor (ex c n sc) target body l ρ ω else none
      | _ :: _ => none)
    | .While t body els _ => (match els with
      | [] => exWh (ex c n sc) (evB (ev c n) sc) t body 12 ρ ω
      | _ :: _ => none)
    | .Return e _ => oB e fun e => oB (ev c n sc ρ e) fun v => some (.rt v)
    | .Expr e _ => eC e fun f es p3 => eA f fun o m p2 => eN o fun x p1 => one es fun e => if m = "append" ∧ (p2.endLine == p3.line) = true then exAppend c n sc ρ ω x e else none
    | _ => none

section
variable {c : Ct} {n : Nat} {sc : Sc} {ρ : Rho} {ω : Omg} {top : Bool}
theorem exq_asg {x : Str} {p pos : Pos} {value : Expr} : ex c (n + 1) sc ρ ω top (.Assign [.Name x p] value pos) = if kOk sc x then exAssign c n sc ρ ω x p pos value else none := rfl
theorem exq_asgT {elts : List Expr} {k : Nat} {tp pos : Pos} {value : Expr} : ex c (n + 1) sc ρ ω top (.Assign [.Tuple elts k tp] value pos) = exAssignT c n sc ρ ω elts k tp value := rfl
theorem exq_if {t : Expr} {b o : List Stmt} {p : Pos} : ex c (n + 1) sc ρ ω top (.If t b o p) = oB (evB (ev c n) sc ρ t) fun x => cond x (exs (ex c n sc) ρ ω top b) (exs (ex c n sc) ρ ω top o) := rfl
theorem exq_for {target iter : Expr} {body : List Stmt} {p : Pos} : ex c (n + 1) sc ρ ω top (.For target iter body [] p) = if notSet iter && (tgtNames target).all (kOk sc) then oB (evIter (ev c n) sc ρ target iter) fun l => exFor (ex c n sc) target body l ρ ω else none := rfl
theorem exq_wh {t : Expr} {body : List Stmt} {p : Pos} : ex c (n + 1) sc ρ ω top (.While t body [] p) = exWh (ex c n sc) (evB (ev c n) sc) t body 12 ρ ω := rfl
theorem exq_ret {e : Expr} {p : Pos} : ex c (n + 1) sc ρ ω top (.Return (some e) p) = oB (ev c n sc ρ e) fun v => some (.rt v) := rfl
theorem exq_app {x m : Str} {p1 p2 p3 p : Pos} {e : Expr} : ex c (n + 1) sc ρ ω top (.Expr (.Call (.Attribute (.Name x p1) m p2) [e] [] p3) p) = if m = "append" ∧ (p2.endLine == p3.line) = true then exAppend c n sc ρ ω x e else none := rfl
theorem exAq_lst {x : Str} {p pos lp : Pos} {es : List Expr} : exAssign c n sc ρ ω x p pos (.List es lp) = oB (evs (ev c n) sc ρ es) fun l => if l.length ≤ 1000 then some (.nx (updO ρ x none) (ownTo ω x (.lst l))) else none := rfl
theorem exAq_comp {x : Str} {p pos cp : Pos} {elt target iter : Expr} {ifs : List Expr} {a : Int} {scope : Scope} : exAssign c n sc ρ ω x p pos (.ListComp elt [⟨target, iter, ifs, a⟩] scope cp) = if a = 0 then oB (evList (ev c n) sc ρ elt target iter ifs scope) fun l => some (.nx (upd ρ x (.lst l)) (era ω x)) else none := rfl
theorem exAq {x : Str} {p pos : Pos} {e : Expr} (he : isTuple e = false) (hl : eLst e = none) : exAssign c n sc ρ ω x p pos e = oB (ev c n sc ρ e) fun v => some (.nx (upd ρ x v) (era ω x)) := by
  unfold exAssign; rw [if_neg (by rw [he]; exact Bool.false_ne_true), hl]
end

structure EnvX (env : Env) (sc : Sc) : Prop extends EnvS env sc where
  cells : ∀ n, sc.lookup n = some .cell → (env.cells.lookup n).isSome = true

section
variable {g : Gl} {defs : List Fd} {d : Nat} {c : Ct} {sc : Sc} {ρ : Rho} {ω : Omg} {env : Env}

theorem kOk_env (hE : EnvX env sc) {n : Str} (h : kOk sc n = true) : env.kindOf n = some .local ∨ (env.kindOf n = some .cell ∧ (env.cells.lookup n).isSome = true) := by
  simp only [kOk, Bool.or_eq_true, beq_iff_eq] at h
  rw [hE.toEnvS.kindOf]
  rcases h with h | h
  · exact .inl h
  · exact .inr ⟨h, hE.cells n h⟩

theorem frz_sound {rest : List Stmt} {o : Out} {ns : List Str} : ∀ {ρ : Rho} {ω : Omg}, Exs g defs d env (frz ns ρ ω).1 (frz ns ρ ω).2 rest o → Exs g defs d env ρ ω rest o := by
  induction ns with
  | nil => intro ρ ω hx; exact hx
  | cons n ns ih =>
    intro ρ ω hx
    unfold frz at hx
    cases q : ω n with
    | none => rw [q] at hx; exact ih hx
    | some w =>
      rw [q] at hx
      cases w with
      | lst l => exact Exs.freeze q (ih hx)
      | _ => exact ih hx

noncomputable def SoundX (g : Gl) (defs : List Fd) (d : Nat) (env : Env) (ex' : Rho → Omg → Bool → Stmt → Option Out) : Prop := ∀ ρ ω top st o, ex' ρ ω top st = some o → Ex g defs d env ρ ω st o
theorem exs_sound {ex' : Rho → Omg → Bool → Stmt → Option Out} (H : SoundX g defs d env ex') {top : Bool} {sts : List Stmt} : ∀ {ρ : Rho} {ω : Omg} {o : Out}, exs ex' ρ ω top sts = some o → Exs g defs d env ρ ω sts o := by
  induction sts with
  | nil => intro ρ ω o h; exact jS (show some _ = some o from h) Exs.nil
  | cons st rest ih =>
    intro ρ ω o h
    have h : (oB (ex' ρ ω top st) fun o => oNx o (fun ρ1 ω1 => cond (top && isFor st) (exs ex' (frz ownNames ρ1 ω1).1 (frz ownNames ρ1 ω1).2 top rest) (exs ex' ρ1 ω1 top rest)) (some o)) = some o := h
    refine oBE h fun o1 h1 h => ?_
    cases o1 with
    | rt x => exact jS (show some _ = some o from h) (Exs.ret (H _ _ _ _ _ h1))
    | nx ρ1 ω1 =>
      refine Exs.cons (H _ _ _ _ _ h1) ?_
      have h : cond (top && isFor st) (exs ex' (frz ownNames ρ1 ω1).1 (frz ownNames ρ1 ω1).2 top rest) (exs ex' ρ1 ω1 top rest) = some o := h
      cases q : top && isFor st with
      | true => rw [q] at h; exact frz_sound (ih h)
      | false => rw [q] at h; exact ih h
theorem exFor_sound {ex' : Rho → Omg → Bool → Stmt → Option Out} (H : SoundX g defs d env ex') {target : Expr} {body : List Stmt} {l : List V} : ∀ {ρ : Rho} {ω : Omg} {o : Out}, exFor ex' target body l ρ ω = some o → ForT g defs d env target body l ρ ω o := by
  induction l with
  | nil => intro ρ ω o h; exact jS (show some _ = some o from h) .nil
  | cons x l ih =>
    intro ρ ω o h
    have h : (oB (bindT target x ρ) fun ρ1 => if (tgtNames target).all fun n => (ω n).isNone then oB (exs ex' ρ1 ω false body) fun o => oNx o (fun ρ2 ω2 => exFor ex' target body l ρ2 ω2) (some o) else none) = some o := h
    refine oBE h fun ρ1 hb h => iS h fun hw h => oBE h fun o1 h1 h => ?_
    have hw' : ∀ n ∈ tgtNames target, ω n = none := fun n hn => Option.isNone_iff_eq_none.mp (List.all_eq_true.mp hw n hn)
    cases o1 with
    | rt v => exact jS (show some _ = some o from h) (.ret hb hw' (exs_sound H h1))
    | nx ρ2 ω2 => exact .next hb hw' (exs_sound H h1) (ih h)
theorem exWh_sound {ex' : Rho → Omg → Bool → Stmt → Option Out} (H : SoundX g defs d env ex') {evb : Rho → Expr → Option Bool} (HB : ∀ ρ t b, evb ρ t = some b → Is g defs d env ρ t b) {test : Expr} {body : List Stmt} {n : Nat} :
    ∀ {ρ : Rho} {ω : Omg} {o : Out}, exWh ex' evb test body n ρ ω = some o → WhT g defs d env test body n ρ ω o := by
  induction n with
  | zero => intro ρ ω o h; exact nS h
  | succ n ih =>
    intro ρ ω o h
    have h : (oB (evb ρ test) fun b => cond b (oB (exs ex' ρ ω false body) fun o => oNx o (fun ρ1 ω1 => exWh ex' evb test body n ρ1 ω1) none) (some (.nx ρ ω))) = some o := h
    refine oBE h fun b ht h => ?_
    cases b with
    | false => exact jS (show some _ = some o from h) (.stop (HB _ _ _ ht))
    | true =>
      refine oBE h fun o1 h1 h => ?_
      cases o1 with
      | rt v => exact nS h
      | nx ρ1 ω1 => exact .step (HB _ _ _ ht) (exs_sound H h1) (ih h)

theorem swaps_off {value : Expr} (ht : isTuple value = false) {env : Env} : (∀ t l, swapsWith value t l env = pure false) ∧ (∀ elts k tp l, swapsWithSole [.Tuple elts k tp] value l env = pure false) ∧ ∀ elts k tp, swappedStores [.Tuple elts k tp] value env = pure none := by
  cases value <;> first | exact nG ht | exact ⟨fun _ _ => rfl, fun _ _ _ _ => rfl, fun _ _ _ => rfl⟩
theorem exComp_sound (W : Wf g defs c d) (hE : EnvX env sc) {n : Nat} {x : Str} {p pos cp : Pos} {elt target iter : Expr} {ifs : List Expr} {scope : Scope} {l : List V} (hk : env.kindOf x = some .local ∨ (env.kindOf x = some .cell ∧ (env.cells.lookup x).isSome = true)) (h : evList (ev c n) sc ρ elt target iter ifs scope = some l) :
    Ex g defs d env ρ ω (.Assign [.Name x p] (.ListComp elt [⟨target, iter, ifs, 0⟩] scope cp) pos) (.nx (upd ρ x (.lst l)) (era ω x)) := by
  refine xAAA (evList_sound (ev_sound W n) hE.toEnvS W h) fun h1 h2 h3 qr0 => xEAA qr0 fun l' h4 h5 h6 => ?_
  have hsw : swapsWith (.ListComp elt [⟨target, iter, ifs, 0⟩] scope cp) (some (.Name x p)) pos.line env = pure (env.blockKind == .function && env.kindOf x == some .local && p.line == cp.line
    && !(scope.names.any fun (n, k) => n == x && (k == .local || k == .cell))) := rfl
  cases hs : (env.blockKind == .function && env.kindOf x == some .local && p.line == cp.line && !(scope.names.any fun (n, k) => n == x && (k == .local || k == .cell))) with
  | true => exact Ex.assignComp h1 h2 h3 h4 h5 h6 hk (by rw [hsw, hs])
  | false => exact Ex.assign (Ev.comp h1 h2 h3 h4 h5 h6) hk (by rw [hsw, hs])
theorem exAssign_sound (W : Wf g defs c d) (hE : EnvX env sc) {n : Nat} {x : Str} {p pos : Pos} {value : Expr} {o : Out} (hk : kOk sc x = true) (h : exAssign c n sc ρ ω x p pos value = some o) : Ex g defs d env ρ ω (.Assign [.Name x p] value pos) o := by
  have H := ev_sound W n
  have hk' := kOk_env hE hk
  cases ht : isTuple value with
  | false =>
    unfold exAssign at h
    rw [if_neg (by rw [ht]; exact Bool.false_ne_true)] at h
    cases hl : eLst value with
    | none =>
      rw [hl] at h
      exact oBE h fun v hv h => jS h (Ex.assign (H _ _ _ _ _ hv hE.toEnvS) hk' ((swaps_off ht).1 _ _))
    | some es =>
      rw [hl] at h
      refine xE (eLst_some hl) fun q e => ?_
      subst e
      exact oBE h fun l hl h => iS h fun hz h => jS h (Ex.assignOwn (evs_sound H hE.toEnvS hl) hz hk')
  | true =>
    cases value with
    | ListComp elt gens scope cp =>
      have h : (one gens fun q => if q.is_async = 0 then oB (evList (ev c n) sc ρ elt q.target q.iter q.ifs scope) fun l => some (.nx (upd ρ x (.lst l)) (era ω x)) else none) = some o := h
      exact oneE h fun q h => iS h fun ha h => oBE h fun l hl2 h => jS h (by
        obtain ⟨target, iter, ifs, a⟩ := q
        subst ha
        exact exComp_sound W hE hk' hl2)
    | Tuple _ _ _ => exact nS h
    | SetComp _ _ _ _ => exact nS h
    | DictComp _ _ _ _ _ => exact nS h
    | _ => exact nF ht

theorem exAssignT_sound (W : Wf g defs c d) (hE : EnvX env sc) {n : Nat} {elts : List Expr} {k : Nat} {tp pos : Pos} {value : Expr} {o : Out} (h : exAssignT c n sc ρ ω elts k tp value = some o) : Ex g defs d env ρ ω (.Assign [.Tuple elts k tp] value pos) o := by
  refine iN h fun hc h => oBE h fun v hv h => oBE h fun ρ' hb h => jS h ?_
  rw [Bool.or_eq_true, not_or] at hc
  have hall : (tgtNames (.Tuple elts k tp)).all (fun n => kOk sc n && (ω n).isNone) = true := by simpa using hc.2
  have ht : isTuple value = false := Bool.eq_false_iff.mpr hc.1
  refine Ex.assignTup (ev_sound W n _ _ _ _ _ hv hE.toEnvS) hb (fun n hn => ?_) ((swaps_off ht).2.1 _ _ _ _) ((swaps_off ht).2.2 _ _ _)
  have := List.all_eq_true.mp hall n hn
  rw [Bool.and_eq_true] at this
  exact ⟨kOk_env hE this.1, by simpa using this.2⟩

theorem exAppend_sound (W : Wf g defs c d) (hE : EnvX env sc) {n : Nat} {x : Str} {p1 p2 p3 pos : Pos} {e : Expr} {o : Out} (hl : (p2.endLine == p3.line) = true) (h : exAppend c n sc ρ ω x e = some o) :
    Ex g defs d env ρ ω (.Expr (.Call (.Attribute (.Name x p1) "append" p2) [e] [] p3) pos) o := by
  have hi : interactive env = false := by unfold interactive; rw [hE.kind]; rfl
  unfold exAppend at h
  cases hω : ω x with
  | none => rw [hω] at h; exact nS h
  | some w =>
    rw [hω] at h
    cases w with
    | lst l =>
      refine iS h fun hc h => ?_
      have hd : (x == ("__debug__" : Str)) = false := beq_eq_false_iff_ne.mpr hc.2.2
      refine oE h (fun h => oBE h fun v hv h => jS h (Ex.append hω (ev_sound W n _ _ _ _ _ hv hE.toEnvS) hc.2.1 hc.1 hd hl hi)) fun h => oBE h fun v hv h => ?_
      revert hv
      exact iX h fun i h hv => jS h (Ex.appendI hω (ev_sound W n _ _ _ _ _ hv hE.toEnvS) hc.2.1 hc.1 hd hl hi)
    | _ => exact nS h

theorem ex_sound (W : Wf g defs c d) (hE : EnvX env sc) (n : Nat) : SoundX g defs d env (ex c n sc) := by
  induction n with
  | zero => intro ρ ω top st o h; exact nS h
  | succ n HX =>
    intro ρ ω top st o h
    have H := ev_sound W n
    cases st with
    | Assign ts value pos =>
      have h : (one ts fun t => exAsg c n sc ρ ω t value pos) = some o := h
      refine oneE h fun t h => ?_
      cases t with
      | Name x p => exact iS h fun hk h => exAssign_sound W hE hk h
      | Tuple elts k tp => exact exAssignT_sound W hE h
      | _ => exact nS h
    | If t b o p =>
      refine oBE (exq_if.symm.trans h) fun x ht h => ?_
      cases x with
      | true => exact Ex.ite (evB_sound H hE.toEnvS ht) (fun _ => exs_sound HX h) (fun e => nG e)
      | false => exact Ex.ite (evB_sound H hE.toEnvS ht) (fun e => nF e) (fun _ => exs_sound HX h)
    | For target iter body els p =>
      cases els with
      | cons _ _ => exact nS h
      | nil =>
        refine iS (exq_for.symm.trans h) fun hc h => oBE h fun l hl h => ?_
        rw [Bool.and_eq_true] at hc
        exact Ex.for hc.1 (evIter_sound H hE.toEnvS W hl) (fun n hn => kOk_env hE (List.all_eq_true.mp hc.2 n hn)) (exFor_sound HX h)
    | While t body els p =>
      cases els with
      | cons _ _ => exact nS h
      | nil => exact Ex.while (exWh_sound HX (fun ρ t b ht => evB_sound H hE.toEnvS ht) h)
    | Return e p =>
      cases e with
      | none => exact nS h
      | some e => exact oBE (exq_ret.symm.trans h) fun v hv h => jS h (Ex.ret (H _ _ _ _ _ hv hE.toEnvS))
    | Expr e p =>
      have h : (eC e fun f es p3 => eA f fun o m p2 => eN o fun x p1 => one es fun e => if m = "append" ∧ (p2.endLine == p3.line) = true then exAppend c n sc ρ ω x e else none) = some o := h
      exact eCE h fun f es p3 h => eAE h fun o m p2 h => eNE h fun x p1 h => oneE h fun e h => iS h fun hc h => hc.1 ▸ exAppend_sound W hE hc.2 h
    | _ => exact nS h
end
end Mine

namespace Mine
open PySem PyProof.Rows PySem.W PySem.SeqAt PySem.Builtin

noncomputable def pnames (a : Arguments) : List Str := a.args.map (·.arg)
noncomputable def fdOk (fd : Fd) (n : Nat) : Bool :=
  (pnames fd.params).length == n && decide (pnames fd.params).Nodup && (pnames fd.params).all (kOk fd.scope.names) && !fd.scope.isCoroutine && !fd.scope.isGenerator && isFunc fd.scope.kind && !(fd.name == ("__debug__" : Str))
noncomputable def callF (ds : List Fd) (gv : Str → Option V) : Nat → Str → List V → Option V
  | 0, _, _ => none
  | k + 1, f, xs => match ds.find? (fun fd => fd.name == f) with
    | some fd => if fdOk fd xs.length then (match exs (ex ⟨callF ds gv k, gv⟩ 60 fd.scope.names) (rho (pnames fd.params) xs) omg0 true fd.body with
      | some (.rt x) => some x
      | _ => none) else none
    | none => none

noncomputable def BindOk (ds : List Fd) : Prop := ∀ fd ∈ ds, ∀ (vs : List Value) (pm code doc : Value), vs.length = (pnames fd.params).length → bindArgs (Calls.docDef fd.name fd.params fd.body fd.scope pm code doc) ⟨vs, []⟩ = pure ((pnames fd.params).zip vs)

theorem cellsFrom_acc : ∀ (names : List (Str × NameKind)) (L : Nat) (acc : List (Str × Addr)) (n : Str), (acc.lookup n).isSome = true → ((cellsFrom L names acc).lookup n).isSome = true
  | [], _, _, _, h => h
  | (m, k) :: r, L, acc, n, h => by
    unfold cellsFrom
    split
    · refine cellsFrom_acc r _ _ n ?_
      rw [List.lookup_cons]
      cases n == m with
      | true => rfl
      | false => exact h
    · exact cellsFrom_acc r _ _ n h
theorem cellsFrom_some : ∀ (names : List (Str × NameKind)) (L : Nat) (acc : List (Str × Addr)) (n : Str), names.lookup n = some .cell → ((cellsFrom L names acc).lookup n).isSome = true
  | [], _, _, _, h => nS h
  | (m, k) :: r, L, acc, n, h => by
    rw [List.lookup_cons] at h
    unfold cellsFrom
    cases hb : n == m with
    | true =>
      rw [hb] at h; (injection h with h; subst h)
      show ((cellsFrom (L + 1) r ((m, L) :: acc)).lookup n).isSome = true
      refine cellsFrom_acc r _ _ n ?_
      rw [List.lookup_cons, hb]; rfl
    | false =>
      rw [hb] at h
      split
      · exact cellsFrom_some r _ _ n h
      · exact cellsFrom_some r _ _ n h

theorem isFunc_eq {k : ScopeKind} (h : isFunc k = true) : k = .function := by
  cases k <;> first | rfl | cases h

theorem callEnv_X {fd : Fd} {pm code doc : Value} {L a : Addr} (hk : fd.scope.kind = .function) : EnvX (callEnvC (Calls.docDef fd.name fd.params fd.body fd.scope pm code doc) L a) fd.scope.names :=
  { names := rfl, kind := hk, cells := fun n hn => cellsFrom_some _ _ _ n hn }

section
variable {g : Gl} {ds : List Fd} {gv : Str → Option V}

structure Base (g : Gl) (ds : List Fd) (gv : Str → Option V) : Prop where
  bl : ∀ n, n ∈ blts ∨ n = "range" ∨ n = "enumerate" ∨ n = "zip" → g.mg n = none
  gv : ∀ x v, gv x = some v → ∃ u, g.mg x = some u ∧ ∀ F, Rd F u v
  bind : BindOk ds

theorem callF_sound (B : Base g ds gv) : ∀ (k : Nat) (f : Str) (xs : List V) (y : V), callF ds gv k f xs = some y → ∃ fd, fd ∈ ds ∧ fd.name = f ∧ (f == ("__debug__" : Str)) = false ∧ Cl g ds k f xs y
  | 0, _, _, _, h => by cases h
  | k + 1, f, xs, y, h => by
    unfold callF at h
    split at h
    · rename_i fd hf
      have hm := List.mem_of_find?_eq_some hf
      have hn : fd.name = f := by simpa using List.find?_some hf
      split at h
      · rename_i ho
        simp only [fdOk, Bool.and_eq_true, beq_iff_eq, decide_eq_true_eq, Bool.not_eq_true'] at ho
        (refine xA ho ?_; clear ho; intro qq0 h7; refine xA qq0 ?_; clear qq0; intro qq1 h6; refine xA qq1 ?_; clear qq1; intro qq2 h5; refine xA qq2 ?_; clear qq2; intro qq3 h4; refine xA qq3 ?_; clear qq3; intro qq4 h3; refine xA qq4 ?_; clear qq4; intro h1 h2)
        subst hn
        split at h
        · rename_i x hx
          (injection h with h; subst h)
          have W : Wf g ds ⟨callF ds gv k, gv⟩ k := ⟨B.bl, B.gv, fun f xs y h => callF_sound B k f xs y h⟩
          refine ⟨fd, hm, rfl, h7, Cl.of_body hm h2 h1 (B.bind fd hm) (fun L y hy => ?_) (fun pm code doc L a => ?_) h4 h5 (isFunc_eq h6)⟩
          · have := List.all_eq_true.mp h3 y hy
            simp only [kOk, Bool.or_eq_true, beq_iff_eq] at this
            rcases this with h | h
            · exact .inl h
            · exact .inr ⟨h, cellsFrom_some _ _ _ y h⟩
          · exact exs_sound (ex_sound W (callEnv_X (isFunc_eq h6)) 60) hx
        · injection h
      · injection h
    · injection h

theorem Base.wf (B : Base g ds gv) (k : Nat) : Wf g ds ⟨callF ds gv k, gv⟩ k := ⟨B.bl, B.gv, fun f xs y h => callF_sound B k f xs y h⟩
end
end Mine

namespace Mine
open PySem PyProof.Rows PySem.W PySem.SeqAt PySem.Builtin

noncomputable def fdOf : Stmt → Option Fd
  | .FunctionDef name args body _ _ _ scope _ _ _ => some ⟨name, args, body, scope⟩
  | _ => none
noncomputable def dsP : List Fd := (PySem.Challenge.pw_xr0004_01.main.body.filterMap fdOf).drop 1
noncomputable def gvP : Str → Option V := fun x =>
  if x = "ONE_THIRD" then some (.flt 4599676419421066581) else if x = "ONE_SIXTH" then some (.flt 4595172819793696085) else if x = "TWO_THIRD" then some (.flt 4604180019048437077) else none
noncomputable def cP : Ct := ⟨callF dsP gvP 0, gvP⟩
end Mine

namespace Mine
set_option genInjectivity false
set_option genSizeOf false
open PySem PyProof.Rows PySem.W

/-- a piece of the program's text -/
inductive T where
  | u
  | e (x : Expr)
  | s (x : Stmt)
  | p (x : Pos)
  | es (x : List Expr)
  | ss (x : List Stmt)
  | cs (x : List Comprehension)
  | c (x : Comprehension)
  | sc (x : Scope)
  | oe (x : Option Expr)
  | n (x : Nat)
noncomputable def kidE (e : Expr) : List T := match e with
  | .BoolOp _ l p => [.u, .es l, .p p]
  | .BinOp a _ b p => [.e a, .u, .e b, .p p]
  | .ListComp a l s p => [.e a, .cs l, .sc s, .p p]
  | .Compare a _ l p => [.e a, .u, .es l, .p p]
  | .Call f l _ p => [.e f, .es l, .u, .p p]
  | .Constant _ k p => [.u, .n k, .p p]
  | .Attribute a _ p => [.e a, .u, .p p]
  | .Subscript a b p => [.e a, .e b, .p p]
  | .Name _ p => [.u, .p p]
  | .List l p => [.es l, .p p]
  | .Tuple l k p => [.es l, .n k, .p p]
  | .Slice a b c p => [.oe a, .oe b, .oe c, .p p]
  | _ => []
noncomputable def kidS (s : Stmt) : List T := match s with
  | .Return a p => [.oe a, .p p]
  | .Assign l a p => [.es l, .e a, .p p]
  | .For a b l m p => [.e a, .e b, .ss l, .ss m, .p p]
  | .While a l m p => [.e a, .ss l, .ss m, .p p]
  | .If a l m p => [.e a, .ss l, .ss m, .p p]
  | .Expr a p => [.e a, .p p]
  | _ => []
noncomputable def kids (t : T) : List T := match t with
  | .e x => kidE x
  | .s x => kidS x
  | .es l => l.map .e
  | .ss l => l.map .s
  | .cs l => l.map .c
  | .c x => [.e x.target, .e x.iter, .es x.ifs]
  | .oe x => (match x with | some e => [.e e] | none => [])
  | _ => []
/-- the piece at a path: its steps are the number's figures to the base 16, the last first -/
noncomputable def tAt : Nat → T → Nat → T
  | 0, t, _ => t
  | k + 1, t, n => cond (Nat.ble n 1) t (tAt k ((kids t).getD (n % 16) .u) (n / 16))
noncomputable def tP (t : T) (n : Nat) : Pos := match tAt 20 t n with | .p x => x | _ => default
noncomputable def tE (t : T) (n : Nat) : Expr := match tAt 20 t n with | .e x => x | _ => default
noncomputable def tS (t : T) (n : Nat) : Stmt := match tAt 20 t n with | .s x => x | _ => default
noncomputable def tEs (t : T) (n : Nat) : List Expr := match tAt 20 t n with | .es x => x | _ => default
noncomputable def tSs (t : T) (n : Nat) : List Stmt := match tAt 20 t n with | .ss x => x | _ => default
noncomputable def tSc (t : T) (n : Nat) : Scope := match tAt 20 t n with | .sc x => x | _ => default
noncomputable def tN (t : T) (n : Nat) : Nat := match tAt 20 t n with | .n x => x | _ => default
end Mine

namespace Mine
open PySem PySem.W PyProof.Rows

noncomputable abbrev KK (P : Params) : Frag := hd.heap_39 P
section
variable (P : Params)
theorem acc_cls : ∃ cd, clsIn (KK P) 158 = some cd ∧ cd.mro = [.ref 158, .type "list", .type "object"] ∧ cd.abstract = false ∧ cd.hasDel = false ∧ cd.hasDict = true := by
  have e : (clsIn (KK P) 158).map (fun cd => (cd.mro, cd.abstract, cd.hasDel, cd.hasDict)) = some ([.ref 158, .type "list", .type "object"], false, false, true) := by kernel_rfl
  refine xEA (Option.map_eq_some_iff.mp e) fun cd a b => ?_
  cases b' : cd
  subst b'
  simp only [Prod.mk.injEq] at b
  exact ⟨_, a, b⟩
theorem acc_ga : findIn (KK P) (.ref 158) "__getattribute__" = some (some (.builtin "list.__getattribute__")) := by kernel_rfl
theorem canon_list : Manifest.canonical "list.__getattribute__" = "object.__getattribute__" := by decide +kernel
theorem acc_gattr : findIn (KK P) (.ref 158) "__getattr__" = some none := by kernel_rfl
theorem acc_append : findIn (KK P) (.ref 158) "append" = some (some (.builtin "list.append")) := by kernel_rfl
theorem acc_iter : findIn (KK P) (.ref 158) "__iter__" = some (some (.builtin "list.__iter__")) := by kernel_rfl
theorem acc_init : findIn (KK P) (.ref 158) "__init__" = some (some (.ref 95)) := by kernel_rfl
theorem acc_push : findIn (KK P) (.ref 158) "push" = some (some (.ref 102)) := by kernel_rfl
theorem acc_pop : findIn (KK P) (.ref 158) "pop" = some (some (.ref 118)) := by kernel_rfl
theorem acc_pc : findIn (KK P) (.ref 158) "part_count" = some (some (.ref 155)) := by kernel_rfl
theorem acc_str : findIn (KK P) (.ref 158) "__str__" = some (some (.ref 132)) := by kernel_rfl
theorem acc_sa : findIn (KK P) (.ref 158) "__setattr__" = some (some (.builtin "object.__setattr__")) := by kernel_rfl
theorem acc_is : findIn (KK P) (.ref 158) "_initial_size" = some none := by kernel_rfl
theorem acc_fn (f : Addr) (h : f ∈ [95, 102, 118, 155, 132]) : typeIn (KK P) (.ref f) = some (.type "function") := by
  simp only [List.mem_cons, List.not_mem_nil, or_false] at h
  rcases h with rfl | rfl | rfl | rfl | rfl <;> kernel_rfl
theorem acc_super_init : alongIn (KK P) "__init__" [.type "list", .type "object"] = some (some (.builtin "list.__init__")) := by kernel_rfl
theorem acc_super_pop : alongIn (KK P) "pop" [.type "list", .type "object"] = some (some (.builtin "list.pop")) := by kernel_rfl
theorem acc_super_len : alongIn (KK P) "__len__" [.type "list", .type "object"] = some (some (.builtin "list.__len__")) := by kernel_rfl
theorem acc_any : nsIn (KK P) cStatics "thirdparty.any" = some none := by kernel_rfl
theorem acc_sub : mroIn (KK P) 158 (.ref 158) = some true := by kernel_rfl
theorem acc_subl : mroIn (KK P) 158 (.type "list") = some true := by kernel_rfl
theorem acc_subo : mroIn (KK P) 158 (.type "object") = some true := by kernel_rfl
end

section
variable {M : Model} {A : Around} {E : Value → Shared → Prop} {s : Shared} {P : Params} {x : Addr} {ox : Obj} {od : Option Obj} {name : Str} {pl : Sem Bool} {Q : Value × List Value → Shared → Prop}
/-- a method of the class found at its own object -/
theorem acc_getMethod {f T : Value} {dx : Addr} {m : Str → Option Value} (X : (KK P).In s.heap) (I : InstAt s.heap x ox 158 od) (hf : findIn (KK P) (.ref 158) name = some (some f)) (ht : typeIn (KK P) f = some T) (hT : (T != .type "function" && T != .type "method_descriptor" && T != .type "wrapper_descriptor") = false)
    (hd : ox.dict = some dx) (hns : s.heap.Ns dx m) (hm : m name = none) (h : Q (f, [.ref x]) s) :
    wpAny M A (getMethod (.ref x) name pl) Q E s := by
  have hcan := canon_list
  unfold getMethod specialOf
  refine wpAny_bind (wpAny_bind (I.type.here ((looks_findIn X (acc_ga P)).here ?_)))
  dsimp only
  rw [hcan, if_neg (by decide)]
  refine wpAny_bind (wpAny_bind (I.type.here ((looks_findIn X (acc_gattr P)).here ?_)))
  refine wpAny_bind (wpAny_bind (I.type.here ((looks_findIn X hf).here (wpAny_bind ((looks_typeIn X ht).here ?_)))))
  rw [if_neg (by rw [hT]; decide)]
  refine wpAny_bind (wpAny_loadPart I.at_ ?_)
  rw [hd]
  refine wpAny_bind (wpAny_nsGet hns ?_)
  rw [hm]
  exact wpAny_bind (wpAny_rule (wpAny_pure h))
end
end Mine

namespace Mine
open PySem PySem.W PyProof.Rows
namespace AF
theorem slot_md_get : Slot "method_descriptor" "__get__" "method_descriptor.__get__" := .of (owner := "method_descriptor") (n := "__get__") (by rw [typeLookup_type, builtinLookup_eq_fast]; kernel_rfl) (by decide +kernel) (by decide +kernel) (by decide +kernel)
  (by first | exact .inl (by decide +kernel) | exact .inr (by decide +kernel)) (by rw [isSubtype_type]; kernel_rfl)
theorem slot_wd_get : Slot "wrapper_descriptor" "__get__" "wrapper_descriptor.__get__" := .of (owner := "wrapper_descriptor") (n := "__get__") (by rw [typeLookup_type, builtinLookup_eq_fast]; kernel_rfl) (by decide +kernel) (by decide +kernel) (by decide +kernel)
  (by first | exact .inl (by decide +kernel) | exact .inr (by decide +kernel)) (by rw [isSubtype_type]; kernel_rfl)
theorem entry_md_get : entryFor table "method_descriptor.__get__" = some Builtin.«method_descriptor.__get__» := entryFor_of_tree (by kernel_rfl)
theorem entry_wd_get : entryFor table "wrapper_descriptor.__get__" = some Builtin.«wrapper_descriptor.__get__» := entryFor_of_tree (by kernel_rfl)
theorem args_md_get (a b c : Value) : argsOk "method_descriptor.__get__" ⟨[a, b, c], []⟩ := by unfold argsOk; kernel_rfl
theorem args_wd_get (a b c : Value) : argsOk "wrapper_descriptor.__get__" ⟨[a, b, c], []⟩ := by unfold argsOk; kernel_rfl
theorem type_pop : typeOf (.builtin "list.pop") = pure (.type "method_descriptor") := by kernel_rfl
theorem type_init : typeOf (.builtin "list.__init__") = pure (.type "wrapper_descriptor") := by kernel_rfl
theorem type_len : typeOf (.builtin "list.__len__") = pure (.type "wrapper_descriptor") := by kernel_rfl
end AF
section
variable {prog : Program} {w : World} {P : Params} {A : Around} {E : Value → Shared → Prop} {h : Heap} {g : Array GenState} {d : Drawn} {t : Nat} {os : OsState} {x : Addr} {ox : Obj} {od : Option Obj}
theorem wd_get {id : String} {Q : PySem.Fin → Shared → Prop} (X : (KK P).In h) (I : InstAt h x ox 158 od) (ho : ".".intercalate (id.cutAt '.').dropLast = "list")
  (hq : Q (.done (.ret (.ref h.objs.size))) ⟨h.push { cls := .type "method-wrapper", data := .fields #[.builtin id, .ref x] }, g, d, t, os⟩) :
   wpAny (model prog w) A (Builtin.«wrapper_descriptor.__get__» ⟨[.builtin id, .ref x, .ref 158], []⟩) Q E ⟨h, g, d, t, os⟩ := by
  have hs : Looks (model prog w) h (isSubtype (.ref 158) (.type "list")) true := looks_mroIn X (acc_subl P)
  have hx := I.at_
  have hc := I.cls
  unfold Builtin.«wrapper_descriptor.__get__»
  repeat (first | (with_reducible refine Looks.at hs ?_) | (with_reducible refine wpAny_loadPart_at hx ?_; rw [hc]) | (simp only [ho, hc]) | wp_step | dsimp only)
  exact hq
theorem md_get {id : String} {Q : PySem.Fin → Shared → Prop} (X : (KK P).In h) (I : InstAt h x ox 158 od) (ho : ".".intercalate (id.cutAt '.').dropLast = "list") (hc' : Manifest.toldItsClass.contains id = false)
  (hq : Q (.done (.ret (.ref h.objs.size))) ⟨h.push { cls := .type "builtin_function_or_method", data := .fields #[.builtin id, .ref x] }, g, d, t, os⟩) :
   wpAny (model prog w) A (Builtin.«method_descriptor.__get__» ⟨[.builtin id, .ref x, .ref 158], []⟩) Q E ⟨h, g, d, t, os⟩ := by
  have hs : Looks (model prog w) h (isSubtype (.ref 158) (.type "list")) true := looks_mroIn X (acc_subl P)
  have hx := I.at_
  have hc := I.cls
  unfold Builtin.«method_descriptor.__get__»
  repeat (first | (with_reducible refine Looks.at hs ?_) | (with_reducible refine wpAny_loadPart_at hx ?_; rw [hc]) | (simp only [ho, hc, hc', Bool.false_eq_true, if_false]) | wp_step | dsimp only)
  exact hq

theorem acc_super_ga {so : Addr} {id T BT gid : String} {name : Str} {tk : Tok} {gB : Builtin} {Q : PySem.Fin → Shared → Prop}
    (hso : h.get? so = some { cls := .type "super", dict := none, data := .fields #[.ref 158, .ref x, .ref 158], slots := #[] }) (X : (KK P).In h) (I : InstAt h x ox 158 od)
    (hf : alongIn (KK P) name [.type "list", .type "object"] = some (some (.builtin id))) (hT : typeOf (.builtin id) = pure (.type T)) (slot : Slot T "__get__" gid) (entry : entryFor table gid = some gB) (hargs : argsOk gid ⟨[.builtin id, .ref x, .ref 158], []⟩)
    (hxC : x ≠ 158) (hn : (name == ("__class__" : Str)) = false)
    (hget : ∀ {A' : Around} {E' : Value → Shared → Prop} {Q' : PySem.Fin → Shared → Prop}, Q' (.done (.ret (.ref h.objs.size))) ⟨h.push { cls := .type BT, data := .fields #[.builtin id, .ref x] }, g, d, t, os⟩ → wpAny (model prog w) A' (gB ⟨[.builtin id, .ref x, .ref 158], []⟩) Q' E' ⟨h, g, d, t, os⟩)
    (hq : Q (.done (.ret (.ref h.objs.size))) ⟨h.push { cls := .type BT, data := .fields #[.builtin id, .ref x] }, g, d, t, os⟩) :
    wpAny (model prog w) A (Builtin.«super.__getattribute__» ⟨[.ref so, .str name tk], []⟩) Q E ⟨h, g, d, t, os⟩ := by
  have hlk := slot.lookup
  obtain ⟨cd, hcd, hmro, -⟩ := acc_cls P
  have hno : Looks (model prog w) h (opaqueClassAbove (.ref 158)) none := looks_opaque X (acc_any P)
  have hC : Looks (model prog w) h (mroOf (.ref 158)) [.ref 158, .type "list", .type "object"] := hmro ▸ (looks_clsIn X hcd).andThen .now
  have hl : (([.ref 158, .type "list", .type "object"] : List Value).dropWhile (· != .ref 158)).drop 1 = [.type "list", .type "object"] := by decide +kernel
  have hne : (Value.ref x == Value.ref 158) = false := by simp [hxC]
  have hTf : (⟨h, g, d, t, os⟩ : Shared).TypeIs (.builtin id) T := hT
  have hdt : ({ cls := .type "super", dict := none, data := .fields #[.ref 158, .ref x, .ref 158], slots := #[] } : Obj).data = .fields #[.ref 158, .ref x, .ref 158] := rfl
  have f0 : (#[.ref 158, .ref x, .ref 158] : Array Value)[0]? = some (.ref 158) := rfl
  have f1 : (#[.ref 158, .ref x, .ref 158] : Array Value)[1]? = some (.ref x) := rfl
  have f2 : (#[.ref 158, .ref x, .ref 158] : Array Value)[2]? = some (.ref 158) := rfl
  unfold Builtin.«super.__getattribute__»
  repeat (first
    | (with_reducible refine wpAny_field hso hdt f0 ?_) | (with_reducible refine wpAny_field hso hdt f1 ?_) | (with_reducible refine wpAny_field hso hdt f2 ?_)
    | (with_reducible refine ks_wpAny_notOpaque hno ?_)
    | (with_reducible refine Looks.at hC ?_; rw [hl])
    | (refine ks_forIn_along X (fun _ _ => rfl) rfl ?_ hf)
    | (with_reducible refine wpAny_typeOf hTf ?_)
    | (with_reducible refine wpAny_call_entry slot hTf entry ?_ hargs)
    | (with_reducible refine hget ?_)
    | (with_reducible refine ⟨_, rfl, ?_⟩)
    | (simp only [hn, hne, Bool.or_false, Bool.false_eq_true, if_false])
    | wp_step
    | dsimp only)
  all_goals exact hq
end
end Mine

namespace Mine
open PySem PySem.W PyProof.Rows
namespace AF
theorem entry_pop : entryFor table "list.pop" = some Builtin.«list.pop» := entryFor_of_tree (by kernel_rfl)
theorem entry_init : entryFor table "list.__init__" = some Builtin.«list.__init__» := entryFor_of_tree (by kernel_rfl)
theorem entry_len : entryFor table "list.__len__" = some Builtin.«list.__len__» := entryFor_of_tree (by kernel_rfl)
theorem entry_app : entryFor table "list.append" = some Builtin.«list.append» := entryFor_of_tree (by kernel_rfl)
theorem args_pop (a : Value) : argsOk "list.pop" ⟨[a], []⟩ := by unfold argsOk; kernel_rfl
end AF
noncomputable abbrev accO (sl : Array (Option Value)) (dx : Addr) (its : Array Value) (n : Nat) : Obj := ⟨.ref 158, some dx, .seq its n, sl⟩
section
variable {prog : Program} {w : World} {P : Params} {A : Around} {E : Value → Shared → Prop} {h : Heap} {g : Array GenState} {d : Drawn} {t : Nat} {os : OsState} {x dx : Addr} {od : Option Obj} {its : Array Value} {n : Nat} {sl : Array (Option Value)}
theorem acc_len_run {Q : PySem.Fin → Shared → Prop} (hx : h.get? x = some (accO sl dx its n)) (hq : Q (.done (.ret (.int its.size t))) ⟨h, g, d, t + 1, os⟩) :
   wpAny (model prog w) A (Builtin.«list.__len__» ⟨[.ref x], []⟩) Q E ⟨h, g, d, t, os⟩ := by
  unfold Builtin.«list.__len__»
  repeat wp_step
  exact hq
theorem acc_pop_run {y : Value} {Q : PySem.Fin → Shared → Prop} (hx : h.get? x = some (accO sl dx its n)) (hy : its[its.size - 1]? = some y) (hz : its.size ≤ 1000)
   (hq : ∀ h' n', Heap.SameBut x h h' → h'.get? x = some (accO sl dx its.pop n') → Q (.done (.ret y)) ⟨h', g, d, t, os⟩) :
   wpAny (model prog w) A (Builtin.«list.pop» ⟨[.ref x], []⟩) Q E ⟨h, g, d, t, os⟩ := by
  have hpos : 0 < its.size := by
    rcases Nat.eq_zero_or_pos its.size with h0 | h0
    · simp [h0] at hy
    · exact h0
  have hne : ¬ its.isEmpty = true := by
    intro he; have : its.size = 0 := by simpa using he
    lia
  have hk : seqIndex? (-1) its.size = some (its.size - 1) := by
    rw [seqIndex_neg (by lia) (by lia)]; congr 1; lia
  unfold Builtin.«list.pop»
  repeat (first | rw [if_neg hne] | wp_step)
  simp only [hk, hy, Option.bind_some, Option.map_some]
  have hz' : (its.eraseIdxIfInBounds (its.size - 1)).size ≤ sizeLine + 1 := by rw [Copied.erase_last_eq_pop, Array.size_pop, sizeLine_eq]; lia
  refine wpAny_bind (wpAny_updateSeq hx rfl ?_ (hz := by rw [sizeLine_eq]; lia) (_hz' := hz'))
  refine wpAny_pure (hq _ (if its.pop.size == its.size then n else n + 1) (Heap.SameBut.update ..) ?_)
  have e : Obj.mapSeq (fun xs => xs.eraseIdxIfInBounds (its.size - 1)) (accO sl dx its n) = accO sl dx its.pop (if its.pop.size == its.size then n else n + 1) := by
    simp only [Obj.mapSeq, Copied.erase_last_eq_pop]
  rw [Heap.get?_update_self _ hx (by rw [e]; rfl), e]
theorem acc_init_run {Q : PySem.Fin → Shared → Prop} (hx : h.get? x = some (accO sl dx #[] n)) (hq : ∀ h' n', Heap.SameBut x h h' → h'.get? x = some (accO sl dx #[] n') → Q (.done (.ret .none)) ⟨h', g, d, t, os⟩) :
   wpAny (model prog w) A (Builtin.«list.__init__» ⟨[.ref x], []⟩) Q E ⟨h, g, d, t, os⟩ := by
  unfold Builtin.«list.__init__»
  repeat wp_step
  refine hq _ n (Heap.SameBut.update ..) ?_
  have e : Obj.mapSeq (fun _ => #[]) (accO sl dx #[] n) = accO sl dx #[] n := by simp [Obj.mapSeq]
  rw [Heap.get?_update_self _ hx (by rw [e]; rfl), e]
theorem acc_append_run {v : Value} {Q : PySem.Fin → Shared → Prop} (hx : h.get? x = some (accO sl dx its n)) (hz : its.size ≤ 1000) (hq : ∀ h' n', Heap.SameBut x h h' → h'.get? x = some (accO sl dx (its.push v) n') → Q (.done (.ret .none)) ⟨h', g, d, t, os⟩) :
   wpAny (model prog w) A (Builtin.«list.append» ⟨[.ref x, v], []⟩) Q E ⟨h, g, d, t, os⟩ := by
  have e : Obj.mapSeq (fun xs => xs.push v) (accO sl dx its n) = accO sl dx (its.push v) (if (its.push v).size == its.size then n else n + 1) := by simp only [Obj.mapSeq]
  have p : (accO sl dx (its.push v) (if (its.push v).size == its.size then n else n + 1)).data.pastItsLine = none := by
    show (if (its.push v).size > sizeLine + 1 then some "sequence:memory" else none) = none
    rw [if_neg (by rw [Array.size_push, sizeLine_eq]; lia)]
  unfold Builtin.«list.append»
  repeat wp_step
  rw [e, p]
  refine wpAny_pure (wpAny_pure (hq _ (if (its.push v).size == its.size then n else n + 1) (Heap.SameBut.update ..) ?_))
  rw [Heap.get?_update_self _ hx (by rw [e]; rfl), e]
end
end Mine

namespace Mine
open PySem PySem.W PyProof.Rows

/-- what the heap bears of the program -/
structure PF (g : Gl) (h : Heap) : Prop where
  K : (KK g.w.params).In h
  gl : h.Ns mainGlobals g.mg
  bl : h.Ns builtinsNs g.mb
  bi : ∀ x : Str, x ≠ "__name__" → g.mb x = bootBuiltins x
  lim : h.NoLimit
  file : ((g.prog.main.file : Str) == ("/claim/cut.py" : Str)) = true
  top : (g.prog.main.scope.names.lookup ("super" : Str)).isSome = false
  sup : g.mg "super" = none
  emp : ∃ t, g.mg "EMPTYSTRING" = some (.str "" t)
theorem PF.keeps {g : Gl} {h h' : Heap} (x : PF g h) (k : ∀ b o, h.get? b = some o → h'.get? b = some o) : PF g h' :=
  ⟨x.K.keeps k, x.gl.keeps k, x.bl.keeps k, x.bi, x.lim.keeps k, x.file, x.top, x.sup, x.emp⟩

/-- a method that says super() -/
structure SupFn (f : Addr) (fd : FuncData) : Prop where
  at_ : ∀ P, ∃ oc od osl, (KK P).lookup f = some ⟨oc, od, .func fd, osl⟩
  self : ∃ ar : Arg, (fd.params.posonlyargs ++ fd.params.args).head? = some ar ∧ ar.arg = "self"
  code : ∃ cda, fd.code = .ref cda ∧ ∀ P, ∃ ccl cdd vs ccs tf, (KK P).lookup cda = some ⟨ccl, cdd, .fields vs, ccs⟩ ∧ vs[2]? = some (.str "/claim/cut.py" tf)
  cell : fd.closure.lookup ("__class__" : Str) = some 82
  globals : fd.globals = mainGlobals
  builtins : fd.builtins = builtinsNs
  kind : fd.scope.kind = .function
  ks : fd.scope.names.lookup ("super" : Str) = some .globalImplicit
  kc : fd.scope.names.lookup ("__class__" : Str) = some .free
  ka : fd.scope.names.lookup ("self" : Str) = some .local

theorem cell82 (P : Params) : (KK P).lookup 82 = some ⟨.type "cell", none, .cell (some (.ref 158)), #[]⟩ := rfl

section
variable {g : Gl} {A : Around} {E : Value → Shared → Prop} {h : Heap} {ge : Array GenState} {d : Drawn} {t : Nat} {os : OsState} {x : Addr} {ox : Obj} {od : Option Obj} {fd : FuncData} {f L : Addr} {m : Str → Option Value}
theorem acc_super_new {body : List Stmt} {p0 p1 : Pos} {attr : Str} {whole : Sem Value} {Q : Value → Shared → Prop} (pf : PF g h) (S : SupFn f fd) (ns : h.Ns L m) (hv : m "self" = some (.ref x)) (I : InstAt h x ox 158 od) (hat : (attr == ("__class__" : Str)) = false)
    (hq : ∀ h', h'.get? h.objs.size = some { cls := .type "super", dict := none, data := .fields #[.ref 158, .ref x, .ref 158], slots := #[] } → (∀ y o, h.get? y = some o → h'.get? y = some o) → Q (.ref h.objs.size) ⟨h', ge, d, t, os⟩) :
    PySem.wpAt (model g.prog g.w) A (.func body (callEnv fd L f)) (attributeBase (.Call (.Name "super" p0) [] [] p1) attr (callEnv fd L f) whole) Q E ⟨h, ge, d, t, os⟩ := by
  refine xEEE (S.at_ g.w.params) fun oc od' osl hf => ?_
  refine xEA S.self fun ar har hself => ?_
  refine xEA S.code fun cda hcda hcode => ?_
  refine xEEEEE (hcode g.w.params) fun ccl cdd vs ccs tf qr0 => xA qr0 fun hcode hvs => ?_
  have X := pf.K
  obtain ⟨cd, hcd, hmro, -⟩ := acc_cls g.w.params
  obtain ⟨oD, hD1, hD2⟩ : ∃ oD, h.get? 158 = some oD ∧ oD.data = .cls cd := by
    unfold clsIn at hcd
    split at hcd
    · rename_i c d cd' sl ho
      (injection hcd with hcd; subst hcd)
      exact ⟨_, X _ _ ho, rfl⟩
    · injection hcd
  refine ks_wpAt_super_base (env := callEnv fd L f) (f := f) (cc := cda) S.ks S.kc hat rfl (X _ _ hf) rfl har hcda (X _ _ hcode) rfl hvs pf.file pf.top ?_
  refine ks_loadName_global S.kind S.ks (Calls.loadGlobal_builtin (env := callEnv fd L f) (by rw [show (callEnv fd L f).globals = mainGlobals from S.globals]; exact pf.gl) pf.sup (by rw [show (callEnv fd L f).builtins = builtinsNs from S.builtins]; exact pf.bl) ((pf.bi _ (by decide +kernel)).trans (by decide +kernel)) ⟨rfl, ?_⟩)
  refine wpAny_loadName_free S.kind S.kc S.cell ⟨_, X _ _ (cell82 _), rfl⟩ ?_
  rw [hself]
  refine wpAny_loadName_local S.kind S.ka ns hv ?_
  refine ks_wpAny_isType_cls hD1 hD2 ⟨rfl, ?_⟩
  refine ks_wpAny_call_super hD1 hD2 I.at_ I.cls (fun c e => ?_) (looks_mroIn X (acc_sub _)) (fun h' e k => hq h' e k)
  have := I.no
  unfold notCls at this
  rw [e] at this
  exact Bool.noConfusion this
end
theorem sup95 : ∃ fd, SupFn 95 fd := ⟨_, ⟨fun P => ⟨_, _, _, rfl⟩, ⟨_, rfl, rfl⟩, ⟨_, rfl, fun P => ⟨_, _, _, _, _, rfl, rfl⟩⟩, rfl, rfl, rfl, rfl, rfl, rfl, rfl⟩⟩
end Mine

namespace Mine
open PySem PySem.W PyProof.Rows PySem.SeqAt
section
variable {prog : Program} {w : World} {P : Params} {A : Around} {E : Value → Shared → Prop} {h : Heap} {g : Array GenState} {d : Drawn} {t : Nat} {os : OsState} {x : Addr} {ox : Obj} {od : Option Obj}
theorem acc_getMethod_super {so : Addr} {id T BT gid : String} {name : Str} {pl : Sem Bool} {gB : Builtin} {Q : Value × List Value → Shared → Prop}
    (hso : h.get? so = some { cls := .type "super", dict := none, data := .fields #[.ref 158, .ref x, .ref 158], slots := #[] }) (X : (KK P).In h) (I : InstAt h x ox 158 od)
    (hf : alongIn (KK P) name [.type "list", .type "object"] = some (some (.builtin id))) (hT : typeOf (.builtin id) = pure (.type T)) (slot : Slot T "__get__" gid) (entry : entryFor table gid = some gB) (hargs : argsOk gid ⟨[.builtin id, .ref x, .ref 158], []⟩)
    (hxC : x ≠ 158) (hn : (name == ("__class__" : Str)) = false)
    (hget : ∀ {t' : Nat} {A' : Around} {E' : Value → Shared → Prop} {Q' : PySem.Fin → Shared → Prop}, Q' (.done (.ret (.ref h.objs.size))) ⟨h.push { cls := .type BT, data := .fields #[.builtin id, .ref x] }, g, d, t', os⟩ → wpAny (model prog w) A' (gB ⟨[.builtin id, .ref x, .ref 158], []⟩) Q' E' ⟨h, g, d, t', os⟩)
    (hq : Q (.ref h.objs.size, []) ⟨h.push { cls := .type BT, data := .fields #[.builtin id, .ref x] }, g, d, t + 1, os⟩) :
    wpAny (model prog w) A (getMethod (.ref so) name pl) Q E ⟨h, g, d, t, os⟩ := by
  have hlk := F.ks_slot_super_ga.lookup
  have hcan := F.ks_canon_super_ga
  have hT' : ∀ t', (⟨h, g, d, t', os⟩ : Shared).TypeIs (.ref so) "super" := fun _ => ⟨_, hso, rfl⟩
  unfold getMethod
  refine wpAny_bind (wpAny_specialOf (hT' _) hlk ?_)
  show wpAny _ _ (if (Manifest.canonical "super.__getattribute__" != "object.__getattribute__") = true then _ else _) _ _ _
  rw [if_pos hcan]
  unfold getAttr getAttrBy
  refine wpAny_bind (wpAny_bind (wpAny_mkText (wpAny_holding (wpAny_bind (wpAny_typeOf (hT' _) (wpAny_bind (wpAny_of_eq hlk ?_)))))))
  show wpAny _ _ (getAttrByItsOwn (.ref so) (.str name t) (.type "super") (.builtin "super.__getattribute__") true false) _ _ _
  unfold getAttrByItsOwn hookBefore callGetattribute boundAndCalled
  refine wpAny_bind (wpAny_of_eq (show (if onTheHeap (.type "super") then typeLookup (.type "super") "__getattr__" else pure none) = pure none from rfl) ?_)
  refine wpAny_bind (wpAny_attempt (wpAny_holding ?_))
  show wpAny _ _ (bindSpecial (.builtin "super.__getattribute__") (.ref so) >>= _) _ _ _
  refine wpAny_bind (wpAny_of_eq (F.ks_slot_super_ga.bind _) ?_)
  refine wpAny_mono (Q := fun v s' => v = .ref h.objs.size ∧ s' = ⟨h.push { cls := .type BT, data := .fields #[.builtin id, .ref x] }, g, d, t + 1, os⟩) (E := fun _ _ => False)
    (wpAny_call_entry F.ks_slot_super_ga (hT' _) F.ks_entry_super_ga (acc_super_ga (BT := BT) hso X I hf hT slot entry hargs hxC hn (fun q => hget q) ⟨_, rfl, rfl, rfl⟩) (F.ks_gaArgs_super _ _)) (fun v s' hv => ?_) fun _ _ z => z.elim
  (refine xA hv ?_; clear hv; intro qq0 qq1; subst qq0; subst qq1)
  exact wpAny_pure (wpAny_pure hq)

/-- a bound method of the base, called -/
theorem acc_bound {b : Addr} {BT id : String} {B : Builtin} {pos : Pos} {env : Env} {Q : Value → Shared → Prop} (hb : h.get? b = some { cls := .type BT, data := .fields #[.builtin id, .ref x] }) (hBT : BT = "builtin_function_or_method" ∨ BT = "method-wrapper")
    (hchk : ∀ {A' : Around} {E' : Value → Shared → Prop} {Q' : Unit → Shared → Prop}, Q' () ⟨h, g, d, t, os⟩ → wpAny (model prog w) A' (checkBoundCall id ⟨[.ref x], []⟩) Q' E' ⟨h, g, d, t, os⟩)
    (entry : entryFor table id = some B) (hqu : (Code.builtin id ⟨[.ref x], []⟩).quiet = true)
    (hrun : ∀ {A' : Around} {E' : Value → Shared → Prop} {Q' : PySem.Fin → Shared → Prop}, (∀ v s', Q v s' → Q' (.done (.ret v)) s') → wpAny (model prog w) A' (B ⟨[.ref x], []⟩) Q' E' ⟨h, g, d, t, os⟩) :
    wpAny (model prog w) A (callWith pos (.ref b) [] (backTo pos (starEach [] env)) []) Q E ⟨h, g, d, t, os⟩ := by
  show wpAny _ _ (callWith pos (.ref b) [] [] []) _ _ _
  unfold callWith
  refine wpAny_bind (wpAny_holding (evalArgs_nil3 (wpAny_bind (wpAny_standAt ?_))))
  simp only [List.any_nil, Bool.or_false]
  have hk : ∀ {A' : Around} {E' : Value → Shared → Prop} {Q' : Keeper → Shared → Prop}, Q' .machine ⟨h, g, d, t, os⟩ → wpAny (model prog w) A' (keeperOf (.ref b)) Q' E' ⟨h, g, d, t, os⟩ := by
    intro A' E' Q' q
    unfold keeperOf
    refine wpAny_bind (wpAny_load hb ?_)
    rcases hBT with rfl | rfl <;> exact wpAny_pure q
  refine wpAny_bind (hk ?_)
  refine wpAny_bind (wpAny_call (codeAny_of_tree ?_))
  show wpAny _ _ (callAny (.ref b) ⟨[], []⟩) _ _ _
  unfold callAny
  refine wpAny_bind (wpAny_load hb ?_)
  have hc : (Value.type BT == Value.type "method" || Value.type BT == Value.type "builtin_function_or_method" || Value.type BT == Value.type "method-wrapper") = true := by
    rcases hBT with rfl | rfl <;> decide
  have hc2 : (Value.type BT != Value.type "method") = true := by
    rcases hBT with rfl | rfl <;> decide
  dsimp only
  rw [if_pos hc]
  show wpAny _ _ (if (Value.type BT != Value.type "method") = true then _ else _) _ _ _
  rw [if_pos hc2]
  refine wpAny_bind (show wpAny _ _ (checkBoundCall id ⟨[.ref x], []⟩) _ _ _ from hchk ?_)
  refine wpAny_pure (a := Fin.again (.builtin id ⟨[.ref x], []⟩)) (And.intro hqu (codeAny_builtin entry ?_))
  refine hrun fun v s' q => ?_
  exact wpAny_bind (wpAny_holding (wpAny_point (wpAny_pure q)))
end
end Mine

namespace Mine
open PySem PySem.W PyProof.Rows PySem.SeqAt
section
variable {prog : Program} {w : World} {P : Params} {A : Around} {E : Value → Shared → Prop} {h : Heap} {g : Array GenState} {d : Drawn} {t : Nat} {os : OsState} {x : Addr} {ox : Obj} {od : Option Obj}
theorem chk_len (a : Value) : checkBoundCall "list.__len__" ⟨[a], []⟩ = pure () := by kernel_rfl
theorem chk_init (a : Value) : checkBoundCall "list.__init__" ⟨[a], []⟩ = pure () := by kernel_rfl
theorem acc_nomod : mroIn (KK P) 158 (.type "module") = some false := by kernel_rfl
theorem pop_sig : ∃ sig, Manifest.signature? "list.pop" = some sig ∧ builtinKind "list.pop" = some .method ∧ Manifest.varargsMethods.contains "list.pop" = false ∧ ∀ (a : Value), Bind.checkArgs "list.pop" { sig with full := s!"{("_Accumulator" : Str).toString}.{Bind.lastOf "list.pop"}" } ⟨[a], []⟩ = pure () := ⟨_, rfl, by decide +kernel, by decide +kernel, fun a => by kernel_rfl⟩
theorem acc_qn : (clsIn (KK P) 158).map (·.qualname) = some "_Accumulator" := by kernel_rfl
theorem type158 : typeIn (KK P) (.ref 158) = some (.type "type") := by kernel_rfl
theorem chk_pop {Q : Unit → Shared → Prop} (X : (KK P).In h) (I : InstAt h x ox 158 od) (q : Q () ⟨h, g, d, t, os⟩) : wpAny (model prog w) A (checkBoundCall "list.pop" ⟨[.ref x], []⟩) Q E ⟨h, g, d, t, os⟩ := by
  refine xEAAA pop_sig fun sig h1 h2 h3 h4 => ?_
  obtain ⟨cd, hcd, hmro, -⟩ := acc_cls P
  have hqn : cd.qualname = "_Accumulator" := by
    have e := acc_qn (P := P)
    rw [hcd] at e
    exact Option.some.inj e
  have L1 : Looks (model prog w) h (isInstance (.ref x) (.type "module")) false := I.type.andThen (looks_mroIn X (acc_nomod (P := P)))
  have L2 := I.type (M := model prog w)
  have L3 := looks_clsIn (M := model prog w) X hcd
  have L4 := looks_typeIn (M := model prog w) X (type158 (P := P))
  unfold checkBoundCall
  rw [h1]
  dsimp only
  rw [h2]
  dsimp only
  rw [if_neg (by decide)]
  refine wpAny_bind (L1.at ?_)
  rw [h3, if_neg (by decide)]
  refine wpAny_bind (ks_wpAny_isType_inst I.at_ (fun c e => ?_) ?_)
  · have := I.no
    unfold notCls at this
    rw [e] at this
    exact Bool.noConfusion this
  rw [if_neg (by decide)]
  refine wpAny_bind (L2.at ?_)
  dsimp only
  refine wpAny_bind (L3.at ?_)
  refine wpAny_bind (L4.at ?_)
  rw [if_pos (by decide)]
  rw [hqn]
  exact wpAny_of_eq (h4 _) q
end
end Mine

namespace Mine
open PySem PySem.W PyProof.Rows PySem.SeqAt

/-- the pile in the heap: its items and its own dict -/
structure PileAt (h : Heap) (x dx : Addr) (its : Array Value) : Prop where
  obj : ∃ n sl, h.get? x = some (accO sl dx its n)
  dict : ∃ m, h.Ns dx m ∧ ∀ y, y ≠ sizeName → m y = none
theorem PileAt.inst {h : Heap} {x dx : Addr} {its : Array Value} (p : PileAt h x dx its) : ∃ n sl od, InstAt h x (accO sl dx its n) 158 (some od) := by
  refine xEE p.obj fun n sl e => ?_
  (refine xEA p.dict fun m qq0 _ => ?_; refine xEEEA qq0 ?_; clear qq0; intro o _ _ ho _)
  exact ⟨n, sl, o, e, rfl, rfl, ho⟩
theorem PileAt.keeps {h h' : Heap} {x dx : Addr} {its : Array Value} (p : PileAt h x dx its) (k : ∀ b o, h.get? b = some o → h'.get? b = some o) : PileAt h' x dx its := ⟨xEE p.obj fun n sl e => ⟨n, sl, k _ _ e⟩, xEA p.dict fun m a b => ⟨m, a.keeps k, b⟩⟩
theorem PileAt.ne {h : Heap} {x dx : Addr} {its : Array Value} (p : PileAt h x dx its) : dx ≠ x := by
  rintro rfl
  refine xEE p.obj fun n sl e => ?_
  (refine xEA p.dict fun m qq1 _ => ?_; refine xEEEAA qq1 ?_; clear qq1; intro o _ _ ho hd _)
  rw [e] at ho; (injection ho with ho; subst ho)
  injection hd
theorem PileAt.ne158 {P : Params} {h : Heap} {x dx : Addr} {its : Array Value} (p : PileAt h x dx its) (X : (KK P).In h) : x ≠ 158 := by
  obtain ⟨cd, hcd, -⟩ := acc_cls P
  refine xEEE p.inst fun n sl od I => ?_
  exact ks_ne X I hcd
theorem PileAt.same {h h' : Heap} {x dx : Addr} {its its' : Array Value} {n : Nat} {sl : Array (Option Value)} (p : PileAt h x dx its) (hs : Heap.SameBut x h h') (e : h'.get? x = some (accO sl dx its' n)) : PileAt h' x dx its' :=
  ⟨⟨_, _, e⟩, xEA p.dict fun m a b => ⟨m, a.sameBut hs p.ne, b⟩⟩
theorem PileAt.getMethod {P : Params} {M : Model} {A : Around} {E : Value → Shared → Prop} {s : Shared} {x dx : Addr} {its : Array Value} {name : Str} {pl : Sem Bool} {Q : Value × List Value → Shared → Prop} {f T : Value} (p : PileAt s.heap x dx its) (X : (KK P).In s.heap) (hf : findIn (KK P) (.ref 158) name = some (some f)) (ht : typeIn (KK P) f = some T)
    (hT : (T != .type "function" && T != .type "method_descriptor" && T != .type "wrapper_descriptor") = false) (hn : name ≠ sizeName) (h : Q (f, [.ref x]) s) : wpAny M A (PySem.getMethod (.ref x) name pl) Q E s := by
  refine xEEE p.inst fun n sl od I => ?_
  refine xEA p.dict fun m a b => ?_
  exact acc_getMethod X I hf ht hT rfl a (b _ hn) h

/-- all but one object keeps -/
noncomputable def _root_.PySem.Heap.ButAt (x : Addr) (h h' : Heap) : Prop := ∀ y o, y ≠ x → h.get? y = some o → h'.get? y = some o
section
variable {α : Type} {M : Model} {A : Around} {c : Code} {E : Value → Shared → Prop} {s : Shared} {env : Env}
theorem at_Call_method {o : Expr} {name : Str} {apos pos : Pos} {args : List Expr} {Q : Value → Shared → Prop} (hl : (apos.endLine == pos.line) = true) (hst : args.any isStar = false) (hn : args.length < 30)
    (h : PySem.wpAt M A c (attributeBase o name env (eval o env)) (fun ov s₁ => wpAny M A (getMethod ov name (do return (← importBound o env).getD true)) (fun fx s₂ => wpAny M A (callWith pos fx.1 fx.2 (backTo pos (starEach args env)) []) Q E s₂) E s₁) E s) :
    PySem.wpAt M A c (eval (.Call (.Attribute o name apos) args [] pos) env) Q E s := by
  rw [arm_eval_Call]
  refine PySem.wpAt_bind (ks_wpAt_mono h (fun ov s₁ h₁ => PySem.wpAt_of_wpAny (wpAny_bind (wpAny_standAt ?_))) fun _ _ e => e)
  unfold methodCall
  rw [few_of hst hn]
  refine wpAny_bind (wpAny_holding (wpAny_mono h₁ (fun fx s₂ h₂ => ?_) fun _ _ e => e))
  have hpos : methodCallPos true o env apos pos = pure pos := by unfold methodCallPos; simp [hl]
  exact wpAny_bind (wpAny_of_eq hpos h₂)
end
section
variable {g : Gl} {A : Around} {E : Value → Shared → Prop} {h : Heap} {ge : Array GenState} {d : Drawn} {t : Nat} {os : OsState} {x dx : Addr} {its : Array Value} {fd : FuncData} {f L : Addr} {m : Str → Option Value}

theorem super_len {body : List Stmt} {p0 p1 apos pos : Pos} {Q : Value → Shared → Prop} (hl : (apos.endLine == pos.line) = true) (pf : PF g h) (S : SupFn f fd) (ns : h.Ns L m) (hv : m "self" = some (.ref x)) (P : PileAt h x dx its)
    (hq : ∀ h' t', (∀ y o, h.get? y = some o → h'.get? y = some o) → t ≤ t' → ∀ u, Q (.int its.size u) ⟨h', ge, d, t', os⟩) :
    PySem.wpAt (model g.prog g.w) A (.func body (callEnv fd L f)) (eval (.Call (.Attribute (.Call (.Name "super" p0) [] [] p1) "__len__" apos) [] [] pos) (callEnv fd L f)) Q E ⟨h, ge, d, t, os⟩ := by
  refine xEEE P.inst fun n sl od I => ?_
  refine at_Call_method hl rfl (by decide) (acc_super_new pf S ns hv I (by decide) fun h1 e1 k1 => ?_)
  have P1 := P.keeps k1
  refine xEEE P1.inst fun n1 sl1 od1 I1 => ?_
  have X1 := (pf.keeps k1).K
  refine acc_getMethod_super (BT := "method-wrapper") e1 X1 I1 (acc_super_len _) AF.type_len AF.slot_wd_get AF.entry_wd_get (AF.args_wd_get _ _ _) (P1.ne158 X1) (by decide) (fun q => wd_get X1 I1 (by decide +kernel) q) ?_
  have k2 : ∀ y o, h1.get? y = some o → (h1.push { cls := .type "method-wrapper", data := .fields #[.builtin "list.__len__", .ref x] }).get? y = some o := fun y o e => Heap.get?_push_of_some _ e
  have P2 := P1.keeps k2
  refine xEE P2.obj fun n2 sl2 e2 => ?_
  refine xEEE P2.inst fun n3 sl3 od3 I3 => ?_
  refine acc_bound (BT := "method-wrapper") (Heap.get?_push_at rfl rfl) (.inr rfl) (fun q => wpAny_of_eq (chk_len _) q) AF.entry_len (Code.quiet_builtin _ (by decide +kernel)) fun hv => ?_
  exact acc_len_run e2 (hv _ _ (hq _ _ (fun y o e => k2 y o (k1 y o e)) (by lia) _))
theorem super_pop {body : List Stmt} {p0 p1 apos pos : Pos} {Q : Value → Shared → Prop} (hl : (apos.endLine == pos.line) = true) (pf : PF g h) (S : SupFn f fd) (ns : h.Ns L m) (hv : m "self" = some (.ref x)) (P : PileAt h x dx its)
    {v : Value} (hy : its[its.size - 1]? = some v) (hz : its.size ≤ 1000)
    (hq : ∀ h' t', Heap.ButAt x h h' → t ≤ t' → PileAt h' x dx its.pop → Q v ⟨h', ge, d, t', os⟩) :
    PySem.wpAt (model g.prog g.w) A (.func body (callEnv fd L f)) (eval (.Call (.Attribute (.Call (.Name "super" p0) [] [] p1) "pop" apos) [] [] pos) (callEnv fd L f)) Q E ⟨h, ge, d, t, os⟩ := by
  refine xEEE P.inst fun n sl od I => ?_
  refine at_Call_method hl rfl (by decide) (acc_super_new pf S ns hv I (by decide) fun h1 e1 k1 => ?_)
  have P1 := P.keeps k1
  refine xEEE P1.inst fun n1 sl1 od1 I1 => ?_
  have X1 := (pf.keeps k1).K
  refine acc_getMethod_super (BT := "builtin_function_or_method") e1 X1 I1 (acc_super_pop _) AF.type_pop AF.slot_md_get AF.entry_md_get (AF.args_md_get _ _ _) (P1.ne158 X1) (by decide) (fun q => md_get X1 I1 (by decide +kernel) (by decide +kernel) q) ?_
  have k2 : ∀ y o, h1.get? y = some o → (h1.push { cls := .type "builtin_function_or_method", data := .fields #[.builtin "list.pop", .ref x] }).get? y = some o := fun y o e => Heap.get?_push_of_some _ e
  have P2 := P1.keeps k2
  refine xEE P2.obj fun n2 sl2 e2 => ?_
  refine xEEE P2.inst fun n3 sl3 od3 I3 => ?_
  refine acc_bound (BT := "builtin_function_or_method") (Heap.get?_push_at rfl rfl) (.inl rfl) (fun q => chk_pop (pf.keeps (fun y o e => k2 y o (k1 y o e))).K I3 q) AF.entry_pop (Code.quiet_builtin _ (by decide +kernel)) fun hv => ?_
  refine acc_pop_run e2 hy hz fun h3 n3 hs3 e3 => hv _ _ (hq _ _ (fun y o hy' e => (hs3.2 y hy').trans (k2 y o (k1 y o e))) (by lia) (P2.same hs3 e3))

theorem super_init {body : List Stmt} {p0 p1 apos pos : Pos} {Q : Value → Shared → Prop} (hl : (apos.endLine == pos.line) = true) (pf : PF g h) (S : SupFn f fd) (ns : h.Ns L m) (hv : m "self" = some (.ref x)) (P : PileAt h x dx #[])
    (hq : ∀ h' t', Heap.ButAt x h h' → t ≤ t' → PileAt h' x dx #[] → Q .none ⟨h', ge, d, t', os⟩) :
    PySem.wpAt (model g.prog g.w) A (.func body (callEnv fd L f)) (eval (.Call (.Attribute (.Call (.Name "super" p0) [] [] p1) "__init__" apos) [] [] pos) (callEnv fd L f)) Q E ⟨h, ge, d, t, os⟩ := by
  refine xEEE P.inst fun n sl od I => ?_
  refine at_Call_method hl rfl (by decide) (acc_super_new pf S ns hv I (by decide) fun h1 e1 k1 => ?_)
  have P1 := P.keeps k1
  refine xEEE P1.inst fun n1 sl1 od1 I1 => ?_
  have X1 := (pf.keeps k1).K
  refine acc_getMethod_super (BT := "method-wrapper") e1 X1 I1 (acc_super_init _) AF.type_init AF.slot_wd_get AF.entry_wd_get (AF.args_wd_get _ _ _) (P1.ne158 X1) (by decide) (fun q => wd_get X1 I1 (by decide +kernel) q) ?_
  have k2 : ∀ y o, h1.get? y = some o → (h1.push { cls := .type "method-wrapper", data := .fields #[.builtin "list.__init__", .ref x] }).get? y = some o := fun y o e => Heap.get?_push_of_some _ e
  have P2 := P1.keeps k2
  refine xEE P2.obj fun n2 sl2 e2 => ?_
  refine xEEE P2.inst fun n3 sl3 od3 I3 => ?_
  refine acc_bound (BT := "method-wrapper") (Heap.get?_push_at rfl rfl) (.inr rfl) (fun q => wpAny_of_eq (chk_init _) q) AF.entry_init (Code.quiet_builtin _ (by decide +kernel)) fun hv => ?_
  refine acc_init_run e2 fun h3 n3 hs3 e3 => hv _ _ (hq _ _ (fun y o hy' e => (hs3.2 y hy').trans (k2 y o (k1 y o e))) (by lia) (P2.same hs3 e3))
end
end Mine

namespace Mine
open PySem PySem.W PyProof.Rows PySem.SeqAt

structure Fn0 (fd : FuncData) : Prop where
  code : ∀ P, codeIn (KK P) fd.code fd.qualname = true
  cell : ∀ y ∈ fd.scope.names, y.2 ≠ .cell
  co : fd.scope.isCoroutine = false
  gen : fd.scope.isGenerator = false
  kind : fd.scope.kind = .function

theorem fn155 : ∃ fd p0 p1 p2 p3 p4, SupFn 155 fd ∧ Fn0 fd ∧ fd.body = .stmts [.Return (some (.Call (.Attribute (.Call (.Name "super" p0) [] [] p1) "__len__" p2) [] [] p3)) p4] ∧ (p2.endLine == p3.line) = true ∧ (∀ v, bindArgs fd ⟨[v], []⟩ = pure [(("self" : Str), v)]) :=
  ⟨_, _, _, _, _, _, ⟨fun P => ⟨_, _, _, rfl⟩, ⟨_, rfl, rfl⟩, ⟨_, rfl, fun P => ⟨_, _, _, _, _, rfl, rfl⟩⟩, rfl, rfl, rfl, rfl, rfl, rfl, rfl⟩, ⟨fun P => by kernel_rfl, by decide, rfl, rfl, rfl⟩, rfl, rfl, fun v => by kernel_rfl⟩

section
variable {g : Gl} {A : Around} {E : Value → Shared → Prop} {s : Shared} {x dx : Addr} {its : Array Value} {Q : Value → Shared → Prop}
/-- what a call has left as it was -/
structure Kp (s s' : Shared) : Prop where
  kp : ∀ b o, s.heap.get? b = some o → s'.heap.get? b = some o
  gens : s'.gens = s.gens
  os : s'.os = s.os
  tk : s.toks ≤ s'.toks
theorem call_pc (pf : PF g s.heap) (hd : A.depth < 1000) (P : PileAt s.heap x dx its) (hq : ∀ s', Kp s s' → ∀ u, Q (.int its.size u) s') : wpAny (model g.prog g.w) A (call (.ref 155) [.ref x]) Q E s := by
  refine xEEEEEE fn155 fun fd p0 p1 p2 p3 p4 qr0 => xAAAA qr0 fun S F0 hb hl hbind => ?_
  refine xEEE (S.at_ g.w.params) fun oc od' osl hf => ?_
  have X := pf.K
  refine wpAny_call (ks_codeAny_call_defAt (fd := fd) hd (X _ _ hf) rfl pf.lim (codeRec_of X (F0.code _)) hb (.of_eq (hbind _)) F0.cell (fun y hy => ?_) (fun h₀ ns k => ?_) F0.co F0.gen F0.kind)
  · obtain rfl := List.mem_singleton.mp hy; exact S.ka
  · refine ks_wpAt_execs_cons (ks_wpAt_Return_some ?_)
    refine super_len hl (pf.keeps k) S ns rfl (P.keeps k) fun h' t' k' ht u => ?_
    exact hq ⟨h', s.gens, s.drawn, t', s.os⟩ ⟨fun b o e => k' b o (k b o e), rfl, rfl, by show s.toks ≤ t'; simp only [List.length_singleton] at ht; lia⟩ u
end
end Mine

namespace Mine
open PySem PySem.W PyProof.Rows PySem.SeqAt

theorem fn118 : ∃ fd q0 q1 q2 q3 q4 q5 k0 k1 k2 k3 q6 q7 q8 p0 p1 p2 p3 p4 q9, SupFn 118 fd ∧ Fn0 fd ∧ fd.body = .stmts [.If (.Compare (.Call (.Attribute (.Name "self" q0) "part_count" q1) [] [] q2) [.Eq] [.Constant (.int 0) k0 q3] q4) [.Return (some (.Tuple [.Constant (.str "") k1 q5, .Constant (.str "") k2 q6] k3 q7)) q8] [] q9,
    .Return (some (.Call (.Attribute (.Call (.Name "super" p0) [] [] p1) "pop" p2) [] [] p3)) p4] ∧ (q1.endLine == q2.line) = true ∧ (p2.endLine == p3.line) = true ∧ (∀ v, bindArgs fd ⟨[v], []⟩ = pure [(("self" : Str), v)]) :=
  ⟨_, _, _, _, _, _, _, _, _, _, _, _, _, _, _, _, _, _, _, _, ⟨fun P => ⟨_, _, _, rfl⟩, ⟨_, rfl, rfl⟩, ⟨_, rfl, fun P => ⟨_, _, _, _, _, rfl, rfl⟩⟩, rfl, rfl, rfl, rfl, rfl, rfl, rfl⟩, ⟨fun P => by kernel_rfl, by decide, rfl, rfl, rfl⟩, rfl, rfl, rfl, fun v => by kernel_rfl⟩

section
variable {g : Gl} {A : Around} {E : Value → Shared → Prop} {s : Shared} {x dx : Addr} {its : Array Value} {Q : Value → Shared → Prop}
theorem Kp.trans {s s' s'' : Shared} (a : Kp s s') (b : Kp s' s'') : Kp s s'' := ⟨fun y o e => b.kp y o (a.kp y o e), b.gens.trans a.gens, b.os.trans a.os, Nat.le_trans a.tk b.tk⟩
/-- as it was, but for one object -/
structure KpB (x : Addr) (s s' : Shared) : Prop where
  kp : Heap.ButAt x s.heap s'.heap
  gens : s'.gens = s.gens
  os : s'.os = s.os
  tk : s.toks ≤ s'.toks
theorem Kp.but {s s' s'' : Shared} (a : Kp s s') (b : KpB x s' s'') : KpB x s s'' := ⟨fun y o h e => b.kp y o h (a.kp y o e), b.gens.trans a.gens, b.os.trans a.os, Nat.le_trans a.tk b.tk⟩
/-- a method of the text on the pile, from a frame that bears it -/
theorem at_meth {env : Env} {f : Addr} {of : Obj} {fd : FuncData} {n name : Str} {p1 p2 p3 : Pos} {m : Str → Option Value} (hl : (p2.endLine == p3.line) = true) (hk : env.scope.kind = .function) (hkn : env.kindOf n = some .local) (ns : s.heap.Ns env.locals m) (hv : m n = some (.ref x)) (hd : (n == ("__debug__" : Str)) = false)
    (P : PileAt s.heap x dx its) (pf : PF g s.heap) (hf : findIn (KK g.w.params) (.ref 158) name = some (some (.ref f))) (ht : typeIn (KK g.w.params) (.ref f) = some (.type "function")) (hn : name ≠ sizeName) (hof : s.heap.get? f = some of) (hfd : of.data = .func fd)
    (h : wpAny (model g.prog g.w) A (call (.ref f) [.ref x]) Q E s) : wpAny (model g.prog g.w) A (eval (.Call (.Attribute (.Name n p1) name p2) [] [] p3) env) Q E s := by
  refine Call_method rfl hl rfl (by decide) ?_
  refine wpAny_Name (wpAny_loadName_local hk hkn ns hv ?_) hd
  refine P.getMethod pf.K hf ht (by decide) hn ?_
  show wpAny _ A (callWith p3 (.ref f) [.ref x] [] []) _ _ _
  exact Calls.callWith_function (o := of) (evalArgs_nil3 ⟨⟨hof, hfd⟩, h⟩)

theorem call_pop (pf : PF g s.heap) (hd : A.depth < 900) (P : PileAt s.heap x dx its) (hz : its.size ≤ 1000)
    (h0 : its.size = 0 → ∀ s' a t1 t2, Kp s s' → s.heap.get? a = none → s'.heap.get? a = some { cls := .type "tuple", data := .seq #[.str "" t1, .str "" t2] } → Q (.ref a) s')
    (h1 : ∀ v, its[its.size - 1]? = some v → ∀ s', KpB x s s' → PileAt s'.heap x dx its.pop → Q v s') : wpAny (model g.prog g.w) A (call (.ref 118) [.ref x]) Q E s := by
  refine xEEEEEEEEEEEEEEEEEEEE fn118 fun fd q0 q1 q2 q3 q4 q5 k0 k1 k2 k3 q6 q7 q8 p0 p1 p2 p3 p4 q9 qr0 => xAAAAA qr0 fun S F0 hb hl hl' hbind => ?_
  refine xEEE (S.at_ g.w.params) fun oc od' osl hf => ?_
  obtain ⟨fd2, -, -, -, -, -, S2, -⟩ := fn155
  refine xEEE (S2.at_ g.w.params) fun oc2 od2 osl2 hf2 => ?_
  have X := pf.K
  refine wpAny_call (ks_codeAny_call_defAt (fd := fd) (by show A.depth < 1000; lia) (X _ _ hf) rfl pf.lim (codeRec_of X (F0.code _)) hb (.of_eq (hbind _)) F0.cell (fun y hy => ?_) (fun h₀ ns k => ?_) F0.co F0.gen F0.kind)
  · obtain rfl := List.mem_singleton.mp hy; exact S.ka
  · have pf1 := pf.keeps k
    have P1 := P.keeps k
    refine ks_wpAt_execs_cons (ks_wpAt_If (PySem.wpAt_of_wpAny (wpAny_isTrue_Compare1 ?_ rfl)))
    refine at_meth (g := g) hl S.kind S.ka ns rfl (by decide) P1 pf1 (acc_pc _) (acc_fn _ _ (by decide)) (by decide) (pf1.K _ _ hf2) rfl ?_
    refine call_pc pf1 (by show A.depth + 1 < 1000; lia) P1 fun s1 kp u => ?_
    refine wpAny_Constant_int ?_
    refine wpAny_mono (PyProof.Rows.eq_int (Q := fun v s' => v = .bool ((its.size : Int) == 0) ∧ s' = { s1 with toks := s1.toks + 1 }) ⟨rfl, rfl⟩) (fun v s2 hv => ?_) fun _ _ z => z
    (refine xA hv ?_; clear hv; intro qq0 qq1; subst qq0; subst qq1)
    refine wpAny_truthy_bool ?_
    have kk : ∀ b o, s.heap.get? b = some o → s1.heap.get? b = some o := fun b o e => kp.kp b o (k b o e)
    cases hz0 : ((its.size : Int) == 0) with
    | true =>
      rw [if_pos rfl]
      have hz1 : its.size = 0 := by have := beq_iff_eq.mp hz0; lia
      refine ks_wpAt_execs_cons (ks_wpAt_Return_some (PySem.wpAt_of_wpAny (wpAny_Tuple ?_)))
      refine wpAny_items_cons (Calls.Constant_str (wpAny_items_cons (Calls.Constant_str (wpAny_items_nil ⟨by show 2 ≤ sizeLine; decide, ?_⟩))))
      refine h0 hz1 _ _ _ _ ⟨fun b o e => Heap.get?_push_of_some _ (kk b o e), kp.gens, kp.os, ?_⟩ ?_ (Heap.get?_push_at rfl rfl)
      · have := kp.tk
        simp only [List.length_singleton] at this
        show s.toks ≤ s1.toks + 1 + 1 + 1
        lia
      · cases q : s.heap.get? s1.heap.objs.size with
        | none => rfl
        | some o => exact absurd (Heap.lt_size (kk _ _ q)) (Nat.lt_irrefl _)
    | false =>
      rw [if_neg (by decide)]
      have hz1 : its.size ≠ 0 := by intro e; rw [e] at hz0; cases hz0
      obtain ⟨v, hv⟩ : ∃ v, its[its.size - 1]? = some v := ⟨_, Array.getElem?_eq_getElem (by lia)⟩
      refine PySem.wpAt_of_wpAny (wpAny_execs_nil ?_)
      refine ks_wpAt_execs_cons (ks_wpAt_Return_some ?_)
      have pf2 : PF g s1.heap := pf.keeps kk
      refine super_pop hl' pf2 S (ns.keeps kp.kp) rfl (P.keeps kk) hv hz fun h' t' k' ht P' => ?_
      refine h1 v hv _ ⟨fun y o hy e => k' y o hy (kk y o e), kp.gens, kp.os, ?_⟩ P'
      have := kp.tk
      simp only [List.length_singleton] at this
      show s.toks ≤ t'
      lia
end
end Mine

namespace Mine
open PySem PySem.W PyProof.Rows PySem.SeqAt

theorem fn102 : ∃ fd q0 q1 q2 q3 q4 q5 k0 q6, Fn0 fd ∧ (∀ P, ∃ oc od osl, (KK P).lookup 102 = some ⟨oc, od, .func fd, osl⟩) ∧ fd.body = .stmts [.Expr (.Call (.Attribute (.Name "self" q0) "append" q1) [.Tuple [.Name "fws" q2, .Name "string" q3] k0 q4] [] q5) q6] ∧ (q1.endLine == q5.line) = true ∧
    fd.scope.names.lookup ("self" : Str) = some .local ∧ fd.scope.names.lookup ("fws" : Str) = some .local ∧ fd.scope.names.lookup ("string" : Str) = some .local ∧ (∀ L f, interactive (callEnv fd L f) = false) ∧
    (∀ v v1 v2, bindArgs fd ⟨[v, v1, v2], []⟩ = pure [(("self" : Str), v), (("fws" : Str), v1), (("string" : Str), v2)]) :=
  ⟨_, _, _, _, _, _, _, _, _, ⟨fun P => by kernel_rfl, by decide, rfl, rfl, rfl⟩, fun P => ⟨_, _, _, rfl⟩, rfl, rfl, rfl, rfl, rfl, fun L f => rfl, fun v v1 v2 => by kernel_rfl⟩

section
variable {g : Gl} {A : Around} {E : Value → Shared → Prop} {s : Shared} {x dx : Addr} {its : Array Value} {Q : Value → Shared → Prop}
theorem app_facts : ∃ sig, builtinKind "list.append" = some .method ∧ splitId "list.append" = some ("list", "append") ∧ Manifest.signature? "list.append" = some sig ∧ ∀ a b, Bind.checkArgs "list.append" sig ⟨[a, b], []⟩ = pure () := ⟨_, by decide +kernel, by decide +kernel, rfl, fun a b => by kernel_rfl⟩
theorem call_append {v : Value} (X : (KK g.w.params).In s.heap) (P : PileAt s.heap x dx its) (hz : its.size ≤ 1000) (hq : ∀ h', Heap.SameBut x s.heap h' → PileAt h' x dx (its.push v) → Q .none { s with heap := h' }) : wpAny (model g.prog g.w) A (call (.builtin "list.append") [.ref x, v]) Q E s := by
  refine xEEE P.inst fun n sl od I => ?_
  refine xEAAA app_facts fun sig f1 f2 f3 f4 => ?_
  have L1 : Looks (model g.prog g.w) s.heap (isInstance (.ref x) (.type "list")) true := I.type.andThen (looks_mroIn X (acc_subl _))
  refine wpAny_call (codeAny_call_builtin (by decide +kernel) AF.entry_app ?_)
  simp only [checkBuiltinCall, f1, f2, f3]
  refine wpAny_bind (L1.here ?_)
  simp only [Bool.not_true, Bool.false_eq_true, if_false]
  refine wpAny_of_eq (f4 _ _) ?_
  obtain ⟨hh, ge, d, t, os⟩ := s
  refine acc_append_run I.at_ hz fun h' n' hs e => hq h' hs (P.same hs e)

theorem call_push {v1 v2 : Value} (pf : PF g s.heap) (hd : A.depth < 900) (P : PileAt s.heap x dx its) (hz : its.size ≤ 1000)
    (hq : ∀ s' a, KpB x s s' → s.heap.get? a = none → s'.heap.get? a = some { cls := .type "tuple", data := .seq #[v1, v2] } → PileAt s'.heap x dx (its.push (.ref a)) → Q .none s') : wpAny (model g.prog g.w) A (call (.ref 102) [.ref x, v1, v2]) Q E s := by
  refine xEEEEEEEEE fn102 fun fd q0 q1 q2 q3 q4 q5 k0 q6 qr0 => xAAAAAAAA qr0 fun F0 hf hb hl n1 n2 n3 hi hbind => ?_
  refine xEEE (hf g.w.params) fun oc od' osl hf => ?_
  have X := pf.K
  refine wpAny_call (ks_codeAny_call_defAt (fd := fd) (by show A.depth < 1000; lia) (X _ _ hf) rfl pf.lim (codeRec_of X (F0.code _)) hb (.of_eq (hbind _ _ _)) F0.cell (fun y hy => ?_) (fun h₀ ns k => ?_) F0.co F0.gen F0.kind)
  · simp only [List.mem_cons, List.not_mem_nil, or_false] at hy
    rcases hy with rfl | rfl | rfl
    · exact n1
    · exact n2
    · exact n3
  · have pf1 := pf.keeps k
    have P1 := P.keeps k
    refine ks_wpAt_execs_cons (PySem.wpAt_of_wpAny (wpAny_Expr_any (Call_method rfl hl rfl (by show 1 < 30; decide) ?_) (hi _ _) rfl))
    refine wpAny_Name (wpAny_loadName_local F0.kind n1 ns rfl ?_) (by decide)
    refine P1.getMethod (T := .type "method_descriptor") pf1.K (acc_append _) (by kernel_rfl) (by decide) (by decide) ?_
    unfold callWith
    refine wpAny_bind (wpAny_holding (Calls.evalArgs_plain (wpAny_items_cons (wpAny_Tuple ?_))))
    refine wpAny_items_cons (wpAny_Name (wpAny_loadName_local F0.kind n2 ns rfl ?_) (by decide))
    refine wpAny_items_cons (wpAny_Name (wpAny_loadName_local F0.kind n3 ns rfl ?_) (by decide))
    refine wpAny_items_nil ⟨by show 2 ≤ sizeLine; decide, wpAny_items_nil (wpAny_bind (wpAny_standAt ?_))⟩
    refine wpAny_bind (wpAny_pure (a := Keeper.machine) ?_)
    refine wpAny_bind ?_
    have kk : ∀ b o, h₀.get? b = some o → (h₀.push { cls := .type "tuple", data := .seq #[v1, v2] }).get? b = some o := fun b o e => Heap.get?_push_of_some _ e
    refine call_append (pf1.keeps kk).K (P1.keeps kk) hz fun h' hs P' => ?_
    refine wpAny_bind (wpAny_holding (wpAny_point (wpAny_pure ?_)))
    refine PySem.wpAt_of_wpAny (wpAny_execs_nil ?_)
    refine hq _ h₀.objs.size ⟨fun b o hb e => (hs.2 b hb).trans (kk b o (k b o e)), rfl, rfl, Nat.le_add_right _ _⟩ ?_ ?_ P'
    · cases q : s.heap.get? h₀.objs.size with
      | none => rfl
      | some o => exact absurd (Heap.lt_size (k _ _ q)) (Nat.lt_irrefl _)
    · have ne : h₀.objs.size ≠ x := by
        rintro e
        refine xEE P1.obj fun n sl ex => ?_
        exact absurd (Heap.lt_size ex) (by rw [e]; exact Nat.lt_irrefl _)
      exact (hs.2 _ ne).trans (Heap.get?_push_at rfl rfl)
end
end Mine

namespace Mine
open PySem PySem.W PyProof.Rows PySem.SeqAt

section
variable {g : Gl} {A : Around} {E : Value → Shared → Prop} {s : Shared} {h : Heap} {P : Params} {M : Model}
theorem chk_new (X : (KK P).In h) (hp : M.w.params = P) : Looks M h (checkBuiltinCall "list.__new__" ⟨[.ref 158], []⟩) () := Looks.of_peek X (by rw [hp]; kernel_rfl)
theorem madeBy158 (X : (KK P).In h) (hp : M.w.params = P) : Looks M h (Bind.madeBy (.ref 158)) (some "list.__new__") := Looks.of_peek X (by rw [hp]; kernel_rfl)
theorem isType158 (X : (KK P).In h) (hp : M.w.params = P) : Looks M h (isType (.ref 158)) true := Looks.of_peek X (by rw [hp]; kernel_rfl)
theorem call158 (X : (KK P).In h) (hp : M.w.params = P) : Looks M h (specialOf (.ref 158) "__call__") (some (.builtin "type.__call__")) := Looks.of_peek X (by rw [hp]; kernel_rfl)
theorem typ158 (X : (KK P).In h) (hp : M.w.params = P) : Looks M h (isInstance (.ref 158) (.type "type")) true := Looks.of_peek X (by rw [hp]; kernel_rfl)
theorem mro158 (X : (KK P).In h) (hp : M.w.params = P) : Looks M h (mroOf (.ref 158)) [.ref 158, .type "list", .type "object"] := Looks.of_peek X (by rw [hp]; kernel_rfl)
theorem init158 (X : (KK P).In h) (hp : M.w.params = P) : Looks M h (typeLookup (.ref 158) "__init__") (some (.ref 95)) := Looks.of_peek X (by rw [hp]; kernel_rfl)
theorem del158 (X : (KK P).In h) (hp : M.w.params = P) : Looks M h (classHasDel 158) false := Looks.of_peek X (by rw [hp]; kernel_rfl)

theorem new158 {Q₁ : Value → Shared → Prop} (X : (KK g.w.params).In s.heap)
   (hq : Q₁ (.ref (s.heap.objs.size + 1)) { s with heap := (s.heap.push { cls := .type "dict", data := .dict #[] }).push (accO #[] s.heap.objs.size #[] 0) }) :
   codeAny (model g.prog g.w) A (.call (.builtin "list.__new__") ⟨[.ref 158], []⟩) (wants Q₁ E) s := by
  refine codeAny_of_tree ?_
  show wpAny _ A.in1 (do checkBuiltinCall "list.__new__" ⟨[.ref 158], []⟩; again (.builtin "list.__new__" ⟨[.ref 158], []⟩)) _ _ s
  refine wpAny_bind ((chk_new (M := model g.prog g.w) X rfl).here (wpAny_pure (And.intro (plainId_quiet F.plain_list_new _) (codeAny_builtin_stack F.entry_list_new rfl fun p st => ?_))))
  rw [Around.under_plainId F.plain_list_new _]
  have hsub : Looks (model g.prog g.w) s.heap (isSubtype (.ref 158) (.type "list")) true := looks_mroIn X (acc_subl _)
  have hty := isType158 (M := model g.prog g.w) X rfl
  have hown := owner_list_new
  obtain ⟨hp, ge, d, tk, os⟩ := s
  dsimp only at hsub hty X
  simp only [hown]
  have hdel := del158 (M := model g.prog g.w) (X.keeps fun b o e => Heap.get?_push_of_some (accO #[] hp.objs.size #[] 0) (Heap.get?_push_of_some { cls := .type "dict", data := .dict #[] } e)) rfl
  repeat (first | with_reducible refine Looks.at hsub ?_ | with_reducible refine Looks.at hty ?_ | with_reducible refine Looks.at hdel ?_ | wp_step | dsimp only)
  show Q₁ _ _
  rw [Heap.size_push]
  exact hq

theorem make158 {Q : Value → Shared → Prop} (X : (KK g.w.params).In s.heap)
   (hq : ∀ A', A'.depth = A.depth + 1 → codeAny (model g.prog g.w) A' (.call (.ref 95) ⟨[.ref (s.heap.objs.size + 1)], []⟩) (wants (fun v s' => v = .none ∧ Q (.ref (s.heap.objs.size + 1)) s') E)
       { s with heap := (s.heap.push { cls := .type "dict", data := .dict #[] }).push (accO #[] s.heap.objs.size #[] 0) }) :
   wpAny (model g.prog g.w) A (call (.ref 158) []) Q E s := by
  have hcall := call158 (M := model g.prog g.w) X rfl
  have htyp := typ158 (M := model g.prog g.w) X rfl
  have hm := mro158 (M := model g.prog g.w) X rfl
  have hmade := madeBy158 (M := model g.prog g.w) X rfl
  obtain ⟨cd, hcd, hmro, -⟩ := acc_cls g.w.params
  obtain ⟨oc, od, sl, hC0⟩ : ∃ oc od sl, (KK g.w.params).lookup 158 = some ⟨oc, od, .cls cd, sl⟩ := by
    unfold clsIn at hcd
    split at hcd
    · rename_i c d cd' sl ho
      (injection hcd with hcd; subst hcd)
      exact ⟨_, _, _, ho⟩
    · injection hcd
  have hC := X _ _ hC0
  refine wpAny_call (codeAny_of_tree ?_)
  show wpAny _ _ (callAny (.ref 158) _) _ _ _
  refine nd_load hC ?_
  show wpAny _ _ (callAny.viaDunder (.ref 158) _) _ _ _
  unfold callAny.viaDunder
  refine wpAny_bind (hcall.here ?_)
  dsimp only
  rw [tc_bind]
  refine wpAny_bind (wpAny_pure (wpAny_bind (wpAny_pure ?_)))
  refine wpAny_pure (a := Fin.again (.call (.builtin "type.__call__") ⟨.ref 158 :: [], []⟩)) (And.intro rfl ?_)
  refine codeAny_call_builtin_at (Code.quiet_builtin _ (by decide +kernel)) entry_typeCall (check_slot tc_kind tc_split htyp (tc_args _ _ _) ?_)
  unfold Builtin.«type.__call__»
  have hne : ([Value.ref 158, .type "list", .type "object"] : List Value).isEmpty = false := rfl
  obtain ⟨hp, ge, d, tk, os⟩ := s
  have k : ∀ b o, hp.get? b = some o → ((hp.push { cls := .type "dict", data := .dict #[] }).push (accO #[] hp.objs.size #[] 0)).get? b = some o := fun b o e => Heap.get?_push_of_some _ (Heap.get?_push_of_some _ e)
  have hx : ((hp.push { cls := .type "dict", data := .dict #[] }).push (accO #[] hp.objs.size #[] 0)).get? (hp.objs.size + 1) = some (accO #[] hp.objs.size #[] 0) := by heap_get
  have X1 : (KK g.w.params).In ((hp.push { cls := .type "dict", data := .dict #[] }).push (accO #[] hp.objs.size #[] 0)) := X.keeps k
  have t1 : Looks (model g.prog g.w) ((hp.push { cls := .type "dict", data := .dict #[] }).push (accO #[] hp.objs.size #[] 0)) (typeOf (.ref (hp.objs.size + 1))) (.ref 158) := (Looks.ld hx).andThen .now
  have s1 : Looks (model g.prog g.w) ((hp.push { cls := .type "dict", data := .dict #[] }).push (accO #[] hp.objs.size #[] 0)) (isSubtype (.ref 158) (.ref 158)) true := looks_mroIn X1 (acc_sub _)
  have i1 := init158 (M := model g.prog g.w) X1 rfl
  have b1 : Looks (model g.prog g.w) ((hp.push { cls := .type "dict", data := .dict #[] }).push (accO #[] hp.objs.size #[] 0)) (bindSpecial (.ref 95) (.ref (hp.objs.size + 1))) (.ref 95, [.ref (hp.objs.size + 1)]) := bind_fn X1 _ (acc_fn _ _ (by decide))
  unfold isInstance callSpecial? specialOf
  repeat (first | simp only [hne, Bool.false_eq_true, if_false] | with_reducible refine Looks.at hm ?_ | with_reducible refine Looks.at hmade ?_ | with_reducible refine wpAny_call ?_ | lk)
  refine codeAny_mono (new158 (E := E) (Q₁ := fun v s' => v = .ref (hp.objs.size + 1) ∧ s' = ⟨(hp.push { cls := .type "dict", data := .dict #[] }).push (accO #[] hp.objs.size #[] 0), ge, d, tk, os⟩) X ⟨rfl, rfl⟩) (fun r s' hr => ?_)
  rcases r with e | (v | _ | _ | _) <;> first | exact hr | exact hr.elim | skip
  (refine xA hr ?_; clear hr; intro qq0 qq1; subst qq0; subst qq1)
  dsimp only
  repeat (first | simp only [Bool.not_true, Bool.false_eq_true, if_false] | with_reducible refine Looks.at t1 ?_ | with_reducible refine Looks.at s1 ?_ | with_reducible refine Looks.at i1 ?_ | with_reducible refine Looks.at b1 ?_ | with_reducible refine wpAny_call ?_ | lk)
  refine codeAny_mono (hq _ rfl) (fun r s' hr => ?_)
  rcases r with e | (v | _ | _ | _) <;> first | exact hr | exact hr.elim | skip
  (refine xA hr ?_; clear hr; intro qq2 hv; subst qq2)
  exact wpAny_pure (wpAny_pure hv)
end
end Mine

namespace Mine
open PySem PySem.W PyProof.Rows PySem.SeqAt

section
variable {g : Gl} {A : Around} {E : Value → Shared → Prop} {s : Shared} {x dx : Addr} {its : Array Value} {P : Params} {M : Model} {h : Heap}
theorem refuse158 (self : Value) : refuseLoop self "__setattr__" [.ref 158, .type "list", .type "object"] = pure () := by
  rw [refuseLoop_ref]; kernel_rfl
theorem acc_setattr {v : Value} {Q : Unit → Shared → Prop} (X : (KK g.w.params).In s.heap) (Pl : PileAt s.heap x dx its) (hde : s.heap.get? dx = some { cls := .type "dict", data := .dict #[] })
    (hq : ∀ s', KpB dx s s' → PileAt s'.heap x dx its → Q () s') : wpAny (model g.prog g.w) A (setAttr (.ref x) "_initial_size" v) Q E s := by
  refine xEEE Pl.inst fun n sl od I => ?_
  refine xEA Pl.dict fun m hns hm => ?_
  refine set_plain X I (acc_sa _) ?_
  have SF := PySem.F.store_object
  have sub : Looks (model g.prog g.w) s.heap (isInstance (.ref x) (.type "object")) true := I.type.andThen (looks_mroIn X (acc_subo _))
  refine codeAny_call_builtin SF.slot.plain SF.entry (@check_slot (model g.prog g.w) _ _ { s with toks := s.toks + 1 } "object.__setattr__" "object" "__setattr__" (.ref x) [.str "_initial_size" s.toks, v] [] _ SF.kind SF.split sub (SF.args (.ref x) (.str "_initial_size" s.toks) v) ?_)
  have hmr := mro158 (M := model g.prog g.w) X rfl
  have hcl : Looks (model g.prog g.w) s.heap (typeLookup (.ref 158) "_initial_size") none := looks_findIn X (acc_is _)
  have hty := I.type (M := model g.prog g.w)
  rw [osa_eq, refuse_eq]
  refine wpAny_bind (wpAny_bind (Looks.at (hty) (wpAny_bind (Looks.at hmr ?_))))
  rw [refuse158]
  refine wpAny_pure (wpAny_bind (Looks.at hty (wpAny_bind (Looks.at hcl (wpAny_bind (wpAny_pure ?_))))))
  dsimp only
  unfold Builtin.ObjectAttr.storeInOwnDict
  obtain ⟨cd, hcd, -, -, -, hdict⟩ := acc_cls g.w.params
  have hcd' := looks_clsIn (M := model g.prog g.w) X hcd
  have hx := I.at_
  have ne := Pl.ne
  repeat (first | lk)
  rw [hdict]
  refine wpAny_pure (a := some dx) ?_
  dsimp only
  unfold Builtin.ObjectAttr.storeInDict
  refine wpAny_bind (wpAny_pure (wpAny_bind ?_))
  unfold nsSet
  refine wpAny_bind (wpAny_bind (wpAny_askSetting (wpAny_pure (wpAny_bind (wpAny_mkText (wpAny_bind (wpAny_loadPart hde ?_)))))))
  dsimp only
  have e' : Obj.putName "_initial_size" (PyData.keyHash g.w.params "_initial_size") (.str "_initial_size" (s.toks + 1)) v { cls := .type "dict", data := .dict #[] } = { cls := .type "dict", data := .dict #[⟨PyData.keyHash g.w.params "_initial_size", .str "_initial_size" (s.toks + 1), v⟩] 1 } := by
    rw [Obj.putName_eq]; simp [Obj.putNameByArray]
  rw [aRefKeyMayBeTheName_at, if_neg (by simp)]
  refine wpAny_updatePart hde ?_
  have D' : (s.heap.update dx (Obj.putName "_initial_size" (PyData.keyHash g.w.params "_initial_size") (.str "_initial_size" (s.toks + 1)) v)).get? dx = some { cls := .type "dict", data := .dict #[⟨PyData.keyHash g.w.params "_initial_size", .str "_initial_size" (s.toks + 1), v⟩] 1 } := by
    rw [Heap.get?_update_self _ hde (by rw [e']; rfl), e']
  refine wpAny_bind (wpAny_lookBehind D' (by rfl) ?_)
  have hs : Heap.SameBut dx s.heap (s.heap.update dx (Obj.putName "_initial_size" (PyData.keyHash g.w.params "_initial_size") (.str "_initial_size" (s.toks + 1)) v)) := Heap.SameBut.update ..
  refine wpAny_pure (hq _ ⟨fun b o hb e => (hs.2 b hb).trans e, rfl, rfl, by show s.toks ≤ s.toks + 1 + 1; lia⟩ ⟨⟨n, sl, (hs.2 x (Ne.symm ne)).trans hx⟩, ⟨_, ⟨_, _, _, D', rfl, ?_, fun _ => rfl⟩, fun y hy => ?_⟩⟩)
  · intro e he
    simp at he
    exact ⟨_, _, by rw [he]⟩
  · have h1 : (Value.str "_initial_size" (s.toks + 1)).isStr y = false := by
      cases q : (Value.str "_initial_size" (s.toks + 1)).isStr y with
      | false => rfl
      | true => exact absurd (Value.isStr_inj _ _ _ q (by show ((("_initial_size" : Str)) == "_initial_size") = true; decide)) hy
    show (Array.find? (fun (e : DictEntry) => e.key.isStr y) #[⟨_, .str "_initial_size" (s.toks + 1), v⟩]).map _ = none
    rw [show (Array.find? (fun (e : DictEntry) => e.key.isStr y) #[⟨PyData.keyHash g.w.params "_initial_size", .str "_initial_size" (s.toks + 1), v⟩]) = none from by simp [h1]]
    rfl
end
end Mine

namespace Mine
open PySem PySem.W PyProof.Rows PySem.SeqAt

theorem fn95 : ∃ fd q0 q1 q2 q3 q4 p0 p1 p2 p3 p4, SupFn 95 fd ∧ Fn0 fd ∧ fd.body = .stmts [.Assign [.Attribute (.Name "self" q0) "_initial_size" q1] (.Name "initial_size" q2) q3, .Expr (.Call (.Attribute (.Call (.Name "super" p0) [] [] p1) "__init__" p2) [] [] p3) p4] ∧ (p2.endLine == p3.line) = true ∧ (q4 = p4) ∧
   fd.scope.names.lookup ("initial_size" : Str) = some .local ∧ (∀ L f, interactive (callEnv fd L f) = false) ∧ (∀ (P : Params) (s : Shared) v, (KK P).In s.heap → BindsTo s fd ⟨[v], []⟩ [(("self" : Str), v), (("initial_size" : Str), .int 0 422)]) :=
  ⟨_, _, _, _, _, _, _, _, _, _, _, ⟨fun P => ⟨_, _, _, rfl⟩, ⟨_, rfl, rfl⟩, ⟨_, rfl, fun P => ⟨_, _, _, _, _, rfl, rfl⟩⟩, rfl, rfl, rfl, rfl, rfl, rfl, rfl⟩, ⟨fun P => by kernel_rfl, by decide, rfl, rfl, rfl⟩, rfl, rfl, rfl, rfl, fun L f => rfl, fun P s v X => BindsTo.of_defaults rfl (X 87 _ rfl) rfl rfl rfl⟩

section
variable {g : Gl} {A : Around} {E : Value → Shared → Prop} {s : Shared} {x dx : Addr} {its : Array Value} {Q : Value → Shared → Prop}
theorem KpB.trans2 {s s' s'' : Shared} {x y : Addr} (a : KpB x s s') (b : KpB y s' s'') : (∀ z o, z ≠ x → z ≠ y → s.heap.get? z = some o → s''.heap.get? z = some o) ∧ s''.gens = s.gens ∧ s''.os = s.os ∧ s.toks ≤ s''.toks :=
  ⟨fun z o h1 h2 e => b.kp z o h2 (a.kp z o h1 e), b.gens.trans a.gens, b.os.trans a.os, Nat.le_trans a.tk b.tk⟩
/-- a pile is made -/
theorem make_pile (pf : PF g s.heap) (hd : A.depth < 900) (hq : ∀ s' x dx, Kp s s' → s.heap.get? x = none → s.heap.get? dx = none → PileAt s'.heap x dx #[] → Q (.ref x) s') : wpAny (model g.prog g.w) A (call (.ref 158) []) Q E s := by
  obtain ⟨fd, q0, q1, q2, q3, q4, p0, p1, p2, p3, p4, S, F0, hb, hl, -, n2, hi, hbind⟩ := fn95
  refine xEEE (S.at_ g.w.params) fun oc od' osl hf => ?_
  have X := pf.K
  refine make158 X fun A' hA' => ?_
  obtain ⟨hp, ge, d, tk, os⟩ := s
  have k0 : ∀ b o, hp.get? b = some o → ((hp.push { cls := .type "dict", data := .dict #[] }).push (accO #[] hp.objs.size #[] 0)).get? b = some o := fun b o e => Heap.get?_push_of_some _ (Heap.get?_push_of_some _ e)
  have pf0 := pf.keeps k0
  refine ks_codeAny_call_defAt (fd := fd) (by show A'.depth < 1000; lia) (pf0.K _ _ hf) rfl pf0.lim (codeRec_of pf0.K (F0.code _)) hb (hbind _ _ _ pf0.K) F0.cell (fun y hy => ?_) (fun h₀ ns k => ?_) F0.co F0.gen F0.kind
  · simp only [List.mem_cons, List.not_mem_nil, or_false] at hy
    rcases hy with rfl | rfl
    · exact S.ka
    · exact n2
  · have e1 := k _ _ (show ((hp.push { cls := .type "dict", data := .dict #[] }).push (accO #[] hp.objs.size #[] 0)).get? (hp.objs.size + 1) = some (accO #[] hp.objs.size #[] 0) by heap_get)
    have e2 := k _ _ (show ((hp.push { cls := .type "dict", data := .dict #[] }).push (accO #[] hp.objs.size #[] 0)).get? hp.objs.size = some { cls := .type "dict", data := .dict #[] } by heap_get)
    have pf1 := pf0.keeps k
    have P1 : PileAt h₀ (hp.objs.size + 1) hp.objs.size #[] := ⟨⟨_, _, e1⟩, fun _ => none, ⟨_, _, _, e2, rfl, fun e he => absurd he (by simp), fun _ => rfl⟩, fun _ _ => rfl⟩
    refine ks_wpAt_execs_cons (ks_wpAt_Assign_Attr (PySem.wpAt_of_wpAny ?_) rfl)
    refine wpAny_Name (wpAny_loadName_local S.kind n2 ns rfl ?_) (by decide)
    refine wpAny_Name (wpAny_loadName_local S.kind S.ka ns rfl ?_) (by decide)
    refine acc_setattr pf1.K P1 e2 fun s2 kb P2 => ?_
    have hnL : hp.objs.size ≠ ((hp.push { cls := .type "dict", data := .dict #[] }).push (accO #[] hp.objs.size #[] 0)).objs.size := by rw [Heap.size_push, Heap.size_push]; lia
    have kk : ∀ b o, hp.get? b = some o → s2.heap.get? b = some o := fun b o e => kb.kp b o (Nat.ne_of_lt (Heap.lt_size e)) (k b o (k0 b o e))
    have pf2 : PF g s2.heap := pf.keeps kk
    have ns2 : s2.heap.Ns _ _ := xEEEA ns fun o es ep e r => ⟨o, es, ep, kb.kp _ o (Ne.symm hnL) e, r⟩
    have g2 := kb.gens
    have o2 := kb.os
    have t2 := kb.tk
    obtain ⟨hp2, ge2, d2, tk2, os2⟩ := s2
    refine ks_wpAt_execs_cons (ks_wpAt_Expr_any ?_ (hi _ _) rfl)
    refine super_init hl pf2 S ns2 rfl P2 fun h' t' k' ht P' => ?_
    refine PySem.wpAt_of_wpAny (wpAny_execs_nil ⟨rfl, ?_⟩)
    have none_at : ∀ c, hp.objs.size ≤ c → hp.get? c = none := fun c hc => by
      cases q : hp.get? c with
      | none => rfl
      | some o => exact absurd (Heap.lt_size q) (Nat.not_lt.mpr hc)
    refine hq _ _ _ ⟨fun b o e => k' b o (by have := Heap.lt_size e; show b ≠ hp.objs.size + 1; exact Nat.ne_of_lt (Nat.lt_succ_of_lt this)) (kk b o e), g2, o2, ?_⟩ (none_at _ (Nat.le_succ _)) (none_at _ (Nat.le_refl _)) P'
    show tk ≤ t'
    simp only [List.length_cons] at t2
    lia
end
end Mine

namespace Mine
open PySem PySem.W PyProof.Rows PySem.SeqAt

/-- a sequence's items, whatever its class -/
noncomputable def SeqIs (h : Heap) (l : Addr) (items : Array Value) : Prop := ∃ o n, h.get? l = some o ∧ o.data = .seq items n
section
variable {prog : Program} {w : World} {A : Around} {E : Value → Shared → Prop} {s : Shared}
theorem seq_next_item {it l : Addr} {i : Nat} {items : Array Value} {x : Value} {Q : Option Value → Shared → Prop} (hit : s.heap.IsListIter it l i)
    (hl : SeqIs s.heap l items) (hx : items[i]? = some x) (hQ : ∀ h', h'.IsListIter it l (i + 1) → Heap.SameBut it s.heap h' → Q (some x) { s with heap := h' }) :
    wpAny (model prog w) A (pyNext (.ref it)) Q E s := by
  refine xEAA (id hit) fun o ho hc hd => ?_
  (refine xEEA hl ?_; clear hl; intro ol nl hol hdl)
  unfold pyNext
  refine wpAny_bind (wpAny_attempt (wpAny_callSpecial?_slot (name := Str.ofString "__next__") hit.typeIs slot_listiter_next
    (wpAny_call_entry slot_listiter_next hit.typeIs entry_listiter_next ?_ (args_listiter_next _))))
  show wpAny _ _ (field (.ref it) 0 >>= _) _ _ s
  refine wpAny_bind (wpAny_field ho hd (x := .ref l) rfl ?_)
  show wpAny _ _ (if (Value.ref l == Value.none) = true then _ else _) _ _ s
  rw [if_neg (show ¬ ((Value.ref l == Value.none) = true) from Bool.false_ne_true)]
  show wpAny _ _ (field (.ref it) 1 >>= _) _ _ s
  refine wpAny_bind (wpAny_field ho hd (x := .int i 0) rfl ?_)
  show wpAny _ _ (seqItems? (.ref l) >>= _) _ _ s
  refine wpAny_bind (wpAny_seqItems hol hdl ?_)
  simp only [Int.toNat_natCast, hx]
  refine wpAny_bind (wpAny_setField ho hd (by simp) (wpAny_pure ⟨x, rfl, wpAny_pure (hQ _ ?_ (Heap.SameBut.update ..))⟩))
  exact ⟨_, Heap.get?_update_self _ ho (Obj.isFreed_of_fields (Obj.data_mapFields hd _)), (Obj.cls_mapFields ..).trans hc, by
    rw [Obj.data_mapFields hd]; simp [rawInt]⟩

theorem seq_next_end {it l : Addr} {i : Nat} {items : Array Value} {Q : Option Value → Shared → Prop} (hh : A.handled = none)
    (hit : s.heap.IsListIter it l i) (hl : SeqIs s.heap l items) (hx : items[i]? = none)
    (hQ : ∀ h', Heap.ExtBut it s.heap h' → Q none { s with heap := h' }) : wpAny (model prog w) A (pyNext (.ref it)) Q E s := by
  refine xEAA (id hit) fun o ho hc hd => ?_
  (refine xEEA hl ?_; clear hl; intro ol nl hol hdl)
  unfold pyNext
  refine wpAny_bind (wpAny_attempt (wpAny_callSpecial?_slot (name := Str.ofString "__next__") hit.typeIs slot_listiter_next
    (wpAny_call_entry slot_listiter_next hit.typeIs entry_listiter_next ?_ (args_listiter_next _))))
  show wpAny _ _ (field (.ref it) 0 >>= _) _ _ s
  refine wpAny_bind (wpAny_field ho hd (x := .ref l) rfl ?_)
  show wpAny _ _ (if (Value.ref l == Value.none) = true then _ else _) _ _ s
  rw [if_neg (show ¬ ((Value.ref l == Value.none) = true) from Bool.false_ne_true)]
  show wpAny _ _ (field (.ref it) 1 >>= _) _ _ s
  refine wpAny_bind (wpAny_field ho hd (x := .int i 0) rfl ?_)
  show wpAny _ _ (seqItems? (.ref l) >>= _) _ _ s
  refine wpAny_bind (wpAny_seqItems hol hdl ?_)
  simp only [Int.toNat_natCast, hx]
  refine wpAny_bind (wpAny_rule (wpAny_bind (wpAny_setField ho hd (by simp) ?_)))
  show wpAny _ _ (newExc (.type "StopIteration") [] >>= _) _ _ _
  refine wpAny_bind ?_
  simp only [newExc, newTuple]
  refine wpAny_bind (wpAny_newObj_type ?_ (by size_fits))
  refine wpAny_bind (m := firstArgMember _ _) (wpAny_of_eq (a := Value.none) (by first | rfl | (simp only [firstArgMember]; rfl)) ?_)
  refine wpAny_newObj_type ?_ (by size_fits)
  simp only [raiseNew]
  refine wpAny_bind (wpAny_handled ?_)
  rw [show A.in1.handled = none from hh]
  refine wpAny_bind (wpAny_pure (wpAny_throw ?_))
  refine wpAny_bind (wpAny_isInstance (T := "StopIteration") (b := true) ⟨_, Heap.get?_push_size _ rfl, rfl⟩ isSubtype_stop ?_)
  exact wpAny_pure (hQ _ (((Heap.SameBut.update ..).extBut.push _).push _))

/-- walking the pile's pairs -/
theorem walks_pile (hh : A.handled = none) (I x : Addr) (hne : x ≠ I) (items : Array Value) (Ts : Nat → Addr) (vals : Nat → Array Value) (hit : ∀ j, j < items.size → items[j]? = some (.ref (Ts j))) (hTI : ∀ j, j < items.size → Ts j ≠ I) :
    WalksU prog w A I (I :: x :: (List.range items.size).map Ts) [I] items.size (fun j v => v = vals j)
      (fun j h => h.IsListIter I x j ∧ SeqIs h x items ∧ ∀ k, k < items.size → h.IsTuple (Ts k) (vals k))
      (fun j T h => (j < items.size ∧ T = Ts j) ∧ h.IsListIter I x (j + 1) ∧ SeqIs h x items ∧ ∀ k, k < items.size → h.IsTuple (Ts k) (vals k)) where
  sub := fun b hb => by simp at hb; simp [hb]
  frame := fun _ _ _ st hk => ⟨st.1.at fun o e => hk I (by simp) o e, xEEA st.2.1 fun o n e d => ⟨o, n, hk x (by simp) o e, d⟩,
    fun k hk' => (st.2.2 k hk').at fun o e => hk (Ts k) (List.mem_cons_of_mem _ (List.mem_cons_of_mem _ (List.mem_map.mpr ⟨k, List.mem_range.mpr hk', rfl⟩))) o e⟩
  item := fun i s Q E hi st hQ => by
    refine seq_next_item st.1 st.2.1 (x := .ref (Ts i)) (hit i hi) fun h' hit' hs' => ?_
    have tup : ∀ k, k < items.size → h'.IsTuple (Ts k) (vals k) := fun k hk' => (st.2.2 k hk').extBut hs'.extBut (hTI k hk')
    exact hQ (Ts i) (vals i) h' s.toks rfl (tup i hi) ⟨⟨hi, rfl⟩, hit', xEEA st.2.1 fun o n e d => ⟨o, n, hs'.extBut x o hne e, d⟩, tup⟩ fun b o hb e => hs'.extBut b o (fun h => hb (by simp [h])) e
  go := fun _ _ _ _ _ s Q _ hm hQ => wpAny_letOwnedTupleGo_listiter hm.2.1 (hQ s.heap hm.2 fun _ _ _ e => e)
  apart := fun j T _ hm hmem => by
    rcases List.mem_cons.mp hmem with e | e
    · exact hTI j hm.1.1 (hm.1.2 ▸ e)
    · cases e
  done := fun s Q E st hQ => seq_next_end hh st.1 st.2.1 (by simp) fun h' he' => hQ h' s.toks fun b o hb e => he' b o (fun h => hb (by simp [h])) e
  self := fun _ _ _ _ st hQ => wpAny_pyIter_listiter st.1 hQ

/-- iter(pile) -/
theorem pile_iter {g : Gl} {x dx : Addr} {its : Array Value} {Q : Value → Shared → Prop} (X : (KK g.w.params).In s.heap) (P : PileAt s.heap x dx its)
    (hQ : Q (.ref s.heap.objs.size) { s with heap := s.heap.push { cls := .type "list_iterator", data := .fields #[.ref x, .int 0 0] } }) :
    wpAny (model g.prog g.w) A (pyIter (.ref x)) Q E s := by
  refine xEEE P.inst fun n sl od I => ?_
  have hT := I.type (M := model g.prog g.w)
  have hl : Looks (model g.prog g.w) s.heap (typeLookup (.ref 158) "__iter__") (some (.builtin "list.__iter__")) := looks_findIn X (acc_iter _)
  unfold pyIter specialOf
  refine wpAny_bind (wpAny_bind (hT.here (hl.here ?_)))
  unfold callSpecialIfBoundUnlessNone?
  repeat (first | (with_reducible refine Looks.at hT ?_) | (with_reducible refine Looks.at hl ?_) | lk)
  have hb := slot_list_iter.bind (.ref x)
  have sub : Looks (model g.prog g.w) s.heap (isInstance (.ref x) (.type "list")) true := I.type.andThen (looks_mroIn X (acc_subl _))
  have fin : ∀ {R : Option Value → Shared → Prop}, R (some (.ref s.heap.objs.size)) { s with heap := s.heap.push { cls := .type "list_iterator", data := .fields #[.ref x, .int 0 0] } } →
      wpAny (model g.prog g.w) A (do let r ← call (.builtin "list.__iter__") [.ref x]; pure (some r)) R E s := by
    intro R hR
    refine wpAny_bind (wpAny_call (codeAny_call_builtin slot_list_iter.plain entry_list_iter (check_slot (owner := "list") (n := "__iter__") (by decide +kernel) (by decide +kernel) sub (args_list_iter _) ?_)))
    show wpAny _ _ (do ret (← newFields "list_iterator" [.ref x, rawInt 0])) _ _ s
    exact wpAny_bind (wpAny_newObj_type (wpAny_pure (wpAny_pure hR)))
  have nx : ∀ {E' : Value → Shared → Prop}, wpAny (model g.prog g.w) A (do
      let l ← (do let t ← typeOf (.ref s.heap.objs.size); typeLookup t "__next__")
      match l with
      | none => (do rule "iter.non-iterator"; let t ← PySem.typeNameOf (.ref s.heap.objs.size); raiseErrorMade "TypeError" (toString "iter() returned non-iterator of type '" ++ toString t ++ toString "'"))
      | some _ => pure (.ref s.heap.objs.size)) Q E' { s with heap := s.heap.push { cls := .type "list_iterator", data := .fields #[.ref x, .int 0 0] } } := by
    intro E'
    exact wpAny_bind (wpAny_specialOf ⟨_, Heap.get?_push_size _ rfl, rfl⟩ slot_listiter_next.lookup (wpAny_pure hQ))
  rw [hb]
  split
  · refine wpAny_bind (wpAny_pure (wpAny_pure ?_))
    dsimp only
    rw [if_neg (by decide)]
    exact fin nx
  · refine wpAny_tryCatch (wpAny_bind (wpAny_pure (wpAny_pure ?_)))
    dsimp only
    rw [if_neg (by decide)]
    exact fin nx
end
end Mine

namespace Mine
open PySem PySem.W PyProof.Rows PySem.SeqAt

theorem fn132 : ∃ fd q0 q1 q2 q3 r0 r1 r2 r3 r4 r5 k t0 t1 t2 t3 t4 k2 gsc, Fn0 fd ∧ (∀ P, ∃ oc od osl, (KK P).lookup 132 = some ⟨oc, od, .func fd, osl⟩) ∧
   fd.body = .stmts [.Return (some (.Call (.Attribute (.Name "EMPTYSTRING" q0) "join" q1) [.GeneratorExp (.Call (.Attribute (.Name "EMPTYSTRING" r0) "join" r1) [.Tuple [.Name "fws" r2, .Name "part" r3] k r4] [] r5) [⟨.Tuple [.Name "fws" t0, .Name "part" t1] k2 t2, .Name "self" t3, [], 0⟩] gsc t4] [] q2)) q3] ∧
   (q1.endLine == q2.line) = true ∧ (r1.endLine == r5.line) = true ∧ fd.scope.names.lookup ("self" : Str) = some .local ∧ fd.scope.names.lookup ("EMPTYSTRING" : Str) = some .globalImplicit ∧ fd.globals = mainGlobals ∧ fd.builtins = builtinsNs ∧ fd.code = .ref 131 ∧
   gsc.isCoroutine = false ∧ gsc.kind = .function ∧ gsc.names = [((".0" : Str), .local), (("fws" : Str), .local), (("part" : Str), .local), (("EMPTYSTRING" : Str), .globalImplicit)] ∧ (∀ v, bindArgs fd ⟨[v], []⟩ = pure [(("self" : Str), v)]) ∧
   (∀ L x, genFold (.Name "self" t3) (callEnv fd L 132) x = pure x) :=
  ⟨_, _, _, _, _, _, _, _, _, _, _, _, _, _, _, _, _, _, _, ⟨fun P => by kernel_rfl, by decide, rfl, rfl, rfl⟩, fun P => ⟨_, _, _, rfl⟩, rfl, rfl, rfl, rfl, rfl, rfl, rfl, rfl, rfl, rfl, rfl, fun v => by kernel_rfl, fun L x => rfl⟩
theorem code131 (P : Params) (h : Heap) (X : (KK P).In h) (ps : Array Value) (ht : h.get? 127 = some { cls := .none, data := .fields ps }) (hp : TriplesOk ps.toList) : h.IsCode 131 127 ps ∧ h.TableAt 131 127 ps :=
  ⟨⟨_, _, _, _, _, _, _, _, _, _, X 131 _ rfl, rfl, rfl, rfl, rfl, rfl, rfl, ht, rfl, hp, by decide⟩, ⟨_, _, X 131 _ rfl, rfl, rfl, rfl⟩, ht⟩

/-- as it was, but for the one table, which may have grown -/
structure KpT (s s' : Shared) : Prop where
  kp : ∀ b o, b ≠ 127 → s.heap.get? b = some o → s'.heap.get? b = some o
  tab : ∃ more, s'.heap.get? 127 = some { cls := .none, data := .fields more }
  gens : AllBare s.gens → AllBare s'.gens
  os : s'.os = s.os
  tk : s.toks ≤ s'.toks

section
variable {g : Gl} {A : Around} {E : Value → Shared → Prop} {s : Shared} {x dx : Addr} {its : Array Value} {Q : Value → Shared → Prop}
theorem loadE {M : Model} {env : Env} {t : Tok} {p : Pos} {Q : Value → Shared → Prop} (hk : env.scope.kind = .function) (hx : env.kindOf "EMPTYSTRING" = some .globalImplicit) (hg : env.globals = mainGlobals) (gl : s.heap.Ns mainGlobals g.mg) (he : g.mg "EMPTYSTRING" = some (.str "" t)) (h : Q (.str "" t) s) :
    wpAny M A (eval (.Name "EMPTYSTRING" p) env) Q E s :=
  wpAny_Name (ks_loadName_global hk hx (Calls.loadGlobal_global (by rw [hg]; exact gl) he h)) (by decide)
theorem mthJoin : Mth (.str "") "join" "str.join" := mth_builtin PySem.F.plainAttrs_str PySem.F.slot_str_join PySem.F.type_str_join fun F s v sub r => by
  cases r; exact ⟨typeIs_str _ _ _, fun a e => nomatch e⟩
theorem getJoin {M : Model} {t : Tok} {pl : Sem Bool} {Q : Value × List Value → Shared → Prop} (h : Q (.builtin "str.join", [.str "" t]) s) : wpAny M A (getMethod (.str "" t) "join" pl) Q E s :=
  mthJoin M A E (fun _ => none) s _ pl Q (fun _ _ e => nS e) .str h

/-- "".join((fws, part)) in the generator's frame -/
theorem gen_elt {env : Env} {r0 r1 r2 r3 r4 r5 : Pos} {k : Nat} {a b : Str} {ta tb : Tok} {m : Str → Option Value} (hl : (r1.endLine == r5.line) = true) (hk : env.scope.kind = .function) (hx : env.kindOf "EMPTYSTRING" = some .globalImplicit) (hf : env.kindOf "fws" = some .local) (hp : env.kindOf "part" = some .local)
    (hg : env.globals = mainGlobals) (gl : s.heap.Ns mainGlobals g.mg) (he : ∃ t, g.mg "EMPTYSTRING" = some (.str "" t)) (ns : s.heap.Ns env.locals m) (h1 : m "fws" = some (.str a ta)) (h2 : m "part" = some (.str b tb)) (hok : a.length + b.length ≤ 16777216) :
    wpAny (model g.prog g.w) A (eval (.Call (.Attribute (.Name "EMPTYSTRING" r0) "join" r1) [.Tuple [.Name "fws" r2, .Name "part" r3] k r4] [] r5) env) (fun y s₃ => (∃ u, y = .str (Txt.join "" [a, b]) u) ∧ Keeps s s₃) E s := by
  (refine xE he ?_; clear he; intro t he)
  refine Call_method rfl hl rfl (by show 1 < 30; decide) (loadE hk hx hg gl he (getJoin ?_))
  unfold callWith
  refine wpAny_bind (wpAny_holding (Calls.evalArgs_plain (wpAny_items_cons (wpAny_Tuple ?_))))
  refine wpAny_items_cons (wpAny_Name (wpAny_loadName_local hk hf ns h1 ?_) (by decide))
  refine wpAny_items_cons (wpAny_Name (wpAny_loadName_local hk hp ns h2 ?_) (by decide))
  refine wpAny_items_nil ⟨by show 2 ≤ sizeLine; decide, wpAny_items_nil (wpAny_bind (wpAny_standAt ?_))⟩
  refine wpAny_bind (wpAny_pure (a := Keeper.machine) (wpAny_bind ?_))
  refine join_tuple (ys := [a, b]) (items := #[.str a ta, .str b tb]) ⟨_, Heap.get?_push_at rfl rfl, rfl, _, rfl⟩ (.cons _ _ (.cons _ _ .nil)) (by have e : (Str.ofString "").length = 0 := rfl; rw [e]; simpa using hok) fun t' k' => ?_
  exact wpAny_bind (wpAny_holding (wpAny_point (wpAny_pure ⟨⟨_, rfl⟩, _, _, rfl, fun b o e => Heap.get?_push_of_some _ e⟩)))
end
end Mine

namespace Mine
open PySem PySem.W PyProof.Rows PySem.SeqAt

theorem sum_le_const {α : Type} {f : α → Nat} {c : Nat} : ∀ {l : List α}, (∀ x ∈ l, f x ≤ c) → (l.map f).sum ≤ c * l.length
  | [], _ => by simp
  | x :: l, h => by
    have h1 := h x List.mem_cons_self
    have h2 := sum_le_const (l := l) fun y hy => h y (List.mem_cons_of_mem _ hy)
    simp only [List.map_cons, List.sum_cons, List.length_cons, Nat.mul_succ]
    lia
section
variable {g : Gl} {A : Around} {E : Value → Shared → Prop} {s : Shared} {x dx : Addr} {its : Array Value} {Q : Value → Shared → Prop}
theorem call_str (pf : PF g s.heap) (bm : ∃ bm ob, BMod s.heap mainGlobals g.mg bm ob) (htab : s.heap.get? 127 = some { cls := .none, data := .fields #[] }) (hh : A.handled = none) (hd : A.depth < 900) (P : PileAt s.heap x dx its) (Ts : Nat → Addr) (a b : Nat → Str) (ta tb : Nat → Tok)
   (hit : ∀ j, j < its.size → its[j]? = some (.ref (Ts j))) (htup : ∀ j, j < its.size → s.heap.IsTuple (Ts j) #[.str (a j) (ta j), .str (b j) (tb j)]) (hsz : its.size ≤ 1000) (hlen : ∀ j, j < its.size → (a j).length + (b j).length ≤ 1000)
   (hq : ∀ s' t, KpT s s' → Q (.str (Txt.join "" ((List.range its.size).map fun j => Txt.join "" [a j, b j])) t) s') : wpAny (model g.prog g.w) A (call (.ref 132) [.ref x]) Q E s := by
  refine xEEEEEEEEEEEEEEEEEEE fn132 fun fd q0 q1 q2 q3 r0 r1 r2 r3 r4 r5 k t0 t1 t2 t3 t4 k2 gsc qr0 => xAAAAAAAA qr0 fun F0 hf hb hl hl2 n1 n2 hgl qr1 => xAAAAAA qr1 fun hbu hcode g1 g2 g3 hbind hfold => ?_
  refine xEEE (hf g.w.params) fun oc od' osl hf => ?_
  have X := pf.K
  refine wpAny_with_toks (Nat.le_refl s.toks) ?_
  refine wpAny_call (ks_codeAny_call_defAt (fd := fd) (by show A.depth < 1000; lia) (X _ _ hf) rfl pf.lim (codeRec_of X (F0.code _)) hb (.of_eq (hbind _)) F0.cell (fun y hy => ?_) (fun h₀ ns kp => ?_) F0.co F0.gen F0.kind)
  · obtain rfl := List.mem_singleton.mp hy; exact n1
  · have pf1 := pf.keeps kp
    have P1 := P.keeps kp
    have ht1 := kp _ _ htab
    (refine xEE bm ?_; clear bm; intro bm ob BM)
    have BM1 := BM.keeps kp
    refine xE pf.emp fun te he => ?_
    refine ks_wpAt_execs_cons (ks_wpAt_Return_some (PySem.wpAt_of_wpAny (Call_method rfl hl rfl (by show 1 < 30; decide) (loadE F0.kind n2 hgl pf1.gl he (getJoin ?_)))))
    unfold callWith
    refine wpAny_bind (wpAny_holding (Calls.evalArgs_plain ?_))
    refine wpAny_items_cons (e := .GeneratorExp _ _ _ _) ?_ rfl
    refine wpAny_GeneratorExp_walksQT (cl := []) hh g1 ?_ ?_ (by rw [g3]; rfl) (by rw [g3]; rfl) (by rw [g3]; rfl) (by decide) g2 ?_ ?_ (fun y => hfold _ y)
    · unfold closureFor; rw [g3]; rfl
    · rw [g3]; decide
    · show A.depth + 1 < 1000; lia
    refine wpAny_Name (wpAny_loadName_local F0.kind n1 ns rfl ?_) (by decide)
    refine pile_iter pf1.K P1 ?_
    have k1 : ∀ b o, h₀.get? b = some o → (h₀.push { cls := .type "list_iterator", data := .fields #[.ref x, .int 0 0] }).get? b = some o := fun b o e => Heap.get?_push_of_some _ e
    have pf2 := pf1.keeps k1
    refine ⟨pf2.lim, ?_⟩
    refine xA (code131 g.w.params _ pf2.K #[] (k1 _ _ ht1) (show TriplesOk [] from trivial)) fun cI cT => ?_
    refine wpAny_genexprCodeX hcode cI cT rfl fun c' h₃ tk₃ hx₃ hge hlt hcode₃ _ htab₃ _ => ?_
    have M₃ : BMod h₃ mainGlobals g.mg bm ob := (BM1.keeps k1).extBut cT hx₃
    refine wpAny_builtinsFor (by rw [show (callEnv fd s.heap.objs.size 132).globals = mainGlobals from hgl]; exact M₃.ns) M₃.name M₃.ne M₃.obj M₃.cls M₃.dict M₃.data ?_
    have hxlt : x < h₀.objs.size := xEE P1.obj fun _ _ e => Heap.lt_size e
    have hTlt : ∀ j, j < its.size → Ts j < h₀.objs.size := fun j hj => xEA (htup j hj) fun o e _ => Heap.lt_size (kp _ _ e)
    have hsz2 : h₀.objs.size + 1 ≤ h₃.objs.size := by
      have : (h₀.push { cls := .type "list_iterator", data := .fields #[.ref x, .int 0 0] }).objs.size ≤ h₃.objs.size := Nat.le_trans hge (Nat.le_of_lt hlt)
      rw [Heap.size_push] at this; exact this
    have I0 : (h₀.push { cls := .type "list_iterator", data := .fields #[.ref x, .int 0 0] }).get? h₀.objs.size = some { cls := .type "list_iterator", data := .fields #[.ref x, .int 0 0] } := Heap.get?_push_at rfl rfl
    have h127 : 127 < h₀.objs.size := Heap.lt_size ht1
    have kx : ∀ b o, b ≠ 127 → h₀.get? b = some o → h₃.get? b = some o := fun b o hb e => hx₃ b o hb (k1 b o e)
    have hcP : cStatics ≠ 127 := by decide
    have hl₃ : h₃.NoLimit := pf2.lim.extBut hx₃ hcP
    have hglo : mainGlobals < h₃.objs.size := M₃.ns.lt
    have hx127 : x ≠ 127 := by
      rintro rfl
      refine xEE P1.obj fun _ _ e => ?_
      rw [ht1] at e; cases e
    have hT127 : ∀ j, j < its.size → Ts j ≠ 127 := fun j hj e => by
      refine xEAA (htup j hj) fun o eo hc _ => ?_
      rw [e, htab] at eo; (injection eo with eo; subst eo); injection hc
    refine ⟨h₀.objs.size, h₀.objs.size :: x :: (List.range its.size).map Ts, [h₀.objs.size], its.size, fun i v => i < its.size ∧ v = #[.str (a i) (ta i), .str (b i) (tb i)], _, _, fun _ => true, fun j y => ∃ u, y = .str (Txt.join "" [a j, b j]) u, rfl,
      fun A' hA => (walks_pile hA h₀.objs.size x (Nat.ne_of_lt hxlt) its Ts (fun j => #[.str (a j) (ta j), .str (b j) (tb j)]) hit (fun j hj => Nat.ne_of_lt (hTlt j hj))).bound,
      fun i vals hv => ⟨_, _, hv.2⟩, ⟨⟨_, hx₃ _ _ (Nat.ne_of_gt h127) I0, rfl, rfl⟩, xEE P1.obj fun _ _ e => ⟨_, _, kx x _ hx127 e, rfl⟩, fun j hj => xEA (htup j hj) fun o e r => ⟨o, kx _ o (hT127 j hj) (kp _ _ e), r⟩⟩, ?_, hl₃, ?_, ?_, ?_⟩
    · intro y hy
      show y < h₃.objs.size
      simp only [List.mem_cons, List.mem_map, List.mem_range] at hy
      rcases hy with rfl | rfl | ⟨j, hj, rfl⟩
      · exact Nat.lt_of_lt_of_le (Nat.lt_succ_self _) hsz2
      · exact Nat.lt_of_lt_of_le hxlt (Nat.le_of_succ_le hsz2)
      · exact Nat.lt_of_lt_of_le (hTlt j hj) (Nat.le_of_succ_le hsz2)
    · intro hm
      refine xEA pf1.lim fun _ hn _ => ?_
      exact absurd hn.lt (by rw [List.mem_singleton.mp hm]; exact Nat.lt_irrefl _)
    · intro href hhref
      refine ⟨fun A' E' i va vb s₂ m₂ _ _ _ _ _ _ => wpAny_pure ⟨rfl, _, _, rfl, fun _ _ e => e⟩, fun A' E' i va vb s₂ m₂ hA hP _ ns2 e1 e2 hk => ?_⟩
      have hv := hP.2
      obtain ⟨rfl, rfl⟩ : va = .str (a i) (ta i) ∧ vb = .str (b i) (tb i) := by
        have := congrArg Array.toList hv
        simpa using this
      refine gen_elt (env := genEnv gsc [] h₃.objs.size (.ref c') builtinsNs (callEnv fd s.heap.objs.size 132)) hl2 g2 (by show gsc.names.lookup _ = _; rw [g3]; rfl) (by show gsc.names.lookup _ = _; rw [g3]; rfl) (by show gsc.names.lookup _ = _; rw [g3]; rfl) hgl ?_ ⟨te, he⟩ ns2 e1 e2 (by have := hlen i hP.1; lia)
      refine xEEEA M₃.ns fun o es ep eo r => ?_
      refine ⟨o, es, ep, hk mainGlobals (List.mem_range.mpr hglo) ?_ o (hhref _ _ eo), r⟩
      intro hm
      refine xEEEA BM1.ns fun o' _ _ eo' _ => ?_
      exact absurd (Heap.lt_size eo') (by rw [List.mem_singleton.mp hm]; exact Nat.lt_irrefl _)
    · intro aG h₅ tk gs hgb hag hsz₅ hk₅ W hat
      have pass : passing (fun _ => true) its.size 0 = List.range its.size := by unfold passing; simp
      refine wpAny_items_nil (wpAny_bind (wpAny_standAt ?_))
      refine wpAny_bind (wpAny_pure (a := Keeper.machine) (wpAny_bind ?_))
      refine SC.joinGen (P := fun j y => ∃ i, (passing (fun _ => true) its.size 0)[j]? = some i ∧ ∃ u, y = .str (Txt.join "" [a i, b i]) u) W.in4_2 (fun i s' st => st.1.typeIs) hat ?_ List.mem_cons_self (fun j v hv => xE hv fun i h => xAE h fun _ u e => ⟨_, u, e⟩) (fun s' lt hm hacc => ?_) (by rw [pass, List.length_range, sizeLine]; lia)
      · intro y hy
        show y < h₅.objs.size
        rw [hsz₅]
        rcases List.mem_cons.mp hy with rfl | hy
        · exact Nat.lt_succ_self _
        · rcases List.mem_cons.mp hy with rfl | hy
          · exact Nat.lt_succ_of_lt hag
          · exact Nat.lt_succ_of_lt (Nat.lt_trans (List.mem_range.mp hy) hag)
      · have hle : lt.map (·.1) = (List.range its.size).map fun j => Txt.join "" [a j, b j] := by
          apply List.ext_getElem?
          intro j
          have hsz : lt.length = its.size := by have := hacc.1; rw [pass] at this; simpa [strValues] using this
          by_cases hj : j < its.size
          · have hj' : j < lt.length := hsz ▸ hj
            obtain ⟨i, hi, u, hv⟩ := hacc.2 j (.str lt[j].1 lt[j].2) (by simp [strValues, List.getElem?_eq_getElem hj'])
            rw [pass] at hi
            have : i = j := by simp [hj] at hi; exact hi.symm
            subst this
            injection hv with h1 _
            simp [List.getElem?_eq_getElem hj', hj, h1]
          · rw [List.getElem?_eq_none (by simpa [hsz] using Nat.le_of_not_lt hj), List.getElem?_eq_none (by simpa using Nat.le_of_not_lt hj)]
        rw [hle]
        refine ⟨joinOk_of ?_, fun t' k' => ?_⟩
        · have e0 : (Str.ofString "").length = 0 := rfl
          rw [e0, Nat.mul_zero, Nat.add_zero]
          have hb : (((List.range its.size).map fun j => Txt.join "" [a j, b j]).map (·.length)).sum ≤ 1000 * its.size := by
            rw [List.map_map]
            have := sum_le_const (l := List.range its.size) (f := (fun y : Str => y.length) ∘ fun j => Txt.join "" [a j, b j]) (c := 1000) (fun j hj => by
              have h1 := hlen j (List.mem_range.mp hj)
              have h2 := StrLaws.join_length_le "" [a j, b j]
              simp only [List.map_cons, List.map_nil, List.sum_cons, List.sum_nil, e0, Nat.mul_zero, Nat.add_zero] at h2
              exact Nat.le_trans h2 h1)
            rwa [List.length_range] at this
          lia
        · refine wpAny_bind (wpAny_holding (wpAny_point (wpAny_pure ?_)))
          intro htk
          refine hq _ _ ⟨fun y o hy e => ?_, ?_, ?_, ?_, htk⟩
          · have e1 := kp y o e
            have e3 := kx y o hy e1
            refine hm.heap y o (fun hmem => ?_) (hk₅ y o e3)
            rcases List.mem_cons.mp hmem with rfl | hmem
            · exact absurd (Heap.lt_size e3) (Nat.lt_irrefl _)
            · exact absurd (Heap.lt_size e1) (by rw [List.mem_singleton.mp hmem]; exact Nat.lt_irrefl _)
          · refine ⟨_, hm.heap 127 _ (fun hmem => ?_) (hk₅ 127 _ htab₃.2)⟩
            rcases List.mem_cons.mp hmem with e | hmem
            · exact absurd h127 (by rw [show (127 : Addr) = h₃.objs.size from e]; exact Nat.not_lt.mpr (Nat.le_of_succ_le hsz2))
            · exact absurd h127 (by rw [List.mem_singleton.mp hmem]; exact Nat.lt_irrefl _)
          · exact fun hb => (AllBare.push hb hgb).moved hm.gens
          · exact hm.os
end
end Mine

namespace Mine
open PySem PySem.W PyProof.Rows PySem.SeqAt
section
variable {g : Gl} {A : Around} {E : Value → Shared → Prop} {s : Shared} {x dx : Addr} {its : Array Value} {Q : Value → Shared → Prop}
theorem str_pile (pf : PF g s.heap) (bm : ∃ bm ob, BMod s.heap mainGlobals g.mg bm ob) (htab : s.heap.get? 127 = some { cls := .none, data := .fields #[] }) (hh : A.handled = none) (hd : A.depth < 900) (hu : A.units < 9000) (P : PileAt s.heap x dx its) (Ts : Nat → Addr) (a b : Nat → Str) (ta tb : Nat → Tok)
   (hit : ∀ j, j < its.size → its[j]? = some (.ref (Ts j))) (htup : ∀ j, j < its.size → s.heap.IsTuple (Ts j) #[.str (a j) (ta j), .str (b j) (tb j)]) (hsz : its.size ≤ 1000) (hlen : ∀ j, j < its.size → (a j).length + (b j).length ≤ 1000)
   (hq : ∀ s' t, KpT s s' → Q (.str (Txt.join "" ((List.range its.size).map fun j => Txt.join "" [a j, b j])) t) s') : wpAny (model g.prog g.w) A (call (.type "str") [.ref x]) Q E s := by
  refine xEEE P.inst fun n sl od I => ?_
  refine kso_call (K := KK g.w.params) (f := 132) (by show A.units + 1 + 1 < cLine; rw [cLine]; lia) pf.K I (acc_str _) (by rw [isFn, acc_fn _ _ (by decide)]; rfl) ?_
  exact call_str pf bm htab hh hd P Ts a b ta tb hit htup hsz hlen fun s' t k => hq s' t k
end
end Mine

namespace Mine
open PySem PySem.W PyProof.Rows PySem.SeqAt
section
variable {g : Gl} {defs : List Fd} {d : Nat} {g0 : Gd} {Fg : Fz} {env : Env} {ρ : Rho} {ω : Omg} {F F' : Fz} {s s' : Shared}
/-- a step that changes one own object, and may freeze new ones -/
theorem Fs.moveB {a : Addr} {o : Obj} {ω' : Omg} (x : Fs g defs g0 Fg env ρ ω F s) (ho : s.heap.get? a = some o) (hd : ∃ xs n, o.data = .seq xs n) (hF : F a = none) (hn : g0.G a = none) (kb : KpB a s s') (le : Le F F') (hsub : Sub F' s'.heap)
    (nw : ∀ b o, F' b = some o → F b = some o ∨ s.heap.get? b = none) (hw : ∃ ad, OwnOk F' g0 env ω' s'.heap ad) : Fs g defs g0 Fg env ρ ω' F' s' := by
  (refine xEE hd ?_; clear hd; intro xs n hd)
  have hL : env.locals ≠ a := by
    rintro rfl
    (refine xEA x.ok.loc fun m qq0 _ => ?_; refine xEEEAA qq0 ?_; clear qq0; intro o' es ep ho' hd' _)
    rw [ho] at ho'; (injection ho' with ho'; subst ho')
    rw [hd] at hd'; injection hd'
  have hc : ∀ c v, s.heap.IsCell c v → c ≠ a := by
    intro c v hh e0; subst e0; refine xEA hh ?_; clear hh; intro o' ho' hd'
    rw [ho] at ho'; (injection ho' with ho'; subst ho')
    rw [hd] at hd'; injection hd'
  have cell : ∀ c v, s.heap.IsCell c v → s'.heap.IsCell c v := fun c v h => xEA h fun o' ho' hd' => ⟨o', kb.kp c o' (hc c v h) ho', hd'⟩
  have nsL : ∀ m, s.heap.Ns env.locals m → s'.heap.Ns env.locals m := fun m h => xEEEA h fun o es ep e r => ⟨o, es, ep, kb.kp _ o hL e, r⟩
  have nn : ∀ b o, s.heap.get? b = some o → F b = none → F' b = none := fun b o e h => by
    cases q : F' b with
    | none => rfl
    | some o' =>
      rcases nw b o' q with h' | h'
      · rw [h] at h'; injection h'
      · rw [e] at h'; injection h'
  have tk := kb.tk
  refine ⟨⟨⟨x.ok.pg.mono le, hsub, by have := x.ok.tk; lia⟩, x.ok.kind, x.ok.gl, x.ok.bi, ?_, ?_, ?_, ?_⟩, ?_, x.ln, x.cn, x.inj, hw⟩
  · refine xEA x.ok.loc fun m hm hv => ?_
    exact ⟨m, nsL m hm, fun y V e k => xEA (hv y V e k) fun v e1 e2 => ⟨v, e1, e2.mono le⟩⟩
  · intro y V e k
    refine xEEAA (x.ok.cel y V e k) fun c v h1 h2 h3 => ?_
    exact ⟨c, v, h1, cell c _ h2, h3.mono le⟩
  · (refine xEA x.ok.loc fun m qq1 _ => ?_; refine xEEEA qq1 ?_; clear qq1; intro o' _ _ ho' _)
    exact nn _ _ ho' x.ok.fl
  · intro y c e
    refine xAE (x.ok.fc y c e) fun h1 v h2 => ?_
    exact ⟨xEA h2 fun o' ho' _ => nn _ _ ho' h1, v, cell c _ h2⟩
  · refine ⟨?_, x.mv.up.trans le, hsub, fun b o' e => ?_, fun b o' e => kb.kp b o' (by rintro rfl; rw [hn] at e; injection e) (x.mv.kp b o' e), Nat.le_trans x.mv.tk tk⟩
    · exact x.mv.eq.trans ⟨kb.os, fun h => by rw [kb.gens]; exact h⟩
    · rcases nw b o' e with h | h
      · exact x.mv.new b o' h
      · refine .inr ?_
        cases q : g0.G b with
        | none => rfl
        | some o'' => rw [x.mv.kp b o'' q] at h; injection h

theorem OwnOk.moveB {ad : Str → Addr} {n : Str} {ov ov' : OwnV} (W : OwnOk F g0 env ω s.heap ad) (x : Fs g defs g0 Fg env ρ ω F s) (hn : ω n = some ov) (kb : KpB (ad n) s s') (le : Le F F')
    (nw : ∀ b o, F' b = some o → F b = some o ∨ s.heap.get? b = none) (ho : OwnObj env.locals g0.G F' s'.heap (ad n) ov') : OwnOk F' g0 env (ownTo ω n ov') s'.heap ad := by
  refine xEEEA ((W.obj n ov hn).seq) fun o0 xs0 k0 e0 hd0 => ?_
  have f : ∀ z oz, ownTo ω n ov' z = some oz → ∃ oz', ω z = some oz' := fun z oz ez => by
    by_cases q : z = n
    · exact ⟨ov, q ▸ hn⟩
    · simp only [ownTo, if_neg q] at ez; exact ⟨oz, ez⟩
  have nsK : ∀ b m, s.heap.Ns b m → s'.heap.Ns b m := fun b m h => by
    (refine xEEEAA h ?_; clear h; intro o es ep e hd r)
    refine ⟨o, es, ep, kb.kp b o ?_ e, hd, r⟩
    rintro rfl
    rw [e0] at e; (injection e with e; subst e)
    rw [hd0] at hd; injection hd
  refine ⟨fun z oz ez => ?_, fun z oz ez => ?_, fun z oz ez => ?_, fun z oz ez => ?_, fun z z' oz oz' ez ez' h => ?_⟩
  · refine xE (f z oz ez) fun oz' hz => ?_
    rcases W.look z oz' hz with ⟨a, m, hm, e⟩ | ⟨a, c, hc, o, e1, e2⟩
    · exact .inl ⟨a, m, nsK _ m hm, e⟩
    · refine .inr ⟨a, c, hc, o, kb.kp c o ?_ e1, e2⟩
      rintro rfl
      rw [e0] at e1; (injection e1 with e1; subst e1)
      rw [hd0] at e2; injection e2
  · refine xE (f z oz ez) fun oz' hz => ?_
    refine xEEEA ((W.obj z oz' hz).seq) fun o _ _ e _ => ?_
    cases q : F' (ad z) with
    | none => rfl
    | some o' =>
      rcases nw _ o' q with h' | h'
      · rw [W.fz z oz' hz] at h'; injection h'
      · rw [e] at h'; injection h'
  · refine xE (f z oz ez) fun oz' hz => ?_; exact W.new z oz' hz
  · by_cases q : z = n
    · subst q
      simp only [ownTo, if_pos] at ez; (injection ez with ez; subst ez)
      exact ho
    · simp only [ownTo, if_neg q] at ez
      have hne : ad z ≠ ad n := fun h => q (W.inj z n oz ov ez hn h)
      have w := W.obj z oz ez
      cases oz with
      | lst l => (refine xEEA w ?_; clear w; intro xs k e r); exact ⟨xs, k, kb.kp _ _ hne e, r.mono le⟩
      | acc C l =>
        (refine xEEEEAA w ?_; clear w; intro xs k dx sl e r qr0; refine xAA qr0 ?_; clear qr0; intro h1 h2 qr1; refine xEA qr1 ?_; clear qr1; intro m hm mm)
        exact ⟨xs, k, dx, sl, kb.kp _ _ hne e, r.mono le, h1, h2, m, nsK dx m hm, mm⟩
  · refine xE (f z oz ez) fun _ hz => ?_
    refine xE (f z' oz' ez') fun _ hz' => ?_
    exact W.inj z z' _ _ hz hz' h

/-- what the program is, apart from any state -/
structure GlP (g : Gl) : Prop where
  kk : g.kk = KK g.w.params
  file : ((g.prog.main.file : Str) == ("/claim/cut.py" : Str)) = true
  top : (g.prog.main.scope.names.lookup ("super" : Str)).isSome = false
  sup : g.mg "super" = none
  emp : ∃ t, g.mg "EMPTYSTRING" = some (.str "" t)
  acc : g.mg "_Accumulator" = some (.ref 158)
theorem GlP.pf (G : GlP g) (bs : Bs g defs F s) : PF g s.heap :=
  ⟨fun a o e => bs.sub a o (bs.pg.kin a o (by rw [G.kk]; exact e)), bs.pg.gl.ns bs.sub, bs.pg.bl.ns bs.sub, bs.pg.bi, bs.lim, G.file, G.top, G.sup, G.emp⟩

theorem pile_at {a : Addr} {l : List V} {L : Addr} {G : Fz} (w : OwnObj L G F s.heap a (.acc 158 l)) : ∃ its dx, PileAt s.heap a dx its ∧ RdL F its.toList l ∧ dx ≠ L ∧ G dx = none := by
  (refine xEEEEAA w ?_; clear w; intro xs n dx sl e r qr2; refine xAA qr2 ?_; clear qr2; intro h1 h2 qr3; refine xEA qr3 ?_; clear qr3; intro m hm mm)
  exact ⟨xs, dx, ⟨⟨n, sl, e⟩, m, hm, mm⟩, r, h1, h2⟩
theorem own_pile {a dx : Addr} {its : Array Value} {l : List V} {L : Addr} {G : Fz} (P : PileAt s.heap a dx its) (r : RdL F its.toList l) (h1 : dx ≠ L) (h2 : G dx = none) : OwnObj L G F s.heap a (.acc 158 l) := by
  refine xEE P.obj fun n sl e => ?_
  refine xEA P.dict fun m hm mm => ?_
  exact ⟨its, n, dx, sl, e, r, h1, h2, m, hm, mm⟩

/-- pile = _Accumulator() -/
theorem Ex.pileNew (G : GlP g) {n : Str} {p p1 p2 pos : Pos} (hd : 100 ≤ d) (hk : env.kindOf n = some .local ∨ (env.kindOf n = some .cell ∧ (env.cells.lookup n).isSome = true)) (hkA : env.kindOf "_Accumulator" = some .globalImplicit) :
    Ex g defs d env ρ ω (.Assign [.Name n p] (.Call (.Name "_Accumulator" p1) [] [] p2) pos) (.nx (updO ρ n Option.none) (ownTo ω n (.acc 158 []))) := fun A E g0 Fg F s rm y => by
  have pf := G.pf y.ok.toBs
  refine wpAny_Assign_Name (Call_Name rfl (ev_global y.ok G.acc ?_ hkA (by decide))) rfl
  show wpAny _ A (callWith p2 (.ref 158) [] [] []) _ _ _
  unfold callWith
  refine wpAny_bind (wpAny_holding (evalArgs_nil3 (wpAny_bind (wpAny_standAt ?_))))
  have hkp : Looks (model g.prog g.w) s.heap (keeperOf (.ref 158)) .machine := Looks.of_peek pf.K (by kernel_rfl)
  refine wpAny_bind (hkp.here (wpAny_bind ?_))
  refine make_pile pf (by have := rm.dp; lia) fun s' x dx kp hx hdx P => ?_
  refine wpAny_bind (wpAny_holding (wpAny_point (wpAny_pure ?_)))
  have m : Mv F s F s' := ⟨⟨kp.os, fun h => by rw [kp.gens]; exact h⟩, Le.rfl, fun b o e => kp.kp b o (y.ok.sub b o e), fun _ _ e => .inl e, kp.kp, kp.tk⟩
  have fnone : ∀ b, s.heap.get? b = none → F b = none := fun b h => by
    cases q : F b with
    | none => rfl
    | some o => rw [y.ok.sub b o q] at h; injection h
  have gnone : ∀ b, s.heap.get? b = none → g0.G b = none := fun b h => by
    cases q : g0.G b with
    | none => rfl
    | some o => rw [y.mv.kp b o q] at h; injection h
  refine wpAny_mono (y.bindOwn m (B := [x, dx]) (ov := .acc 158 []) hk List.mem_cons_self (fun b hb => ?_) fun h' kk => ?_) (fun _ s' h => ⟨rfl, F, h⟩) fun _ _ h => h
  · simp only [List.mem_cons, List.not_mem_nil, or_false] at hb
    rcases hb with rfl | rfl
    · exact ⟨hx, fnone _ hx, xEE P.obj fun _ _ e => ⟨_, e⟩⟩
    · exact ⟨hdx, fnone _ hdx, xEA P.dict fun _ h _ => xEEEA h fun o _ _ e _ => ⟨o, e⟩⟩
  · refine xEE P.obj fun k sl e => ?_
    (refine xEA P.dict fun m' qq2 mm => ?_; refine xEEEA qq2 ?_; clear qq2; intro o es ep e' r)
    refine ⟨#[], k, dx, sl, kk x List.mem_cons_self _ e, .nil, ?_, gnone _ hdx, m', ⟨o, es, ep, kk dx (by simp) o e', r⟩, mm⟩
    rintro rfl
    (refine xEA y.ok.loc fun m2 qq3 _ => ?_; refine xEEEA qq3 ?_; clear qq3; intro o2 _ _ e2 _)
    rw [hdx] at e2; injection e2

/-- if pile.push(..) is not None: .. -/
theorem Ex.push (G : GlP g) {n : Str} {p1 p2 p3 p4 p5 p6 : Pos} {k : Nat} {e1 e2 : Expr} {x1 x2 : V} {l : List V} {body : List Stmt} (hd : 100 ≤ d) (hω : ω n = some (.acc 158 l)) (h : EvL g defs d env ρ [e1, e2] [x1, x2]) (hlen : l.length ≤ 1000)
    (hdb : (n == ("__debug__" : Str)) = false) (hl : (p2.endLine == p3.line) = true) :
    Ex g defs d env ρ ω (.If (.Compare (.Call (.Attribute (.Name n p1) "push" p2) [e1, e2] [] p3) [.IsNot] [.Constant .none k p4] p5) body [] p6) (.nx ρ (ownTo ω n (.acc 158 (l ++ [.tup [x1, x2]])))) := fun A E g0 Fg F s rm y => by
  refine wpAny_If (wpAny_isTrue_Compare1 (Call_method rfl hl h.stars (by show 2 < 30; decide) ?_) rfl)
  refine xE y.own fun ad W => ?_
  refine look_name y.ok.kind (W.look n _ hω) ?_ hdb
  refine xEEAAA (pile_at (W.obj n _ hω)) fun its dx P r hdL hdG => ?_
  have pf := G.pf y.ok.toBs
  refine P.getMethod pf.K (acc_push _) (acc_fn _ _ (by decide)) (by decide) (by decide) ?_
  obtain ⟨fd, -, -, -, -, -, -, -, -, -, hf, -⟩ := fn102
  refine xEEE (hf g.w.params) fun oc od' osl hf => ?_
  refine Calls.callWith_function (first := [.ref (ad n)]) (o := _) (evalArgs_all h rm y.ok fun vs s₁ F₁ m r₁ => ⟨⟨m.kp _ _ (pf.K _ _ hf), rfl⟩, ?_⟩)
  have pf1 := pf.keeps m.kp
  have P1 := P.keeps m.kp
  have y1 := y.mv' m
  have W1 : OwnOk F₁ g0 env ω s₁.heap ad := ⟨fun z ov e => (W.look z ov e).keeps m.kp, fun z ov e => by
    refine xEEEA ((W.obj z ov e).seq) fun o _ _ ho _ => ?_
    exact m.new_none ho (W.fz z ov e), W.new, fun z ov e => (W.obj z ov e).keeps m.up m.kp, W.inj⟩
  have hsz : its.size ≤ 1000 := by have := r.length; simp only [Array.length_toList] at this; lia
  refine RdL.conse r₁ fun v1 _ ra r₁ => ?_
  refine RdL.conse r₁ fun v2 _ rb r₁ => ?_
  (first | refine Rd.ie r₁ fun _ => ?_ | refine Rd.se r₁ fun _ => ?_ | refine Rd.fe r₁ fun _ _ => ?_ | refine Rd.be r₁ fun _ => ?_ | refine Rd.ne r₁ ?_ | refine RdL.nile r₁ ?_ | cases r₁)
  refine call_push pf1 (by have := rm.dp; lia) P1 hsz fun s' a kb ha hat P' => ?_
  have hF1 : F₁ a = none := by
    cases q : F₁ a with
    | none => rfl
    | some o => rw [m.sub a o q] at ha; injection ha
  have le : Le F₁ (Mine.put F₁ a { cls := .type "tuple", data := .seq #[v1, v2] }) := put_le (.inl hF1)
  have at_ : ∀ b, b ≠ a → Mine.put F₁ a { cls := .type "tuple", data := .seq #[v1, v2] } b = F₁ b := fun b hb => if_neg hb
  have nw : ∀ b o, Mine.put F₁ a { cls := .type "tuple", data := .seq #[v1, v2] } b = some o → F₁ b = some o ∨ s₁.heap.get? b = none := fun b o e => by
    by_cases hb : b = a
    · exact .inr (hb ▸ ha)
    · rw [at_ b hb] at e; exact .inl e
  refine xEEEA ((W1.obj n _ hω).seq) fun o0 xs0 k0 e0 hd0 => ?_
  have hsub : Sub (Mine.put F₁ a { cls := .type "tuple", data := .seq #[v1, v2] }) s'.heap := fun b o e => by
    by_cases hb : b = a
    · subst hb; simp only [Mine.put, if_pos] at e; (injection e with e; subst e); exact hat
    · rw [at_ b hb] at e
      exact kb.kp b o (by rintro rfl; rw [W1.fz n _ hω] at e; injection e) (m.sub b o e)
  have own' : OwnObj env.locals g0.G (Mine.put F₁ a { cls := .type "tuple", data := .seq #[v1, v2] }) s'.heap (ad n) (.acc 158 (l ++ [.tup [x1, x2]])) := by
    refine own_pile P' ?_ hdL hdG
    rw [Array.toList_push]
    exact RdL.snoc ((r.mono m.up).mono le) (.tup (put_self _ _ _) rfl rfl (.cons (ra.mono le) (.cons (rb.mono le) .nil)))
  have z := y1.moveB (ω' := ownTo ω n (.acc 158 (l ++ [.tup [x1, x2]]))) e0 ⟨xs0, k0, hd0⟩ (W1.fz n _ hω) (W1.new n _ hω) kb le hsub nw ⟨ad, W1.moveB y1 hω kb le nw own'⟩
  refine wpAny_Constant_none (wpAny_isNot_self rfl (wpAny_truthy_bool ?_))
  rw [if_neg (by decide)]
  exact wpAny_execs_nil ⟨rfl, _, z⟩

/-- a told value unpacked into its targets -/
theorem assign_tgt {A : Around} {E : Value → Shared → Prop} {t : Expr} {x : V} {v : Value} {ρ' : Rho} (hh : A.handled = none) (y : Fs g defs g0 Fg env ρ ω F s) (r : Rd F v x) (hb : bindT t x ρ = some ρ')
    (hk : ∀ n ∈ tgtNames t, (env.kindOf n = some .local ∨ (env.kindOf n = some .cell ∧ (env.cells.lookup n).isSome = true)) ∧ ω n = none) :
    wpAny (model g.prog g.w) A (PySem.assign t env v) (fun _ s' => Fs g defs g0 Fg env ρ' ω F s') E s := by
  refine bind_tgt (I := fun r t => Fs g defs g0 Fg env r ω F t) (okn := fun n => (env.kindOf n = some .local ∨ (env.kindOf n = some .cell ∧ (env.cells.lookup n).isSome = true)) ∧ ω n = none)
    (fun n v y r t E ok hI hr => wpAny_mono (hI.store ok.1 hr) (fun _ t' ht => ?_) fun _ _ h => h) (fun r t h' hI kk => hI.mv' (Mv.keep hI.ok.sub kk (Nat.le_refl _))) (fun r t hI => hI.ok.sub) hh hk hb r y
  have : era ω n = ω := by
    funext z
    simp only [era]
    split
    · rename_i e; rw [e]; exact ok.2.symm
    · rfl
  rw [← this]; exact ht

noncomputable def popV (l : List V) : V × List V := match l.getLast? with
  | Option.none => (.tup [.str "", .str ""], [])
  | some v => (v, l.dropLast)

theorem RdL.dropLast {F : Fz} {vs : List Value} {l : List V} (r : RdL F vs l) : RdL F vs.dropLast l.dropLast := by
  rw [List.dropLast_eq_take, List.dropLast_eq_take, r.length]; exact r.take _
theorem RdL.last {F : Fz} {vs : List Value} {l : List V} (r : RdL F vs l) (v : Value) (e : vs.getLast? = some v) : ∃ x, l.getLast? = some x ∧ Rd F v x := by
  rw [List.getLast?_eq_getElem?] at e ⊢
  rw [← r.length]; exact r.get' e

/-- blanks, sign = pile.pop() -/
theorem Ex.pop (G : GlP g) {n : Str} {p1 p2 p3 pos tp : Pos} {k : Nat} {elts : List Expr} {l : List V} {ρ' : Rho} (hd : 110 ≤ d) (hω : ω n = some (.acc 158 l)) (hlen : l.length ≤ 1000) (hdb : (n == ("__debug__" : Str)) = false) (hl : (p2.endLine == p3.line) = true)
    (hb : bindT (.Tuple elts k tp) (popV l).1 ρ = some ρ') (hk : ∀ m ∈ tgtNames (.Tuple elts k tp), (env.kindOf m = some .local ∨ (env.kindOf m = some .cell ∧ (env.cells.lookup m).isSome = true)) ∧ ω m = none)
    (hs : swapsWithSole [.Tuple elts k tp] (.Call (.Attribute (.Name n p1) "pop" p2) [] [] p3) pos.line env = pure false) (hw : swappedStores [.Tuple elts k tp] (.Call (.Attribute (.Name n p1) "pop" p2) [] [] p3) env = pure Option.none) :
    Ex g defs d env ρ ω (.Assign [.Tuple elts k tp] (.Call (.Attribute (.Name n p1) "pop" p2) [] [] p3) pos) (.nx ρ' (ownTo ω n (.acc 158 (popV l).2))) := fun A E g0 Fg F s rm y => by
  have hkn : ∀ ov m, m ∈ tgtNames (.Tuple elts k tp) → (env.kindOf m = some .local ∨ (env.kindOf m = some .cell ∧ (env.cells.lookup m).isSome = true)) ∧ ownTo ω n ov m = none := fun ov m hm => ⟨(hk m hm).1, by
    simp only [ownTo]
    split
    · rename_i e; have := (hk m hm).2; rw [e, hω] at this; injection this
    · exact (hk m hm).2⟩
  refine PyProof.Rows.Assign_Tuple (Call_method rfl hl rfl (by show 0 < 30; decide) ?_) hs hw
  refine xE y.own fun ad W => ?_
  refine look_name y.ok.kind (W.look n _ hω) ?_ hdb
  refine xEEAAA (pile_at (W.obj n _ hω)) fun its dx P r hdL hdG => ?_
  have pf := G.pf y.ok.toBs
  refine P.getMethod pf.K (acc_pop _) (acc_fn _ _ (by decide)) (by decide) (by decide) ?_
  obtain ⟨fd, -, -, -, -, -, -, -, -, -, -, -, -, -, -, -, -, -, -, -, S, -⟩ := fn118
  refine xEEE (S.at_ g.w.params) fun oc od' osl hf => ?_
  show wpAny _ A (callWith p3 (.ref 118) [.ref (ad n)] [] []) _ _ _
  have hsz : its.size = l.length := by have := r.length; simpa using this
  refine xEEEA ((W.obj n _ hω).seq) fun o0 xs0 k0 e0 hd0 => ?_
  refine Calls.callWith_function (o := _) (evalArgs_nil3 ⟨⟨pf.K _ _ hf, rfl⟩, ?_⟩)
  refine call_pop pf (by have := rm.dp; lia) P (by lia) (fun h0 s' a t1 t2 kp ha hat => ?_) (fun v hv s' kb P' => ?_)
  · have hl0 : l = [] := List.length_eq_zero_iff.mp (by lia)
    subst hl0
    have hF1 : F a = none := by
      cases q : F a with
      | none => rfl
      | some o => rw [y.ok.sub a o q] at ha; injection ha
    have le : Le F (Mine.put F a { cls := .type "tuple", data := .seq #[.str "" t1, .str "" t2] }) := put_le (.inl hF1)
    have at_ : ∀ b, b ≠ a → Mine.put F a { cls := .type "tuple", data := .seq #[.str "" t1, .str "" t2] } b = F b := fun b hb => if_neg hb
    have m : Mv F s (Mine.put F a { cls := .type "tuple", data := .seq #[.str "" t1, .str "" t2] }) s' := ⟨⟨kp.os, fun h => by rw [kp.gens]; exact h⟩, le, fun b o e => by
      by_cases hb : b = a
      · subst hb; simp only [Mine.put, if_pos] at e; (injection e with e; subst e); exact hat
      · rw [at_ b hb] at e; exact kp.kp b o (y.ok.sub b o e), fun b o e => by
      by_cases hb : b = a
      · exact .inr (hb ▸ ha)
      · rw [at_ b hb] at e; exact .inl e, kp.kp, kp.tk⟩
    have hω' : ownTo ω n (.acc 158 (popV []).2) = ω := by
      funext z
      simp only [ownTo]
      split
      · rename_i e; rw [e, hω]; rfl
      · rfl
    rw [hω']
    exact wpAny_mono (assign_tgt rm.hd (y.mv' m) (.tup (put_self _ _ _) rfl rfl (.cons .str (.cons .str .nil))) hb hk) (fun _ t h => ⟨rfl, _, h⟩) fun _ _ h => h
  · have hlast : its.toList.getLast? = some v := by
      rw [List.getLast?_eq_getElem?, Array.length_toList, Array.getElem?_toList]; exact hv
    refine xEA (RdL.last r v hlast) fun x hx rx => ?_
    have hpv : popV l = (x, l.dropLast) := by unfold popV; rw [hx]
    rw [hpv] at hb ⊢
    have own' : OwnObj env.locals g0.G F s'.heap (ad n) (.acc 158 l.dropLast) := own_pile P' (by rw [Array.toList_pop]; exact RdL.dropLast r) hdL hdG
    have z := y.moveB (ω' := ownTo ω n (.acc 158 l.dropLast)) (F' := F) e0 ⟨xs0, k0, hd0⟩ (W.fz n _ hω) (W.new n _ hω) kb Le.rfl (fun b o e => kb.kp b o (by rintro rfl; rw [W.fz n _ hω] at e; injection e) (y.ok.sub b o e)) (fun _ _ e => .inl e) ⟨ad, W.moveB y hω kb Le.rfl (fun _ _ e => .inl e) own'⟩
    exact wpAny_mono (assign_tgt rm.hd z rx hb (hkn _)) (fun _ t h => ⟨rfl, _, h⟩) fun _ _ h => h
end
end Mine

namespace Mine
open PySem PySem.W PyProof.Rows PySem.SeqAt
noncomputable abbrev tab0 : Obj := { cls := .none, data := .fields #[] }
noncomputable def tabG (g0 : Gd) (o : Option Obj) : Gd := ⟨g0.sh, fun b => if b = 127 then o else g0.G b⟩
section
variable {g : Gl} {defs : List Fd} {d : Nat} {g0 : Gd} {Fg : Fz} {env : Env} {ρ : Rho} {ω : Omg} {F F' : Fz} {s s' : Shared}
theorem ne127 {h : Heap} {b : Addr} {o : Obj} (ht : h.get? 127 = some tab0) (e : h.get? b = some o) (hd : ∀ vs, o.data ≠ .fields vs) : b ≠ 127 := by
  rintro rfl
  rw [ht] at e; (injection e with e; subst e)
  exact hd _ rfl
/-- the table has grown -/
theorem Fs.tab (x : Fs g defs g0 Fg env ρ ω F s) (hF : F 127 = none) (ht : s.heap.get? 127 = some tab0) (k : KpT s s') : Fs g defs (tabG g0 (s'.heap.get? 127)) Fg env ρ ω F s' := by
  have G : ∀ b, b ≠ 127 → (tabG g0 (s'.heap.get? 127)).G b = g0.G b := fun b hb => if_neg hb
  have ns : ∀ b m, s.heap.Ns b m → b ≠ 127 ∧ s'.heap.Ns b m := fun b m h => by
    (refine xEEEAA h ?_; clear h; intro o es ep e hd r)
    have hb := ne127 ht e (fun vs q => by rw [hd] at q; injection q)
    exact ⟨hb, o, es, ep, k.kp b o hb e, hd, r⟩
  have cell : ∀ c v, s.heap.IsCell c v → c ≠ 127 ∧ s'.heap.IsCell c v := fun c v h => by
    (refine xEA h ?_; clear h; intro o e hd)
    have hb := ne127 ht e (fun vs q => by rw [hd] at q; injection q)
    exact ⟨hb, o, k.kp c o hb e, hd⟩
  have hsub : Sub F s'.heap := fun b o e => k.kp b o (by rintro rfl; rw [hF] at e; injection e) (x.ok.sub b o e)
  have tk := k.tk
  refine xE x.own fun ad W => ?_
  have own : ∀ z ov, ω z = some ov → ad z ≠ 127 := fun z ov e => by
    refine xEEEA ((W.obj z ov e).seq) fun o xs n e1 hd => ?_
    exact ne127 ht e1 (fun vs q => by rw [hd] at q; injection q)
  refine ⟨⟨⟨x.ok.pg, hsub, by have := x.ok.tk; omega⟩, x.ok.kind, x.ok.gl, x.ok.bi, ?_, ?_, x.ok.fl, ?_⟩, ⟨x.mv.eq.trans ⟨k.os, k.gens⟩, x.mv.up, hsub, fun b o e => ?_, fun b o e => ?_, Nat.le_trans x.mv.tk tk⟩, ?_, ?_, x.inj, ad, ?_⟩
  · refine xEA x.ok.loc fun m hm hv => ?_
    exact ⟨m, (ns _ m hm).2, hv⟩
  · intro y V e kk
    refine xEEAA (x.ok.cel y V e kk) fun c v h1 h2 h3 => ?_
    exact ⟨c, v, h1, (cell c _ h2).2, h3⟩
  · intro y c e
    refine xAE (x.ok.fc y c e) fun h1 v h2 => ?_
    exact ⟨h1, v, (cell c _ h2).2⟩
  · rcases x.mv.new b o e with h | h
    · exact .inl h
    · refine .inr ((G b ?_).trans h)
      rintro rfl; rw [hF] at e; injection e
  · by_cases hb : b = 127
    · subst hb; exact e
    · rw [G b hb] at e; exact k.kp b o hb (x.mv.kp b o e)
  · refine xEA x.ok.loc fun m hm _ => ?_
    exact (G _ (ns _ m hm).1).trans x.ln
  · intro y c e
    refine xAE (x.ok.fc y c e) fun _ v h2 => ?_
    exact (G _ (cell c _ h2).1).trans (x.cn y c e)
  · refine ⟨fun z ov e => ?_, W.fz, fun z ov e => (G _ (own z ov e)).trans (W.new z ov e), fun z ov e => ?_, W.inj⟩
    · rcases W.look z ov e with ⟨a, m, hm, e'⟩ | ⟨a, c, hc, e'⟩
      · exact .inl ⟨a, m, (ns _ m hm).2, e'⟩
      · exact .inr ⟨a, c, hc, (cell c _ e').2⟩
    · have w := W.obj z ov e
      cases ov with
      | lst l => (refine xEEA w ?_; clear w; intro xs n e1 r); exact ⟨xs, n, k.kp _ _ (own z _ e) e1, r⟩
      | acc C l =>
        (refine xEEEEAA w ?_; clear w; intro xs n dx sl e1 r qr0; refine xAA qr0 ?_; clear qr0; intro h1 h2 qr1; refine xEA qr1 ?_; clear qr1; intro m hm mm)
        exact ⟨xs, n, dx, sl, k.kp _ _ (own z _ e) e1, r, h1, (G dx (ns dx m hm).1).trans h2, m, (ns dx m hm).2, mm⟩

theorem Rd.pair {F : Fz} {v : Value} {a b : Str} (h : Rd F v (.tup [.str a, .str b])) : ∃ T o nn ta tb, v = .ref T ∧ F T = some o ∧ o.cls = .type "tuple" ∧ o.data = .seq #[.str a ta, .str b tb] nn := by
  refine Rd.te h fun T o xs n e c d rl => ?_
  obtain ⟨xl⟩ := xs
  have rl : RdL F xl [.str a, .str b] := rl
  revert d
  refine RdL.conse rl fun v1 _ ra rl => ?_
  refine RdL.conse rl fun v2 _ rb rl => ?_
  refine RdL.nile rl ?_
  refine Rd.se ra fun ta => ?_
  refine Rd.se rb fun tb d => ?_
  exact ⟨T, o, n, ta, tb, rfl, e, c, d⟩
/-- if asking != higher or str(pile) != ..: .. -/
theorem strIf (G : GlP g) (bm : ∀ h, Sub F h → ∃ bm ob, BMod h mainGlobals g.mg bm ob) {n : Str} {p1 p2 p3 p4 p5 p6 : Pos} {e1 e2 : Expr} {body : List Stmt} {A : Around} {E : Value → Shared → Prop} {ab : List (Str × Str)} (rm : Room d A) (hd : 110 ≤ d) (y : Fs g defs g0 Fg env ρ ω F s)
    (hω : ω n = some (.acc 158 (ab.map fun p => .tup [.str p.1, .str p.2]))) (hlen : ab.length ≤ 1000) (hsz : ∀ p ∈ ab, p.1.length + p.2.length ≤ 1000) (hG : g0.G 127 = some tab0) (hF : Fg 127 = none) (hdb : (n == ("__debug__" : Str)) = false)
    (hstr : g.mg "str" = none) (hks : env.kindOf "str" = some .globalImplicit) (hm : behindInMarks .NotEq e2 = false)
    (h1 : Is g defs d env ρ e1 false) (h2 : Ev g defs d env ρ e2 (.str (Txt.join "" (ab.map fun p => Txt.join "" [p.1, p.2])))) :
    wpAny (model g.prog g.w) A (exec (.If (.BoolOp .Or [e1, .Compare (.Call (.Name "str" p1) [.Name n p2] [] p3) [.NotEq] [e2] p4] p5) body [] p6) env) (fun fl s' => fl = .next ∧ ∃ F' o, Fs g defs (tabG g0 (some o)) Fg env ρ ω F' s' ∧ ∃ more, o = { cls := .none, data := .fields more }) E s := by
  refine wpAny_If (wpAny_isTrue_BoolOp (wpAny_allTrue_Or_cons (wpAny_mono (h1 A E F s rm y.ok) (fun v s₁ hx => ?_) fun _ _ h => h)))
  (refine xAE hx ?_; clear hx; intro qq0 F₁ m₁; subst qq0)
  have y1 := y.mv' m₁
  have hF1 : F₁ 127 = none := by
    cases q : F₁ 127 with
    | none => rfl
    | some o =>
      rcases y1.mv.new 127 o q with h | h
      · rw [hF] at h; injection h
      · rw [hG] at h; injection h
  have ht := y1.mv.kp 127 _ hG
  rw [if_neg (by decide)]
  refine wpAny_allTrue_Or_cons (wpAny_isTrue_Compare1 (Call_Name rfl (ev_builtin (v := .type "str") y1.ok hstr (by decide +kernel) ?_ (by decide) hks (by decide))) hm)
  refine xE y1.own fun ad W => ?_
  have pf := G.pf y1.ok.toBs
  unfold callWith
  refine wpAny_bind (wpAny_holding (Calls.evalArgs_plain ?_))
  refine wpAny_items_cons (e := .Name _ _) (look_name y1.ok.kind (W.look n _ hω) ?_ hdb) rfl
  refine wpAny_items_nil (wpAny_bind (wpAny_standAt ?_))
  refine wpAny_bind (wpAny_pure (a := Keeper.machine) (wpAny_bind ?_))
  obtain ⟨its, dx, P, r, -, -⟩ := pile_at (W.obj n _ hω)
  have hits : its.size = ab.length := by have := r.length; simpa using this
  have items : ∀ j, j < its.size → ∃ T ta tb, its[j]? = some (.ref T) ∧ s₁.heap.IsTuple T #[.str ((ab.getD j ("", "")).1) ta, .str ((ab.getD j ("", "")).2) tb] := fun j hj => by
    refine xEA (RdL.get' r (i := j) (v := its[j]) (by simp [hj])) fun x hx rx => ?_
    have hab : ab[j]? = some (ab.getD j ("", "")) := by
      have : j < ab.length := by omega
      simp [List.getD, this]
    rw [List.getElem?_map, hab] at hx
    simp only [Option.map_some, Option.some.injEq] at hx
    subst hx
    refine xEEEEE rx.pair fun T o nn ta tb qr2 => xAAA qr2 fun hv e c dd => ?_
    exact ⟨T, ta, tb, by rw [← hv]; simp [hj], o, y1.ok.sub _ _ e, c, nn, dd⟩
  let T : Nat → Addr := fun j => if h : j < its.size then (items j h).choose else 0
  let ta : Nat → Tok := fun j => if h : j < its.size then (items j h).choose_spec.choose else 0
  let tb : Nat → Tok := fun j => if h : j < its.size then (items j h).choose_spec.choose_spec.choose else 0
  have hT : ∀ j, j < its.size → its[j]? = some (.ref (T j)) := fun j hj => by
    simp only [T, dif_pos hj]; exact (items j hj).choose_spec.choose_spec.choose_spec.1
  have hU : ∀ j, j < its.size → s₁.heap.IsTuple (T j) #[.str ((ab.getD j ("", "")).1) (ta j), .str ((ab.getD j ("", "")).2) (tb j)] := fun j hj => by
    simp only [T, ta, tb, dif_pos hj]; exact (items j hj).choose_spec.choose_spec.choose_spec.2
  refine str_pile pf (bm s₁.heap fun b o e => y1.ok.sub b o (m₁.up b o e)) ht rm.hd (by have := rm.dp; omega) (by have := rm.un; omega) P T (fun j => (ab.getD j ("", "")).1) (fun j => (ab.getD j ("", "")).2) ta tb hT hU (by omega) (fun j hj => ?_) fun s₂ t k => ?_
  · have hj' : j < ab.length := by omega
    have : ab.getD j ("", "") = ab[j] := by simp [List.getD, hj']
    rw [this]; exact hsz _ (List.getElem_mem hj')
  have hjoin : ((List.range its.size).map fun j => Txt.join "" [(ab.getD j ("", "")).1, (ab.getD j ("", "")).2]) = ab.map fun p => Txt.join "" [p.1, p.2] := by
    apply List.ext_getElem?
    intro j
    by_cases hj : j < ab.length
    · rw [List.getElem?_map, List.getElem?_map, List.getElem?_range (by omega), List.getElem?_eq_getElem hj]
      simp [List.getD, hj]
    · rw [List.getElem?_eq_none (by simp; omega), List.getElem?_eq_none (by simp; omega)]
  rw [hjoin]
  refine wpAny_bind (wpAny_holding (wpAny_point (wpAny_pure ?_)))
  have y2 := y1.tab hF1 ht k
  refine wpAny_mono (h2 A E F₁ s₂ rm y2.ok) (fun v s₃ hx => ?_) fun _ _ h => h
  (refine xEA hx ?_; clear hx; intro F₃ m₃ r₃)
  (first | refine Rd.ie r₃ fun _ => ?_ | refine Rd.se r₃ fun _ => ?_ | refine Rd.fe r₃ fun _ _ => ?_ | refine Rd.be r₃ fun _ => ?_ | refine Rd.ne r₃ ?_ | refine RdL.nile r₃ ?_ | cases r₃)
  have y3 := y2.mv' m₃
  refine xE k.tab fun more hmore => ?_
  refine wpAny_mono (PyProof.Rows.ne_str (Q := fun v s' => v = .bool false ∧ s' = s₃) ⟨by simp, rfl⟩) (fun v s' hv => ?_) fun _ _ h => h
  (refine xA hv ?_; clear hv; intro qq1 qq2; subst qq1; subst qq2)
  refine wpAny_truthy_bool ?_
  rw [if_neg (by decide)]
  refine wpAny_allTrue_Or_nil ?_
  rw [if_neg (by decide)]
  rw [hmore] at y3
  exact wpAny_execs_nil ⟨rfl, F₃, _, y3, more, rfl⟩
end
end Mine

namespace Mine
open PySem PySem.W PyProof.Rows PySem.SeqAt
section
variable {g : Gl} {defs : List Fd} {d : Nat} {env : Env} {ρ : Rho} {ω : Omg}
/-- if pile.part_count() != .. or ..: .. -/
theorem Ex.pcIf (G : GlP g) {n : Str} {p1 p2 p3 p4 p5 p6 : Pos} {e1 e2 : Expr} {l : List V} {body : List Stmt} (hd : 110 ≤ d) (hω : ω n = some (.acc 158 l)) (hdb : (n == ("__debug__" : Str)) = false) (hl : (p2.endLine == p3.line) = true) (hm : behindInMarks .NotEq e1 = false)
    (h1 : Ev g defs d env ρ e1 (.int l.length)) (h2 : Is g defs d env ρ e2 false) :
    Ex g defs d env ρ ω (.If (.BoolOp .Or [.Compare (.Call (.Attribute (.Name n p1) "part_count" p2) [] [] p3) [.NotEq] [e1] p4, e2] p5) body [] p6) (.nx ρ ω) := fun A E g0 Fg F s rm y => by
  refine wpAny_If (wpAny_isTrue_BoolOp (wpAny_allTrue_Or_cons (wpAny_isTrue_Compare1 (Call_method rfl hl rfl (by show 0 < 30; decide) ?_) hm)))
  refine xE y.own fun ad W => ?_
  refine look_name y.ok.kind (W.look n _ hω) ?_ hdb
  obtain ⟨its, dx, P, r, -, -⟩ := pile_at (W.obj n _ hω)
  have pf := G.pf y.ok.toBs
  refine P.getMethod pf.K (acc_pc _) (acc_fn _ _ (by decide)) (by decide) (by decide) ?_
  obtain ⟨fd, -, -, -, -, -, S, -⟩ := fn155
  refine xEEE (S.at_ g.w.params) fun oc od' osl hf => ?_
  show wpAny _ A (callWith p3 (.ref 155) [.ref (ad n)] [] []) _ _ _
  have hsz : its.size = l.length := by have := r.length; simpa using this
  refine Calls.callWith_function (o := _) (evalArgs_nil3 ⟨⟨pf.K _ _ hf, rfl⟩, ?_⟩)
  refine call_pc pf (by have := rm.dp; omega) P fun s' kp u => ?_
  have m : Mv F s F s' := ⟨⟨kp.os, fun h => by rw [kp.gens]; exact h⟩, Le.rfl, fun b o e => kp.kp b o (y.ok.sub b o e), fun _ _ e => .inl e, kp.kp, kp.tk⟩
  have y1 := y.mv' m
  refine wpAny_mono (h1 A E F s' rm y1.ok) (fun v s₂ hx => ?_) fun _ _ h => h
  (refine xEA hx ?_; clear hx; intro F₂ m₂ r₂)
  (first | refine Rd.ie r₂ fun _ => ?_ | refine Rd.se r₂ fun _ => ?_ | refine Rd.fe r₂ fun _ _ => ?_ | refine Rd.be r₂ fun _ => ?_ | refine Rd.ne r₂ ?_ | refine RdL.nile r₂ ?_ | cases r₂)
  have y2 := y1.mv' m₂
  refine wpAny_mono (PyProof.Rows.ne_int (Q := fun v s' => v = .bool false ∧ s' = s₂) ⟨by simp [hsz], rfl⟩) (fun v s' hv => ?_) fun _ _ h => h
  (refine xA hv ?_; clear hv; intro qq0 qq1; subst qq0; subst qq1)
  refine wpAny_truthy_bool ?_
  rw [if_neg (by decide)]
  refine wpAny_allTrue_Or_cons (wpAny_mono (h2 A E F₂ s' rm y2.ok) (fun v s₃ hx => ?_) fun _ _ h => h)
  (refine xAE hx ?_; clear hx; intro qq2 F₃ m₃; subst qq2)
  rw [if_neg (by decide)]
  refine wpAny_allTrue_Or_nil ?_
  rw [if_neg (by decide)]
  exact wpAny_execs_nil ⟨rfl, F₃, y2.mv' m₃⟩

theorem newEnv1 {M : Model} {A : Around} {E : Value → Shared → Prop} {s : Shared} {scope : Scope} {globals : Addr} {n : Str} {v : Value} {qual : Str} {func : Option Addr} {code : Value} {builtins : Addr} {Q : Env → Shared → Prop}
    (hk : scope.kind = .function) (hl : scope.names.lookup n = some .local)
    (hQ : ∀ env, env = newEnv scope s.heap.objs.size globals (cellsFrom (s.heap.objs.size + 1) scope.names []) qual func code none builtins →
      ∀ s', InCallC s env.locals (fun y => if y = n then some v else none) env.cells (fun _ => none) s' → s.toks < s'.toks → Q env s') :
    wpAny M A (newFunctionEnv scope globals [] [(n, v)] qual func code none builtins) Q E s := by
  simp only [newFunctionEnv, Option.isSome_none, Bool.false_eq_true, if_false]
  refine wpAny_bind (wpAny_alloc ?_)
  refine wpAny_bind (wpAny_layCells _ (fun name kind cells => by cases hkc : kind == NameKind.cell <;> simp [hkc]) _ _ _ _ ?_)
  have ok := cellsFrom_ok scope.names (s.heap.push { cls := .type "frame", data := .dict #[] }) (s.heap.objs.size + 1) [] ⟨fun _ _ hm => (nM hm), List.Pairwise.nil⟩ (by rw [Heap.size_push]; exact Nat.le_refl _)
  rw [Heap.size_push] at ok
  rw [show ({ s with heap := s.heap.push { cls := .type "frame", data := .dict #[] } } : Shared).heap.objs.size = s.heap.objs.size + 1 from Heap.size_push ..]
  have x0 : ∀ t, InCallC s s.heap.objs.size (fun _ => none) (cellsFrom (s.heap.objs.size + 1) scope.names []) (fun _ => none) { s with heap := pushCells (s.heap.push { cls := .type "frame", data := .dict #[] }) scope.names, toks := t } := fun t =>
    ⟨⟨⟨_, _, rfl⟩, (Heap.Ns.new s.heap (.type "frame")).keeps (pushCells_keeps _ _), fun b o e => pushCells_keeps _ _ b o (Heap.get?_push_of_some _ e), Nat.le_refl _⟩,
      fun n c hc => (ok.empty n c (mem_of_lookup hc)).1, ok.apart, fun n c hm => (ok.empty n c hm).2⟩
  refine wpAny_bind ?_
  rw [List.forIn_cons]
  refine wpAny_bind (wpAny_bind (wpAny_storeName_local (env := newEnv scope s.heap.objs.size globals (cellsFrom (s.heap.objs.size + 1) scope.names []) qual func code none builtins) hl (x0 s.toks).toInCall.ns (fun h' hn' hs' => wpAny_pure ?_) (by show (scope.kind == _ || (scope.kind == _ && _)) = false; rw [hk]; rfl)))
  show wpAny M A (forIn [] PUnit.unit _) _ _ _
  rw [List.forIn_nil]
  refine wpAny_pure (wpAny_pure (hQ _ rfl _ ⟨⟨⟨h', _, rfl⟩, hn', fun b o e => ?_, (x0 s.toks).toInCall.fresh⟩, fun k c hc => ?_, (x0 s.toks).apart, (x0 s.toks).above⟩ (Nat.lt_succ_self _)))
  · exact hs'.extBut b o (Nat.ne_of_lt (Nat.lt_of_lt_of_le (Heap.lt_size e) (x0 s.toks).toInCall.fresh)) ((x0 s.toks).toInCall.keep b o e)
  · exact ((x0 s.toks).cell k c hc).sameBut hs' (Nat.ne_of_gt ((x0 s.toks).above k c (mem_of_lookup hc)))

/-- a call of law itself, entered -/
theorem enter_def {fd : Fd} {n : Str} {y0 : V} {v0 : Value} {A : Around} {s : Shared} {F : Fz} {R : Result → Shared → Prop} {E : Value → Shared → Prop} {a : Addr} {o : Obj} {pm code doc : Value} 
    (hbind : ∀ (v : Value) pm code doc, bindArgs (Calls.docDef fd.name fd.params fd.body fd.scope pm code doc) ⟨[v], []⟩ = pure [(n, v)])
    (hkind : fd.scope.names.lookup n = some .local)
    (hco : fd.scope.isCoroutine = false) (hgen : fd.scope.isGenerator = false) (hk : fd.scope.kind = .function) (rm : Room (d + 1) A) (pg : Pg g defs F) (sub : Sub F s.heap) (lim : s.heap.NoLimit) (r : Rd F v0 y0) (h2 : s.heap.get? a = some o) (h3 : o.data = .func (Calls.docDef fd.name fd.params fd.body fd.scope pm code doc)) (h4 : s.heap.CodeRec code fd.name)
    (hbody : ∀ s₁, Fs g defs (gd s) F (callEnvC (Calls.docDef fd.name fd.params fd.body fd.scope pm code doc) s.heap.objs.size a) (rho [n] [y0]) omg0 F s₁ → Room d (A.deeper (callEnvC (Calls.docDef fd.name fd.params fd.body fd.scope pm code doc) s.heap.objs.size a)) →
      wpAny (model g.prog g.w) (A.deeper (callEnvC (Calls.docDef fd.name fd.params fd.body fd.scope pm code doc) s.heap.objs.size a)) (execs fd.body (callEnvC (Calls.docDef fd.name fd.params fd.body fd.scope pm code doc) s.heap.objs.size a)) (fun f s' => R (.ok (.ret (match f with | .ret v => v | _ => .none))) s') (fun _ _ => False) s₁) :
    codeAny (model g.prog g.w) A (.call (.ref a) ⟨[v0], []⟩) R s := by
  refine codeAny_call_function (by have := rm.dp; show A.depth < 1000; omega) h2 h3 hco hgen rfl h4 ?_
  rw [hbind v0 pm code doc]
  refine wpAny_pure (newEnv1 hk hkind fun env he s₁ ic htk => ?_)
  obtain rfl : env = callEnvC (Calls.docDef fd.name fd.params fd.body fd.scope pm code doc) s.heap.objs.size a := he
  refine ⟨lim.keeps ic.toInCall.keep, codeAny_func ?_⟩
  have hsub : Sub F s₁.heap := fun b o e => ic.toInCall.keep _ _ (sub b o e)
  have hL : F s.heap.objs.size = none := fz_fresh sub (Nat.le_refl _)
  have none_at : ∀ c, s.heap.objs.size ≤ c → s.heap.get? c = none := fun c hc => by
    cases q : s.heap.get? c with
    | none => rfl
    | some o => exact absurd (Heap.lt_size q) (Nat.not_lt.mpr hc)
  have hcell : ∀ y c, (callEnvC (Calls.docDef fd.name fd.params fd.body fd.scope pm code doc) s.heap.objs.size a).cells.lookup y = some c → s.heap.objs.size ≤ c := fun y c e => Nat.le_of_lt (ic.above y c (mem_of_lookup e))
  have hmv : Mv F s F s₁ := ⟨Same.of ic.toInCall.same, Le.rfl, hsub, fun _ _ e => .inl e, ic.toInCall.keep, Nat.le_of_lt htk⟩
  have ok : Ok g defs F (callEnvC (Calls.docDef fd.name fd.params fd.body fd.scope pm code doc) s.heap.objs.size a) (rho [n] [y0]) s₁ := by
    refine ⟨⟨pg, hsub, by omega⟩, hk, rfl, rfl, ⟨_, ic.toInCall.ns, fun y Y e k => ?_⟩, fun y Y e k => ?_, hL, fun y c e => ⟨fz_fresh sub (hcell y c e), _, ic.cell y c e⟩⟩
    · have e : (if (y == n) = true then some y0 else none) = some Y := by
        have : (rho [n] [y0]) y = if (y == n) = true then some y0 else none := by
          unfold rho
          simp only [List.zip_cons_cons, List.zip_nil_right, List.lookup_cons, List.lookup_nil]
          cases hb : y == n <;> simp
        rw [← this]; exact e
      split at e
      · rename_i hb
        (injection e with e; subst e)
        exact ⟨v0, if_pos (beq_iff_eq.mp hb), r⟩
      · injection e
    · have hy := lookup_zip_mem [n] [y0] y Y e
      have : y = n := List.mem_singleton.mp hy
      subst this
      have : (callEnvC (Calls.docDef fd.name fd.params fd.body fd.scope pm code doc) s.heap.objs.size a).kindOf y = some .local := hkind
      rw [this] at k; rcases k with k | k <;> (injection k with k; injection k)
  have fs : Fs g defs (gd s) F (callEnvC (Calls.docDef fd.name fd.params fd.body fd.scope pm code doc) s.heap.objs.size a) (rho [n] [y0]) omg0 F s₁ := by
    refine ⟨ok, hmv.toMg, none_at _ (Nat.le_refl _), fun y c e => none_at _ (hcell y c e), fun y z c e e' => name_of_addr ic.apart (mem_of_lookup e) (mem_of_lookup e'), fun _ => 0, ?_⟩
    exact ⟨fun _ _ e => (nS e), fun _ _ e => (nS e), fun _ _ e => (nS e), fun _ _ e => (nS e), fun _ _ _ _ e => (nS e)⟩
  exact wpAny_mono (hbody s₁ fs rm.deeper) (fun _ _ h => h) fun _ _ h => h.elim
end
end Mine

namespace Mine
open PySem PySem.W PyProof.Rows PySem.SeqAt

theorem dsP_len : dsP.length = 16 := by kernel_rfl
noncomputable def bindAt (i : Nat) (vs : List Value) (pm code doc : Value) : Prop := dsP[i]?.map (fun fd => bindArgs (Calls.docDef fd.name fd.params fd.body fd.scope pm code doc) ⟨vs, []⟩) = dsP[i]?.map (fun fd => pure ((pnames fd.params).zip vs))
noncomputable def cnts : List Nat := [1, 1, 3, 3, 3, 1, 2, 2, 2, 1, 1, 2, 1, 2, 2, 1]
theorem cnt_ok : dsP.map (fun fd => (pnames fd.params).length) = cnts := by kernel_rfl
noncomputable def BA (i n : Nat) : Prop := ∀ (vs : List Value) (pm code doc : Value), vs.length = n → bindAt i vs pm code doc
theorem bd1 {i : Nat} (h : ∀ a pm code doc, bindAt i [a] pm code doc) : BA i 1 := fun vs pm code doc hl => xE (List.length_eq_one_iff.mp hl) fun a e => e ▸ h a pm code doc
theorem len2 {n : Nat} {vs : List Value} (hl : vs.length = n + 1) : ∃ a r, vs = a :: r ∧ r.length = n := by
  cases vs with
  | nil => exact absurd hl (Nat.zero_ne_add_one n)
  | cons a r => exact ⟨a, r, rfl, Nat.succ.inj hl⟩
theorem bd2 {i : Nat} (h : ∀ a b pm code doc, bindAt i [a, b] pm code doc) : BA i 2 := fun vs pm code doc hl => xEEA (len2 hl) fun a r e hl => xE (List.length_eq_one_iff.mp hl) fun b e2 => by subst e e2; exact h a b pm code doc
theorem bd3 {i : Nat} (h : ∀ a b c pm code doc, bindAt i [a, b, c] pm code doc) : BA i 3 := fun vs pm code doc hl => xEEA (len2 hl) fun a r e hl => xEEA (len2 hl) fun b r e2 hl => xE (List.length_eq_one_iff.mp hl) fun c e3 => by subst e e2 e3; exact h a b c pm code doc
theorem below {P : Nat → Prop} {n : Nat} (h : ∀ i, i < n → P i) (hn : P n) (i : Nat) (hi : i < n + 1) : P i := (Nat.lt_succ_iff_lt_or_eq.mp hi).elim (h i) fun e => e ▸ hn
theorem bind_all : ∀ i, i < 16 → BA i (cnts.getD i 0) := by
  refine below (below (below (below (below (below (below (below (below (below (below (below (below (below (below (below (fun i h => absurd h (Nat.not_lt_zero i)) (bd1 fun a pm code doc => by unfold bindAt; kernel_rfl)) (bd1 fun a pm code doc => by unfold bindAt; kernel_rfl)) (bd3 fun a b c pm code doc => by unfold bindAt; kernel_rfl)) (bd3 fun a b c pm code doc => by unfold bindAt; kernel_rfl)) (bd3 fun a b c pm code doc => by unfold bindAt; kernel_rfl)) (bd1 fun a pm code doc => by unfold bindAt; kernel_rfl)) (bd2 fun a b pm code doc => by unfold bindAt; kernel_rfl)) (bd2 fun a b pm code doc => by unfold bindAt; kernel_rfl)) (bd2 fun a b pm code doc => by unfold bindAt; kernel_rfl)) (bd1 fun a pm code doc => by unfold bindAt; kernel_rfl)) (bd1 fun a pm code doc => by unfold bindAt; kernel_rfl)) (bd2 fun a b pm code doc => by unfold bindAt; kernel_rfl)) (bd1 fun a pm code doc => by unfold bindAt; kernel_rfl)) (bd2 fun a b pm code doc => by unfold bindAt; kernel_rfl)) (bd2 fun a b pm code doc => by unfold bindAt; kernel_rfl)) (bd1 fun a pm code doc => by unfold bindAt; kernel_rfl)
theorem bindOk : BindOk dsP := by
  intro fd hm vs pm code doc hl
  obtain ⟨i, hi, e⟩ := List.getElem_of_mem hm
  have h1 : dsP[i]? = some fd := by rw [List.getElem?_eq_getElem hi, e]
  have h2 : cnts.getD i 0 = (pnames fd.params).length := by rw [List.getD_eq_getElem?_getD, ← cnt_ok, List.getElem?_map, h1]; rfl
  have := bind_all i (dsP_len ▸ hi) vs pm code doc (h2 ▸ hl)
  unfold bindAt at this
  rw [h1] at this
  exact Option.some.inj this
end Mine

namespace Mine
open PySem PySem.W PyProof.Rows PySem.SeqAt

noncomputable def K2 (P : Params) : Frag := (127, tab0) :: hd.heap_39 P
noncomputable def as2 : List Addr := [127,2,3,32,34,35,37,38,39,41,42,44,45,49,50,51,53,54,56,57,58,60,61,63,64,65,67,68,70,71,72,74,75,77,78,79,82,87,88,89,91,92,94,95,96,98,99,101,102,103,104,106,107,109,110,111,112,114,115,117,118,119,121,122,124,125,126,128,129,131,132,133,134,136,137,139,140,141,143,144,146,147,148,149,151,152,154,155,156,157,158,159,160,163,165,166,168,169,170,173,174,175,177,178,180,181,182,185,186,187,190,191,192,195,196,197,199,200,202,203,204,207,208,209,212,213,214,216,217,219,220,221,224,225]
/-- what the head gives -/
structure Grd (w : World) (mg mb : Str → Option Value) (h : Heap) : Prop where
  K : (K2 w.params).In h
  gl : h.Ns mainGlobals mg
  bl : h.Ns builtinsNs mb
  bi : ∀ x : Str, x ≠ "__name__" → mb x = bootBuiltins x
  lim : h.NoLimit
  fn : ∀ d ∈ dsP, ∃ a o pm code doc, mg d.name = some (.ref a) ∧ h.get? a = some o ∧ o.data = .func (Calls.docDef d.name d.params d.body d.scope pm code doc) ∧ h.CodeRec code d.name
  bm : ∃ bm ob, BMod h mainGlobals mg bm ob
noncomputable def lawG (w : World) (mg mb : Str → Option Value) : Gl := ⟨PySem.Challenge.rw_xr0004_01.row.prog, w, mg, mb, KK w.params⟩
noncomputable def hid (h : Heap) : Fz := fun b => if b = 127 then none else h.get? b
theorem hid_sub (h : Heap) : Sub (hid h) h := fun b o e => by
  unfold hid at e
  split at e
  · injection e
  · exact e
theorem hid_of {h : Heap} {b : Addr} {o : Obj} (hb : b ≠ 127) (e : h.get? b = some o) : hid h b = some o := by unfold hid; rw [if_neg hb]; exact e

section
variable {w : World} {mg mb : Str → Option Value} {h : Heap}
theorem kk127 (P : Params) : (KK P).lookup 127 = none := by kernel_rfl
theorem Grd.kk (G : Grd w mg mb h) : (KK w.params).In h := fun a o e => G.K a o (by
  unfold K2
  rw [List.lookup_cons]
  have : (a == 127) = false := by
    cases q : a == 127 with
    | false => rfl
    | true => rw [beq_iff_eq.mp q, kk127] at e; injection e
  rw [this]; exact e)
theorem Grd.tab (G : Grd w mg mb h) : h.get? 127 = some tab0 := G.K 127 _ (by unfold K2; rw [List.lookup_cons]; rfl)
theorem Grd.mgs (G : Grd w mg mb h) {n : Str} {v : Value} (e : nsIn (KK w.params) mainGlobals n = some (some v)) : mg n = some v := mg_of G.kk G.gl e
theorem Grd.mgn (G : Grd w mg mb h) {n : Str} (e : nsIn (KK w.params) mainGlobals n = some none) : mg n = none := mg_none_of G.kk G.gl e
theorem Grd.ne (G : Grd w mg mb h) {b : Addr} {o : Obj} (e : h.get? b = some o) (hd : ∀ vs, o.data = .fields vs → o.cls ≠ .none) : b ≠ 127 := by
  rintro rfl
  rw [G.tab] at e; (injection e with e; subst e)
  exact hd _ rfl rfl
theorem Grd.ns (G : Grd w mg mb h) {a : Addr} {m : Str → Option Value} (e : h.Ns a m) : NsF (hid h) a m := by
  (refine xEEEAA e ?_; clear e; intro o es ep ho hd r)
  exact ⟨o, es, ep, hid_of (G.ne ho fun vs q => by rw [hd] at q; injection q) ho, hd, r⟩
theorem Grd.stat (G : Grd w mg mb h) : ∃ mc, h.Ns cStatics mc ∧ mc "sys.recursionlimit" = none ∧ mc sharingNotToldKey = none := by
  have e := G.kk 2 _ (show (KK w.params).lookup 2 = some _ from rfl)
  refine ⟨_, ⟨_, _, _, e, rfl, fun x hx => ?_, fun _ => rfl⟩, by kernel_rfl, by kernel_rfl⟩
  simp only [List.mem_toArray, List.mem_cons, List.not_mem_nil, or_false] at hx
  rcases hx with rfl | rfl | rfl | rfl | rfl | rfl | rfl | rfl | rfl <;> exact ⟨_, _, rfl⟩
theorem Grd.pat (G : Grd w mg mb h) : PatAt (hid h) 50 := by
  have e1 := G.kk 50 _ (show (KK w.params).lookup 50 = some _ from rfl)
  have e2 := G.kk 49 _ (show (KK w.params).lookup 49 = some _ from rfl)
  exact ⟨_, _, 49, _, _, _, hid_of (by decide) e1, rfl, rfl, rfl, by kernel_rfl, by kernel_rfl, rfl, hid_of (by decide) e2, rfl, by kernel_rfl⟩
theorem Grd.pg (G : Grd w mg mb h) : Pg (lawG w mg mb) dsP (hid h) := by
  refine ⟨G.ns G.gl, G.ns G.bl, ?_, G.bi, fun d hd => ?_, ⟨50, G.mgs (by kernel_rfl), G.pat⟩, fun a o e => hid_of ?_ (G.kk a o e)⟩
  · refine xEA G.stat fun mc a b => ?_
    exact ⟨mc, G.ns a, b⟩
  · refine xEEEEE (G.fn d hd) fun a o pm code doc qr0 => xAAA qr0 fun h1 h2 h3 qr1 => xEEEEAA qr1 fun c oc vs t e1 e2 qr2 => xA qr2 fun e3 e4 => ?_
    refine ⟨a, o, pm, code, doc, h1, hid_of (G.ne h2 fun vs q => by rw [h3] at q; injection q) h2, h3, c, oc, vs, t, e1, hid_of ?_ e2, e3, e4⟩
    rintro rfl
    rw [G.tab] at e2; (injection e2 with e2; subst e2)
    (injection e3 with e3; subst e3)
    simp at e4
  · rintro rfl
    rw [show (lawG w mg mb).kk.lookup 127 = (KK w.params).lookup 127 from rfl, kk127] at e; injection e
theorem Grd.glp (G : Grd w mg mb h) : GlP (lawG w mg mb) :=
  ⟨rfl, by kernel_rfl, by kernel_rfl, G.mgn (by kernel_rfl), ⟨408, G.mgs (by kernel_rfl)⟩, G.mgs (by kernel_rfl)⟩
theorem Grd.base (G : Grd w mg mb h) : Base (lawG w mg mb) dsP gvP := by
  refine ⟨fun n hn => G.mgn ?_, fun x v e => ?_, bindOk⟩
  · simp only [blts, List.mem_cons, List.not_mem_nil, or_false] at hn
    rcases hn with (rfl | rfl | rfl | rfl | rfl | rfl | rfl | rfl | rfl) | rfl | rfl | rfl <;> kernel_rfl
  · unfold gvP at e
    split at e
    · rename_i q; (injection e with e; subst e); subst q; exact ⟨.float 4599676419421066581 357, G.mgs (by kernel_rfl), fun F => .flt (by decide)⟩
    split at e
    · rename_i q; (injection e with e; subst e); subst q; exact ⟨.float 4595172819793696085 361, G.mgs (by kernel_rfl), fun F => .flt (by decide)⟩
    split at e
    · rename_i q; (injection e with e; subst e); subst q; exact ⟨.float 4604180019048437077 365, G.mgs (by kernel_rfl), fun F => .flt (by decide)⟩
    · injection e
end
end Mine

namespace Mine
open PySem PyProof.Rows PySem.W PySem.SeqAt PySem.Builtin

/-- calls of the program's defs, told -/
noncomputable abbrev cF (k : Nat) (f : Str) (xs : List V) : Option V := callF dsP gvP k f xs

/-- the colour of a paint and a shade, as the program makes it -/
noncomputable def colV (p s : Int) : V := (cF 5 "_law_colour" [.int p, .int s]).getD .none
noncomputable def dueV (p s : Int) : V := (cF 5 "_law_due" [.int p, .int s]).getD .none
noncomputable def okP (p : Int) : Prop := p = 0 ∨ p = 1 ∨ p = 2
noncomputable def okS (s : Int) : Prop := s = 0 ∨ s = 1 ∨ s = 2 ∨ s = 3 ∨ s = 4 ∨ s = 5

theorem col_call (k : Nat) {p s : Int} (hp : okP p) (hs : okS s) : cF (k + 2) "_law_colour" [.int p, .int s] = some (colV p s) := by
  rcases hp with rfl | rfl | rfl <;> rcases hs with rfl | rfl | rfl | rfl | rfl | rfl <;> kernel_rfl
theorem due_call (k : Nat) {p s : Int} (hp : okP p) (hs : okS s) : cF (k + 1) "_law_due" [.int p, .int s] = some (dueV p s) := by
  rcases hp with rfl | rfl | rfl <;> rcases hs with rfl | rfl | rfl | rfl | rfl | rfl <;> kernel_rfl
end Mine

namespace Mine
open PySem PyProof.Rows PySem.W PySem.SeqAt PySem.Builtin

noncomputable def okN (n : Nat) : Prop := n = 4 ∨ n = 5 ∨ n = 6 ∨ n = 7
/-- a list of ints as a value -/
noncomputable def intsV (l : List Int) : V := .lst (l.map .int)
noncomputable def tab {α : Type} (n : Nat) (f : Nat → α) : List α := (List.range n).map f

/-- the ring's steps -/
noncomputable def stepAt (n : Nat) (p : Nat → Int) (i : Nat) : Int := (p (if i + 1 = n then 0 else i + 1) - p i + 1).fmod 3 - 1
theorem steps_call (k : Nat) {n : Nat} (hn : okN n) (p : Nat → Int) : cF (k + 1) "_law_steps" [intsV (tab n p)] = some (intsV (tab n (stepAt n p))) := by
  rcases hn with rfl | rfl | rfl | rfl <;> kernel_rfl

/-- heights lifted and levelled -/
noncomputable def liftAt (n : Nat) (h : Nat → Int) (i : Int) : Int := h ((i.fmod n).toNat) + i.fdiv n * (h n - h 0)
noncomputable def laterAt (n t : Nat) (h : Nat → Int) (i : Nat) : Int := ((tab (2 * t) fun j => liftAt n h ((i : Int) - t + (j + 1 : Nat))).foldl maxI (liftAt n h ((i : Int) - t))).fmod 3
theorem later_call (k : Nat) {n : Nat} (hn : okN n) (t : Nat) (ht : t < n / 2 + 2) (h : Nat → Int) : cF (k + 1) "_law_later" [intsV (tab (n + 1) h), .int t] = some (intsV (tab n (laterAt n t h))) := by
  rcases hn with rfl | rfl | rfl | rfl
  · match t, ht with
    | 0, _ => kernel_rfl
    | 1, _ => kernel_rfl
    | 2, _ => kernel_rfl
    | 3, _ => kernel_rfl
  · match t, ht with
    | 0, _ => kernel_rfl
    | 1, _ => kernel_rfl
    | 2, _ => kernel_rfl
    | 3, _ => kernel_rfl
  · match t, ht with
    | 0, _ => kernel_rfl
    | 1, _ => kernel_rfl
    | 2, _ => kernel_rfl
    | 3, _ => kernel_rfl
    | 4, _ => kernel_rfl
  · match t, ht with
    | 0, _ => kernel_rfl
    | 1, _ => kernel_rfl
    | 2, _ => kernel_rfl
    | 3, _ => kernel_rfl
    | 4, _ => kernel_rfl
end Mine

namespace Mine
open PySem PyProof.Rows PySem.W PySem.SeqAt PySem.Builtin

/-- a witness by name -/
theorem pick {α : Sort _} {p : α → Prop} (h : ∃ x, p x) (c : α) (hc : c = Classical.choose h) : p c := hc ▸ Classical.choose_spec h
noncomputable abbrev Cx (k : Nat) : Ct := ⟨callF dsP gvP k, gvP⟩
theorem callF_body {k : Nat} {f : Str} {xs : List V} {fd : Fd} {x : V} (hf : dsP.find? (fun fd => fd.name == f) = some fd) (hok : fdOk fd xs.length = true)
    (h : exs (ex (Cx k) 60 fd.scope.names) (rho (pnames fd.params) xs) omg0 true fd.body = some (.rt x)) : callF dsP gvP (k + 1) f xs = some x := by
  unfold callF
  rw [hf]
  dsimp only
  rw [if_pos hok, h]
theorem oB_of {α β : Type} {x : Option α} {a : α} {f : α → Option β} {r : Option β} (h1 : x = some a) (h2 : f a = r) : oB x f = r := by rw [h1]; exact h2
theorem oO_l {β : Type} {x y : Option β} {c : β} (h : x = some c) : oO x y = some c := by rw [h]; rfl
theorem oO_r {β : Type} {x y : Option β} {r : Option β} (h : x = none) (h2 : y = r) : oO x y = r := by rw [h]; exact h2
theorem exs_ret {c : Ct} {m : Nat} {sc : Sc} {ρ : Rho} {ω : Omg} {top : Bool} {e : Expr} {pos : Pos} {rest : List Stmt} {x : V} (h : ev c m sc ρ e = some x) : exs (ex c (m + 1) sc) ρ ω top (.Return (some e) pos :: rest) = some (.rt x) :=
  oB_of (x := ex c (m + 1) sc ρ ω top (.Return (some e) pos)) (oB_of h rfl) rfl
theorem ev_lc {c : Ct} {m : Nat} {sc : Sc} {ρ : Rho} {elt target iter : Expr} {ifs : List Expr} {scope : Scope} {pos : Pos} {l ys : List V} (h1 : (namesOk sc ρ scope target && notSet iter) = true) (h2 : evIter (ev c m) sc ρ target iter = some l) (hl : l.length ≤ 100000)
    (h3 : evComp (ev c m) (relab (fun y => sc.lookup y) scope.names) (inner scope.names ρ) target elt ifs l = some ys) : ev c (m + 1) sc ρ (.ListComp elt [⟨target, iter, ifs, 0⟩] scope pos) = some (.lst ys) := by
  rw [evq_comp, if_pos rfl]
  refine oB_of (a := ys) ?_ rfl
  unfold evList
  rw [if_pos h1]
  exact oB_of h2 ((if_pos hl).trans h3)
/-- a comprehension without tests -/
theorem evComp_map {ev : Sc → Rho → Expr → Option V} {sc : Sc} {ρ0 : Rho} {target elt : Expr} {α : Type} {inj out : α → V} {l : List α} : (∀ a ∈ l, ∃ ρ1, bindT target (inj a) ρ0 = some ρ1 ∧ ev sc ρ1 elt = some (out a)) → evComp ev sc ρ0 target elt [] (l.map inj) = some (l.map out) := by
  induction l with
  | nil => intro _; rfl
  | cons a l ih =>
    intro h
    exact xEA (h a List.mem_cons_self) fun ρ1 h1 h2 => oB_of h1 (oB_of (a := true) rfl (oB_of h2 (oB_of (ih fun b hb => h b (List.mem_cons_of_mem _ hb)) rfl)))
/-- a comprehension with tests -/
theorem evComp_filter {ev : Sc → Rho → Expr → Option V} {sc : Sc} {ρ0 : Rho} {target elt : Expr} {ifs : List Expr} {α : Type} {inj out : α → V} {P : α → Bool} {l : List α} : (∀ a ∈ l, ∃ ρ1, bindT target (inj a) ρ0 = some ρ1 ∧ evTests ev sc ρ1 ifs = some (P a) ∧ (P a = true → ev sc ρ1 elt = some (out a))) →
    evComp ev sc ρ0 target elt ifs (l.map inj) = some ((l.filter P).map out) := by
  induction l with
  | nil => intro _; rfl
  | cons a l ih =>
    intro h
    refine xEAA (h a List.mem_cons_self) fun ρ1 h1 h2 h3 => oB_of h1 (oB_of h2 ?_)
    have ih := ih fun b hb => h b (List.mem_cons_of_mem _ hb)
    rw [List.filter_cons]
    cases hp : P a with
    | true => exact oB_of (h3 hp) (oB_of ih rfl)
    | false => exact ih

theorem d_told : ∃ fd elt scope q1 q2 q3 q4, dsP.find? (fun fd => fd.name == ("_law_told" : Str)) = some fd ∧ fdOk fd 1 = true ∧ pnames fd.params = [("ring" : Str)] ∧ fd.body = [.Return (some (.ListComp elt [⟨.Name "colour" q1, .Name "ring" q2, [], 0⟩] scope q3)) q4] ∧
    (∀ l, (namesOk fd.scope.names (rho ["ring"] [.lst l]) scope (.Name "colour" q1) && notSet (.Name "ring" q2)) = true) ∧ (∀ k l, evIter (ev (Cx k) 58) fd.scope.names (rho ["ring"] [.lst l]) (.Name "colour" q1) (.Name "ring" q2) = some l) ∧
    (∀ k ρ p s, okP p → okS s → ev (Cx (k + 1)) 58 (relab (fun y => fd.scope.names.lookup y) scope.names) (upd ρ "colour" (colV p s)) elt = some (dueV p s)) := by
  refine ⟨_, _, _, _, _, _, _, rfl, by kernel_rfl, by kernel_rfl, rfl, fun l => by kernel_rfl, fun k l => by kernel_rfl, fun k ρ p s hp hs => ?_⟩
  rcases hp with rfl | rfl | rfl <;> rcases hs with rfl | rfl | rfl | rfl | rfl | rfl <;> kernel_rfl
theorem told_call (k : Nat) {l : List (Int × Int)} (hl : l.length ≤ 1000) (h : ∀ x ∈ l, okP x.1 ∧ okS x.2) : cF (k + 2) "_law_told" [.lst (l.map fun x => colV x.1 x.2)] = some (.lst (l.map fun x => dueV x.1 x.2)) := by
  refine xEEEEEEE d_told fun fd elt scope q1 q2 q3 q4 qr0 => xAAAAAA qr0 fun h1 h2 h3 h4 h5 h6 h7 => ?_
  refine callF_body h1 h2 ?_
  rw [h3, h4]
  refine exs_ret (ev_lc (h5 _) (h6 _ _) (by rw [List.length_map]; lia) (evComp_map (inj := fun x : Int × Int => colV x.1 x.2) fun x hx => ⟨_, rfl, ?_⟩))
  exact h7 k _ _ _ (h x hx).1 (h x hx).2
end Mine

namespace Mine
open PySem PyProof.Rows PySem.W PySem.SeqAt PySem.Builtin

theorem bind2 {α β : Type} {x : Option α} {f : α → Option β} {b : β} (h : x.bind f = some b) : ∃ a, x = some a ∧ f a = some b := Option.bind_eq_some_iff.mp h
theorem d_thirds : ∃ fd elt target scope q2 q3 q4, dsP.find? (fun fd => fd.name == ("_law_thirds" : Str)) = some fd ∧ fdOk fd 1 = true ∧ pnames fd.params = [("told" : Str)] ∧ fd.body = [.Return (some (.ListComp elt [⟨target, .Name "told" q2, [], 0⟩] scope q3)) q4] ∧
    (∀ l, (namesOk fd.scope.names (rho ["told"] [.lst l]) scope target && notSet (.Name "told" q2)) = true) ∧ (∀ k l, evIter (ev (Cx k) 58) fd.scope.names (rho ["told"] [.lst l]) target (.Name "told" q2) = some l) ∧
    (∀ k ρ p s, okP p → okS s → (bindT target (dueV p s) ρ).bind (fun ρ1 => ev (Cx k) 58 (relab (fun y => fd.scope.names.lookup y) scope.names) ρ1 elt) = some (.int p)) := by
  refine ⟨_, _, _, _, _, _, _, rfl, by kernel_rfl, by kernel_rfl, rfl, fun l => by kernel_rfl, fun k l => by kernel_rfl, fun k ρ p s hp hs => ?_⟩
  rcases hp with rfl | rfl | rfl <;> rcases hs with rfl | rfl | rfl | rfl | rfl | rfl <;> kernel_rfl
theorem thirds_call (k : Nat) {l : List (Int × Int)} (hl : l.length ≤ 1000) (h : ∀ x ∈ l, okP x.1 ∧ okS x.2) : cF (k + 1) "_law_thirds" [.lst (l.map fun x => dueV x.1 x.2)] = some (intsV (l.map fun x => x.1)) := by
  refine xEEEEEEE d_thirds fun fd elt target scope q2 q3 q4 qr0 => xAAAAAA qr0 fun h1 h2 h3 h4 h5 h6 h7 => ?_
  refine callF_body h1 h2 ?_
  rw [h3, h4]
  have e : (l.map fun x => x.1).map V.int = l.map fun x => V.int x.1 := by rw [List.map_map]; rfl
  unfold intsV
  rw [e]
  exact exs_ret (ev_lc (h5 _) (h6 _ _) (by rw [List.length_map]; lia) (evComp_map (inj := fun x : Int × Int => dueV x.1 x.2) fun x hx => bind2 (h7 k _ _ _ (h x hx).1 (h x hx).2)))

/-- hls_to_rgb of a paint, at a place's own light and strength -/
noncomputable def lightV (s : Int) : V := .flt (match dueV 0 s with | .tup [_, .flt a, _] => a | _ => 0)
noncomputable def strongV (s : Int) : V := .flt (match dueV 0 s with | .tup [_, _, .flt a] => a | _ => 0)
noncomputable def hueV (p : Int) : V := .flt (match dueV p 0 with | .tup [.flt a, _, _] => a | _ => 0)
theorem due_eq {p s : Int} (hp : okP p) (hs : okS s) : dueV p s = .tup [hueV p, lightV s, strongV s] := by
  rcases hp with rfl | rfl | rfl <;> rcases hs with rfl | rfl | rfl | rfl | rfl | rfl <;> kernel_rfl
theorem hls_call (k : Nat) {p s : Int} (hp : okP p) (hs : okS s) : cF (k + 2) "hls_to_rgb" [hueV p, lightV s, strongV s] = some (colV p s) := by
  rcases hp with rfl | rfl | rfl <;> rcases hs with rfl | rfl | rfl | rfl | rfl | rfl <;> kernel_rfl
theorem grey_call (k : Nat) (f : Nat) (hf : f < 16) : cF (k + 1) "rgb_to_hls" [(binV .Div (.int f) (.int 16)).getD .none, (binV .Div (.int f) (.int 16)).getD .none, (binV .Div (.int f) (.int 16)).getD .none] = some (.tup [.flt 0, (binV .Div (.int f) (.int 16)).getD .none, .flt 0]) := by
  match f, hf with
  | 0, _ => kernel_rfl
  | 1, _ => kernel_rfl
  | 2, _ => kernel_rfl
  | 3, _ => kernel_rfl
  | 4, _ => kernel_rfl
  | 5, _ => kernel_rfl
  | 6, _ => kernel_rfl
  | 7, _ => kernel_rfl
  | 8, _ => kernel_rfl
  | 9, _ => kernel_rfl
  | 10, _ => kernel_rfl
  | 11, _ => kernel_rfl
  | 12, _ => kernel_rfl
  | 13, _ => kernel_rfl
  | 14, _ => kernel_rfl
  | 15, _ => kernel_rfl
  | f + 16, hf => exact absurd hf (by lia)
end Mine

namespace Mine
open PySem PyProof.Rows PySem.W PySem.SeqAt PySem.Builtin

/-- what is known of some names -/
noncomputable def form (xs : List (Str × V)) (ρ : Rho) : Rho := fun y => match xs.lookup y with
  | some v => some v
  | none => ρ y
theorem mem_look {α : Type} {xs : List (Str × α)} {y : Str} {v : α} : xs.lookup y = some v → (y, v) ∈ xs := by
  induction xs with
  | nil => exact fun h => nS h
  | cons x xs ih =>
    intro h
    have h : (match y == x.1 with | true => some x.2 | false => xs.lookup y) = some v := h
    cases q : y == x.1 with
    | true => rw [q] at h; rw [← Option.some.inj h, beq_iff_eq.mp q]; exact List.mem_cons_self
    | false => rw [q] at h; exact List.mem_cons_of_mem _ (ih h)
theorem form_eq {xs : List (Str × V)} {ρ : Rho} (h : ∀ p ∈ xs, ρ p.1 = some p.2) : form xs ρ = ρ := by
  funext y
  unfold form
  cases hv : xs.lookup y with
  | some v => exact (h _ (mem_look hv)).symm
  | none => rfl

section
variable {ex' : Rho → Omg → Bool → Stmt → Option Out}
/-- a loop by what holds between its turns -/
theorem exFor_inv {target : Expr} {body : List Stmt} (I : Nat → Rho → Omg → Prop) (l : List V) : ∀ (j0 : Nat) (ρ : Rho) (ω : Omg), I j0 ρ ω →
    (∀ j x ρ ω, l[j]? = some x → I (j0 + j) ρ ω → ∃ ρ1 ρ2 ω2, bindT target x ρ = some ρ1 ∧ ((tgtNames target).all fun n => (ω n).isNone) = true ∧ exs ex' ρ1 ω false body = some (.nx ρ2 ω2) ∧ I (j0 + j + 1) ρ2 ω2) →
    ∃ ρ' ω', exFor ex' target body l ρ ω = some (.nx ρ' ω') ∧ I (j0 + l.length) ρ' ω' := by
  induction l with
  | nil => exact fun j0 ρ ω h _ => ⟨ρ, ω, rfl, h⟩
  | cons x l ih =>
    intro j0 ρ ω h step
    refine xEEEAAA (step 0 x ρ ω rfl h) fun ρ1 ρ2 ω2 h1 h2 h3 h4 => ?_
    refine xEEA (ih (j0 + 1) ρ2 ω2 h4 fun j y ρ ω hy hi => ?_) fun ρ' ω' e i => ?_
    · have e : j0 + 1 + j = j0 + (j + 1) := Nat.add_right_comm j0 1 j
      rw [e] at hi ⊢
      exact step (j + 1) y ρ ω hy hi
    · exact ⟨ρ', ω', oB_of h1 ((if_pos h2).trans (oB_of h3 e)), (Nat.add_right_comm j0 1 l.length : j0 + 1 + l.length = j0 + (l.length + 1)) ▸ i⟩
theorem exs_cons {ρ ρ1 : Rho} {ω ω1 : Omg} {top : Bool} {st : Stmt} {rest : List Stmt} {o : Option Out} (h : ex' ρ ω top st = some (.nx ρ1 ω1)) (hf : (top && isFor st) = false) (hr : exs ex' ρ1 ω1 top rest = o) : exs ex' ρ ω top (st :: rest) = o :=
  oB_of (x := ex' ρ ω top st) h (show cond (top && isFor st) _ _ = o from hf ▸ hr)
theorem exs_for {ρ ρ1 : Rho} {ω ω1 : Omg} {st : Stmt} {rest : List Stmt} {o : Option Out} (h : ex' ρ ω true st = some (.nx ρ1 ω1)) (hf : isFor st = true) (hr : exs ex' (frz ownNames ρ1 ω1).1 (frz ownNames ρ1 ω1).2 true rest = o) : exs ex' ρ ω true (st :: rest) = o :=
  oB_of (x := ex' ρ ω true st) h (show cond (isFor st) (exs ex' (frz ownNames ρ1 ω1).1 (frz ownNames ρ1 ω1).2 true rest) _ = o from by rw [hf]; exact hr)
theorem exs_nil {ρ : Rho} {ω : Omg} {top : Bool} : exs ex' ρ ω top [] = some (.nx ρ ω) := rfl
end
section
variable {c : Ct} {m : Nat} {sc : Sc} {ρ : Rho} {ω : Omg} {top : Bool}
theorem ex_if {t : Expr} {b o : List Stmt} {pos : Pos} {r : Option Out} {v : Bool} (h : evB (ev c m) sc ρ t = some v) (hr : exs (ex c m sc) ρ ω top (if v then b else o) = r) : ex c (m + 1) sc ρ ω top (.If t b o pos) = r := by
  rw [exq_if]
  rw [h]
  cases v <;> exact hr
theorem ex_for {target iter : Expr} {body : List Stmt} {pos : Pos} {l : List V} {r : Option Out} (h1 : (notSet iter && (tgtNames target).all (kOk sc)) = true) (h2 : evIter (ev c m) sc ρ target iter = some l) (hr : exFor (ex c m sc) target body l ρ ω = r) : ex c (m + 1) sc ρ ω top (.For target iter body [] pos) = r := by
  rw [exq_for]
  rw [if_pos h1, h2]
  exact hr
theorem ev_fn {f : Str} {p pos : Pos} {es : List Expr} {xs : List V} (h1 : sc.lookup f = some .globalImplicit) (h2 : evs (ev c m) sc ρ es = some xs) (h3 : f ∉ blts) : ev c (m + 1) sc ρ (.Call (.Name f p) es [] pos) = c.fn f xs := by
  rw [evq_call, oO_none]
  unfold evCall
  rw [if_pos h1]
  exact oB_of h2 (if_neg h3)
theorem ex_asg {x : Str} {p pos : Pos} {e : Expr} {v : V} (hk : kOk sc x = true) (he : isTuple e = false) (hl : eLst e = none) (h : ev c m sc ρ e = some v) : ex c (m + 1) sc ρ ω top (.Assign [.Name x p] e pos) = some (.nx (upd ρ x v) (era ω x)) := by
  rw [exq_asg, if_pos hk, exAq he hl]
  exact oB_of h rfl
end
end Mine

namespace Mine
open PySem PyProof.Rows PySem.W PySem.SeqAt PySem.Builtin

noncomputable def ix (n : Nat) (b : Int) : Nat := (b.fmod n).toNat
noncomputable def tri (p s : Int) : V := .tup [hueV p, lightV s, strongV s]
noncomputable def nxF (n : Nat) (p s : Nat → Int) (ρ : Rho) : Rho := form [("ring", .lst (tab n fun i => colV (p i) (s i))), ("told", .lst (tab n fun i => tri (p i) (s i))), ("thirds", intsV (tab n p))] ρ
noncomputable def nxR (n : Nat) (p s : Nat → Int) (ρ : Rho) (j : Nat) (y : V) : Rho := upd (upd (nxF n p s ρ) "place" (.int j)) "colour" y
namespace CNx
noncomputable def fd : Fd := (dsP.find? (fun fd => fd.name == ("_law_next" : Str))).get (by kernel_rfl)
noncomputable def rt : T := .ss fd.body
noncomputable def tg : Expr := tE rt 258
noncomputable def it : Expr := tE rt 274
noncomputable def it2 : Expr := tE rt 69666
noncomputable def t : Expr := tE rt 16785442
noncomputable def es : List Expr := tEs rt 73283936290
theorem h1 : dsP.find? (fun fd => fd.name == ("_law_next" : Str)) = some fd := (by kernel_rfl)
theorem h2 : fdOk fd 2 = true := by kernel_rfl
theorem h3 : pnames fd.params = [("ring" : Str), ("told" : Str)] := by kernel_rfl
theorem h4 : fd.body = [.Assign [.Name "thirds" (tP CNx.rt 69632)] (.Call (.Name "_law_thirds" (tP CNx.rt 69648)) [.Name "told" (tP CNx.rt 1114384)] [] (tP CNx.rt 4880)) (tP CNx.rt 288), .Assign [.Name "fresh" (tP CNx.rt 69633)] (.List [] (tP CNx.rt 4369)) (tP CNx.rt 289),
     .For tg it [.For (.Name "beside" (tP CNx.rt 1114146)) it2 [.If t [.Assign [.Name "colour" (tP CNx.rt 1168232161314)] (.Call (.Name "hls_to_rgb" (tP CNx.rt 1168500596770)) es [] (tP CNx.rt 81873870882)) (tP CNx.rt 4832895010)] [] (tP CNx.rt 19931170)] [] (tP CNx.rt 81954), .Expr (.Call (.Attribute (.Name "fresh" (tP CNx.rt 285212962)) "append" (tP CNx.rt 18874658)) [.Name "colour" (tP CNx.rt 285278498)] [] (tP CNx.rt 1245474)) (tP CNx.rt 69922)] [] (tP CNx.rt 322), .Return (some (.Name "fresh" (tP CNx.rt 69635))) (tP CNx.rt 275)] := (by kernel_rfl)
theorem h5 : ∀ k ρ l, ρ "ring" = some (.lst l) → evIter (ev (Cx k) 59) fd.scope.names ρ tg it = some (enumV 0 l) := by
    intro k ρ l h
    rw [← form_eq (xs := [("ring", .lst l)]) (ρ := ρ) (by intro q hq; rw [List.mem_singleton.mp hq]; exact h)]
    kernel_rfl
theorem h6 : (notSet it && (tgtNames tg).all (kOk fd.scope.names)) = true := by kernel_rfl
theorem h7 : (notSet it2 && (tgtNames (.Name "beside" (tP CNx.rt 1114146))).all (kOk fd.scope.names)) = true := by kernel_rfl
theorem h8 : kOk fd.scope.names "colour" = true := by kernel_rfl
theorem h9 : fd.scope.names.lookup ("hls_to_rgb" : Str) = some .globalImplicit := by kernel_rfl
theorem g1 : ((tP CNx.rt 18874658).endLine == (tP CNx.rt 1245474).line) = true := by kernel_rfl
theorem g2 : fd.scope.names.lookup ("colour" : Str) = some .local := by kernel_rfl
theorem g3 : fd.scope.names.lookup ("fresh" : Str) = some .local := by kernel_rfl
theorem g4 : fd.scope.names.lookup ("told" : Str) = some .local := by kernel_rfl
theorem g5 : fd.scope.names.lookup ("_law_thirds" : Str) = some .globalImplicit := by kernel_rfl
theorem g6 : kOk fd.scope.names "thirds" = true := by kernel_rfl
theorem g7 : kOk fd.scope.names "fresh" = true := by kernel_rfl
theorem h11 : tgtNames tg = [("place" : Str), ("colour" : Str)] := (by kernel_rfl)
theorem h12 : ∀ j y ρ, bindT tg (.tup [.int j, y]) ρ = some (upd (upd ρ "place" (.int j)) "colour" y) := fun j y ρ => (by kernel_rfl)
theorem h13 : ∀ k n j p s ρ y b, okN n → j < n → b = (j : Int) - 1 ∨ b = (j : Int) + 1 - n → evIter (ev (Cx k) 58) fd.scope.names (nxR n p s ρ j y) (.Name "beside" (tP CNx.rt 1114146)) it2 = some [.int ((j : Int) - 1), .int ((j : Int) + 1 - n)] ∧
      evB (ev (Cx k) 57) fd.scope.names (upd (nxR n p s ρ j y) "beside" (.int b)) t = some ((p (ix n b) - p j).fmod 3 == 1) ∧
      evs (ev (Cx k) 55) fd.scope.names (upd (nxR n p s ρ j y) "beside" (.int b)) es = some [hueV (p (ix n b)), lightV (s j), strongV (s j)] := fun k n j p s ρ y b hn hj hb => by
    rcases hn with rfl | rfl | rfl | rfl
    · match j, hj with
      | 0, _ => rcases hb with rfl | rfl <;> exact ⟨by kernel_rfl, by kernel_rfl, by kernel_rfl⟩
      | 1, _ => rcases hb with rfl | rfl <;> exact ⟨by kernel_rfl, by kernel_rfl, by kernel_rfl⟩
      | 2, _ => rcases hb with rfl | rfl <;> exact ⟨by kernel_rfl, by kernel_rfl, by kernel_rfl⟩
      | 3, _ => rcases hb with rfl | rfl <;> exact ⟨by kernel_rfl, by kernel_rfl, by kernel_rfl⟩
      | j + 4, hj => exact absurd hj (by lia)
    · match j, hj with
      | 0, _ => rcases hb with rfl | rfl <;> exact ⟨by kernel_rfl, by kernel_rfl, by kernel_rfl⟩
      | 1, _ => rcases hb with rfl | rfl <;> exact ⟨by kernel_rfl, by kernel_rfl, by kernel_rfl⟩
      | 2, _ => rcases hb with rfl | rfl <;> exact ⟨by kernel_rfl, by kernel_rfl, by kernel_rfl⟩
      | 3, _ => rcases hb with rfl | rfl <;> exact ⟨by kernel_rfl, by kernel_rfl, by kernel_rfl⟩
      | 4, _ => rcases hb with rfl | rfl <;> exact ⟨by kernel_rfl, by kernel_rfl, by kernel_rfl⟩
      | j + 5, hj => exact absurd hj (by lia)
    · match j, hj with
      | 0, _ => rcases hb with rfl | rfl <;> exact ⟨by kernel_rfl, by kernel_rfl, by kernel_rfl⟩
      | 1, _ => rcases hb with rfl | rfl <;> exact ⟨by kernel_rfl, by kernel_rfl, by kernel_rfl⟩
      | 2, _ => rcases hb with rfl | rfl <;> exact ⟨by kernel_rfl, by kernel_rfl, by kernel_rfl⟩
      | 3, _ => rcases hb with rfl | rfl <;> exact ⟨by kernel_rfl, by kernel_rfl, by kernel_rfl⟩
      | 4, _ => rcases hb with rfl | rfl <;> exact ⟨by kernel_rfl, by kernel_rfl, by kernel_rfl⟩
      | 5, _ => rcases hb with rfl | rfl <;> exact ⟨by kernel_rfl, by kernel_rfl, by kernel_rfl⟩
      | j + 6, hj => exact absurd hj (by lia)
    · match j, hj with
      | 0, _ => rcases hb with rfl | rfl <;> exact ⟨by kernel_rfl, by kernel_rfl, by kernel_rfl⟩
      | 1, _ => rcases hb with rfl | rfl <;> exact ⟨by kernel_rfl, by kernel_rfl, by kernel_rfl⟩
      | 2, _ => rcases hb with rfl | rfl <;> exact ⟨by kernel_rfl, by kernel_rfl, by kernel_rfl⟩
      | 3, _ => rcases hb with rfl | rfl <;> exact ⟨by kernel_rfl, by kernel_rfl, by kernel_rfl⟩
      | 4, _ => rcases hb with rfl | rfl <;> exact ⟨by kernel_rfl, by kernel_rfl, by kernel_rfl⟩
      | 5, _ => rcases hb with rfl | rfl <;> exact ⟨by kernel_rfl, by kernel_rfl, by kernel_rfl⟩
      | 6, _ => rcases hb with rfl | rfl <;> exact ⟨by kernel_rfl, by kernel_rfl, by kernel_rfl⟩
      | j + 7, hj => exact absurd hj (by lia)
end CNx
end Mine

namespace Mine
open PySem PyProof.Rows PySem.W PySem.SeqAt PySem.Builtin

/-- what a turn of _law_next knows -/
structure Nx (n : Nat) (p s : Nat → Int) (j : Nat) (y : V) (ρ : Rho) : Prop where
  ring : ρ "ring" = some (.lst (tab n fun i => colV (p i) (s i)))
  told : ρ "told" = some (.lst (tab n fun i => tri (p i) (s i)))
  thirds : ρ "thirds" = some (intsV (tab n p))
  place : ρ "place" = some (.int j)
  colour : ρ "colour" = some y
theorem Nx.eq {n : Nat} {p s : Nat → Int} {j : Nat} {y : V} {ρ : Rho} (h : Nx n p s j y ρ) : nxR n p s ρ j y = ρ := by
  have e : nxF n p s ρ = ρ := form_eq (by
    intro q hq
    simp only [List.mem_cons, List.not_mem_nil, or_false] at hq
    rcases hq with rfl | rfl | rfl
    · exact h.ring
    · exact h.told
    · exact h.thirds)
  unfold nxR
  rw [e]
  funext z
  simp only [upd]
  split
  · rename_i q; rw [q, h.colour]
  · split
    · rename_i q; rw [q, h.place]
    · rfl
theorem upd_ne {ρ : Rho} {n y : Str} {v : V} (h : y ≠ n) : upd ρ n v y = ρ y := if_neg h
theorem upd_eq {ρ : Rho} {n : Str} {v : V} : upd ρ n v n = some v := if_pos rfl
theorem Nx.other {n : Nat} {p s : Nat → Int} {j : Nat} {y v : V} {ρ : Rho} (h : Nx n p s j y ρ) : Nx n p s j y (upd ρ "beside" v) :=
  ⟨((upd_ne (by decide)).trans h.ring), ((upd_ne (by decide)).trans h.told), ((upd_ne (by decide)).trans h.thirds), ((upd_ne (by decide)).trans h.place), ((upd_ne (by decide)).trans h.colour)⟩
theorem Nx.col {n : Nat} {p s : Nat → Int} {j : Nat} {y v : V} {ρ : Rho} (h : Nx n p s j y ρ) : Nx n p s j v (upd ρ "colour" v) :=
  ⟨((upd_ne (by decide)).trans h.ring), ((upd_ne (by decide)).trans h.told), ((upd_ne (by decide)).trans h.thirds), ((upd_ne (by decide)).trans h.place), upd_eq⟩
theorem era_none {ω : Omg} {n : Str} (h : ω n = none) : era ω n = ω := by
  funext z
  simp only [era]
  split
  · rename_i e; rw [e, h]
  · rfl
noncomputable def pickP (n : Nat) (p : Nat → Int) (j : Nat) (b : Int) (q : Int) : Int := if ((p (ix n b) - p j).fmod 3 == 1) = true then p (ix n b) else q
noncomputable def nextP (n : Nat) (p : Nat → Int) (j : Nat) : Int := pickP n p j ((j : Int) + 1 - n) (pickP n p j ((j : Int) - 1) (p j))

theorem if_step {fd : Fd} {t : Expr} {es : List Expr} {q9 q10 q11 q12 q13 : Pos} {k n j : Nat} {p s : Nat → Int} {y : V} {ρ : Rho} {ω : Omg} {b : Int} (hp : ∀ i, okP (p i)) (hs : ∀ i, okS (s i)) (h : Nx n p s j y ρ) (hk : kOk fd.scope.names "colour" = true) (hl : fd.scope.names.lookup ("hls_to_rgb" : Str) = some .globalImplicit) (hω : ω "colour" = none)
    (ht : ∀ ρ y, evB (ev (Cx (k + 2)) 57) fd.scope.names (upd (nxR n p s ρ j y) "beside" (.int b)) t = some ((p (ix n b) - p j).fmod 3 == 1)) (he : ∀ ρ y, evs (ev (Cx (k + 2)) 55) fd.scope.names (upd (nxR n p s ρ j y) "beside" (.int b)) es = some [hueV (p (ix n b)), lightV (s j), strongV (s j)]) :
    ∃ ρ', exs (ex (Cx (k + 2)) 58 fd.scope.names) (upd ρ "beside" (.int b)) ω false [.If t [.Assign [.Name "colour" q9] (.Call (.Name "hls_to_rgb" q10) es [] q11) q12] [] q13] = some (.nx ρ' ω) ∧
      Nx n p s j (if ((p (ix n b) - p j).fmod 3 == 1) = true then colV (p (ix n b)) (s j) else y) ρ' := by
  have e1 : upd ρ "beside" (.int b) = upd (nxR n p s ρ j y) "beside" (.int b) := by rw [h.eq]
  have ht' := ht ρ y
  have he' := he ρ y
  rw [← e1] at ht' he'
  cases hb : ((p (ix n b) - p j).fmod 3 == 1) with
  | false =>
    rw [hb] at ht'
    exact ⟨_, exs_cons (ex_if ht' rfl) rfl rfl, h.other⟩
  | true =>
    rw [hb] at ht'
    refine ⟨upd (upd ρ "beside" (.int b)) "colour" (colV (p (ix n b)) (s j)), exs_cons (ex_if ht' (exs_cons (ex_asg hk rfl rfl ((ev_fn hl he' (by decide +kernel)).trans (hls_call k (hp _) (hs _)))) rfl exs_nil)) rfl ?_, h.other.col⟩
    rw [era_none hω]; exact exs_nil
end Mine

namespace Mine
open PySem PyProof.Rows PySem.W PySem.SeqAt PySem.Builtin

theorem tab_get {α : Type} {n : Nat} {f : Nat → α} {j : Nat} {x : α} (h : (tab n f)[j]? = some x) : j < n ∧ x = f j := by
  unfold tab at h
  rw [List.getElem?_map] at h
  by_cases hj : j < n
  · rw [List.getElem?_range hj] at h
    exact ⟨hj, (Option.some.inj h).symm⟩
  · rw [List.getElem?_eq_none (by simp; lia)] at h
    cases h
theorem tab_succ {α : Type} {n : Nat} {f : Nat → α} : tab (n + 1) f = tab n f ++ [f n] := by
  unfold tab; rw [List.range_succ, List.map_append]; rfl
theorem tab_len {α : Type} {n : Nat} {f : Nat → α} : (tab n f).length = n := by unfold tab; simp
theorem enum_get : ∀ {l : List V} {i j : Nat} {x : V}, (enumV i l)[j]? = some x → ∃ y, l[j]? = some y ∧ x = .tup [.int ((i + j : Nat) : Int), y] := by
  intro l
  induction l with
  | nil => intro i j x h; cases j <;> cases h
  | cons a l ih =>
    intro i j x h
    cases j with
    | zero =>
      have : x = .tup [.int (i : Int), a] := by
        have h' : (enumV i (a :: l))[0]? = some (.tup [.int (i : Int), a]) := rfl
        rw [h'] at h; exact (Option.some.inj h).symm
      exact ⟨a, rfl, this⟩
    | succ j =>
      have h' : (enumV (i + 1) l)[j]? = some x := h
      refine xEA (ih h') fun y h1 h2 => ?_
      exact ⟨y, h1, by rw [h2, show i + 1 + j = i + (j + 1) from by lia]⟩

theorem exFor_cons {ex' : Rho → Omg → Bool → Stmt → Option Out} {target : Expr} {body : List Stmt} {x : V} {l : List V} {ρ ρ1 ρ2 : Rho} {ω ω2 : Omg} {r : Option Out} (h1 : bindT target x ρ = some ρ1) (h2 : ((tgtNames target).all fun n => (ω n).isNone) = true)
    (h3 : exs ex' ρ1 ω false body = some (.nx ρ2 ω2)) (h4 : exFor ex' target body l ρ2 ω2 = r) : exFor ex' target body (x :: l) ρ ω = r := oB_of h1 ((if_pos h2).trans (oB_of h3 h4))
theorem ev_name {c : Ct} {m : Nat} {sc : Sc} {ρ : Rho} {x : Str} {p : Pos} {v : V} (hl : sc.lookup x = some .local) (h1 : x ≠ "__debug__") (h2 : x ≠ "__classdict__") (h : ρ x = some v) : ev c (m + 1) sc ρ (.Name x p) = some v := by
  rw [evq_nm]
  unfold nameV
  rw [if_neg (by rintro (h | h) <;> contradiction), hl]
  exact h
theorem ex_app {c : Ct} {m : Nat} {sc : Sc} {ρ : Rho} {ω : Omg} {top : Bool} {x : Str} {p1 p2 p3 pos : Pos} {e : Expr} {l : List V} {v : V} (hω : ω x = some (.lst l)) (hl : l.length ≤ 1000) (he : isStar e = false) (hx : x ≠ "__debug__") (hp : (p2.endLine == p3.line) = true) (h : ev c m sc ρ e = some v) :
    ex c (m + 1) sc ρ ω top (.Expr (.Call (.Attribute (.Name x p1) "append" p2) [e] [] p3) pos) = some (.nx ρ (ownTo ω x (.lst (l ++ [v])))) := by
  rw [exq_app, if_pos ⟨rfl, hp⟩]
  unfold exAppend
  rw [hω]
  exact (if_pos ⟨hl, he, hx⟩).trans (oO_l (oB_of h rfl))
end Mine

namespace Mine
open PySem PyProof.Rows PySem.W PySem.SeqAt PySem.Builtin

/-- what the loop of _law_next knows between its turns -/
structure NxI (n : Nat) (p s : Nat → Int) (j : Nat) (ρ : Rho) (ω : Omg) : Prop where
  ring : ρ "ring" = some (.lst (tab n fun i => colV (p i) (s i)))
  told : ρ "told" = some (.lst (tab n fun i => tri (p i) (s i)))
  thirds : ρ "thirds" = some (intsV (tab n p))
  own : ω = ownTo omg0 "fresh" (.lst (tab j fun i => colV (nextP n p i) (s i)))

open CNx in
theorem next_call (k : Nat) {n : Nat} (hn : okN n) {p s : Nat → Int} (hp : ∀ i, okP (p i)) (hs : ∀ i, okS (s i)) :
    cF (k + 3) "_law_next" [.lst (tab n fun i => colV (p i) (s i)), .lst (tab n fun i => dueV (p i) (s i))] = some (.lst (tab n fun i => colV (nextP n p i) (s i))) := by
  have hn7 : n ≤ 7 := by rcases hn with rfl | rfl | rfl | rfl <;> decide
  have hdue : (tab n fun i => dueV (p i) (s i)) = tab n fun i => tri (p i) (s i) := by
    unfold tab
    exact List.map_congr_left fun i _ => due_eq (hp i) (hs i)
  have hth := thirds_call (k + 1) (l := tab n fun i => (p i, s i)) (by rw [tab_len]; lia) (fun x hx => by
    (refine xEA (List.mem_map.mp hx) fun i _ qq0 => ?_; subst qq0)
    exact ⟨hp i, hs i⟩)
  have m1 : ((tab n fun i => (p i, s i)).map fun x => dueV x.1 x.2) = tab n fun i => tri (p i) (s i) := by
    rw [← hdue]; unfold tab; rw [List.map_map]; rfl
  have m2 : ((tab n fun i => (p i, s i)).map fun x => x.1) = tab n p := by unfold tab; rw [List.map_map]; rfl
  rw [m1, m2] at hth
  rw [hdue]
  have body := exFor_inv (ex' := ex (Cx (k + 2)) 59 fd.scope.names) (target := tg) (body := [.For (.Name "beside" (tP CNx.rt 1114146)) it2 [.If t [.Assign [.Name "colour" (tP CNx.rt 1168232161314)] (.Call (.Name "hls_to_rgb" (tP CNx.rt 1168500596770)) es [] (tP CNx.rt 81873870882)) (tP CNx.rt 4832895010)] [] (tP CNx.rt 19931170)] [] (tP CNx.rt 81954), .Expr (.Call (.Attribute (.Name "fresh" (tP CNx.rt 285212962)) "append" (tP CNx.rt 18874658)) [.Name "colour" (tP CNx.rt 285278498)] [] (tP CNx.rt 1245474)) (tP CNx.rt 69922)])
    (NxI n p s) (enumV 0 (tab n fun i => colV (p i) (s i))) 0 (updO (upd (rho ["ring", "told"] [.lst (tab n fun i => colV (p i) (s i)), .lst (tab n fun i => tri (p i) (s i))]) "thirds" (intsV (tab n p))) "fresh" none) (ownTo (era omg0 "thirds") "fresh" (.lst []))
    ⟨rfl, rfl, rfl, by rw [era_none rfl]; rfl⟩ ?_
  · (refine xEEA body ?_; clear body; intro ρ' ω' e i)
    rw [enumV_len, tab_len, Nat.zero_add] at i
    have hω : ∀ z : Str, z ≠ "fresh" → ω' z = none := fun z hz => by rw [i.own]; exact if_neg hz
    have hωf : ω' "fresh" = some (.lst (tab n fun i => colV (nextP n p i) (s i))) := by rw [i.own]; exact if_pos rfl
    refine callF_body h1 h2 ?_
    rw [h3, h4]
    refine exs_cons (ex_asg g6 rfl rfl ((ev_fn g5 (xs := [.lst (tab n fun i => tri (p i) (s i))]) ?_ (by decide +kernel)).trans hth)) rfl ?_
    · show (if isStar (.Name _ _) = true then none else _) = _
      rw [if_neg (by show ¬ (false = true); decide)]
      rw [ev_name g4 (by decide) (by decide) (v := .lst (tab n fun i => tri (p i) (s i))) rfl]
      rfl
    refine exs_cons (ρ1 := updO (upd (rho ["ring", "told"] [.lst (tab n fun i => colV (p i) (s i)), .lst (tab n fun i => tri (p i) (s i))]) "thirds" (intsV (tab n p))) "fresh" none) (ω1 := ownTo (era omg0 "thirds") "fresh" (.lst [])) ?_ rfl ?_
    · rw [exq_asg, if_pos g7]
      rfl
    refine exs_for (ex_for h6 (h5 _ _ _ rfl) e) rfl ?_
    refine exs_ret (ev_name g3 (by decide) (by decide) ?_)
    rw [i.own]
    kernel_rfl
  · intro j x ρ ω hx hi
    (refine xEA (enum_get hx) fun y hy qq1 => ?_; subst qq1)
    (refine xA (tab_get hy) fun hj qq2 => ?_; subst qq2)
    rw [Nat.zero_add] at hi ⊢
    have hN : Nx n p s j (colV (p j) (s j)) (upd (upd ρ "place" (.int j)) "colour" (colV (p j) (s j))) :=
      ⟨(upd_ne (by decide)).trans ((upd_ne (by decide)).trans hi.ring), (upd_ne (by decide)).trans ((upd_ne (by decide)).trans hi.told), (upd_ne (by decide)).trans ((upd_ne (by decide)).trans hi.thirds), (upd_ne (by decide)).trans upd_eq, upd_eq⟩
    have hω : ∀ z : Str, z ≠ "fresh" → ω z = none := fun z hz => by rw [hi.own]; exact if_neg hz
    have hωf : ω "fresh" = some (.lst (tab j fun i => colV (nextP n p i) (s i))) := by rw [hi.own]; exact if_pos rfl
    refine xEA (if_step (q9 := (tP CNx.rt 1168232161314)) (q10 := (tP CNx.rt 1168500596770)) (q11 := (tP CNx.rt 81873870882)) (q12 := (tP CNx.rt 4832895010)) (q13 := (tP CNx.rt 19931170)) (k := k) (b := (j : Int) - 1) hp hs hN h8 h9 (hω _ (by decide)) (fun ρ y => (h13 (k + 2) n j p s ρ y _ hn hj (.inl rfl)).2.1) (fun ρ y => (h13 (k + 2) n j p s ρ y _ hn hj (.inl rfl)).2.2)) fun ρa ea Na => ?_
    refine xEA (if_step (q9 := (tP CNx.rt 1168232161314)) (q10 := (tP CNx.rt 1168500596770)) (q11 := (tP CNx.rt 81873870882)) (q12 := (tP CNx.rt 4832895010)) (q13 := (tP CNx.rt 19931170)) (k := k) (b := (j : Int) + 1 - n) hp hs Na h8 h9 (hω _ (by decide)) (fun ρ y => (h13 (k + 2) n j p s ρ y _ hn hj (.inr rfl)).2.1) (fun ρ y => (h13 (k + 2) n j p s ρ y _ hn hj (.inr rfl)).2.2)) fun ρb eb Nb => ?_
    have hit := (h13 (k + 2) n j p s (upd (upd ρ "place" (.int j)) "colour" (colV (p j) (s j))) (colV (p j) (s j)) _ hn hj (.inl rfl)).1
    rw [hN.eq] at hit
    have hcol : (if ((p (ix n ((j : Int) + 1 - n)) - p j).fmod 3 == 1) = true then colV (p (ix n ((j : Int) + 1 - n))) (s j) else if ((p (ix n ((j : Int) - 1)) - p j).fmod 3 == 1) = true then colV (p (ix n ((j : Int) - 1))) (s j) else colV (p j) (s j)) = colV (nextP n p j) (s j) := by
      unfold nextP pickP
      split <;> first | rfl | (split <;> rfl)
    rw [hcol] at Nb
    have hb1 : ((tgtNames (.Name "beside" (tP CNx.rt 1114146))).all fun n => (ω n).isNone) = true := by
      show ((ω "beside").isNone && true) = true
      rw [hω _ (by decide)]; rfl
    refine ⟨_, ρb, ownTo ω "fresh" (.lst ((tab j fun i => colV (nextP n p i) (s i)) ++ [colV (nextP n p j) (s j)])), h12 j _ ρ, ?_, exs_cons (ex_for h7 hit (exFor_cons rfl hb1 ea (exFor_cons rfl hb1 eb rfl))) rfl (exs_cons (ex_app hωf (by rw [tab_len]; lia) rfl (by decide) g1 (ev_name g2 (by decide) (by decide) Nb.colour)) rfl exs_nil), ?_⟩
    · rw [h11]
      show ((ω "place").isNone && ((ω "colour").isNone && true)) = true
      rw [hω _ (by decide), hω _ (by decide)]; rfl
    · refine ⟨Nb.ring, Nb.told, Nb.thirds, ?_⟩
      rw [tab_succ, hi.own]
      funext z
      simp only [ownTo]
      split <;> rfl
end Mine

namespace Mine
open PySem PyProof.Rows PySem.W PySem.SeqAt PySem.Builtin

theorem allV_self {f : V → V → Option Bool} {l : List V} : (∀ x ∈ l, f x x = some true) → allV f l l = some true := by
  induction l with
  | nil => exact fun _ => rfl
  | cons x l ih => exact fun h => oB_of (h x List.mem_cons_self) (oB_of (ih fun y hy => h y (List.mem_cons_of_mem _ hy)) rfl)
theorem ne_self {l : List V} (h : ∀ x ∈ l, veq 4 x x = some true) : cmpV .NotEq (.lst l) (.lst l) = some false := by
  have e : veq 5 (.lst l) (.lst l) = some true := by
    show (if l.length = l.length then allV (veq 4) l l else some false) = some true
    rw [if_pos rfl, allV_self h]
  show oB (veq 5 (.lst l) (.lst l)) (fun b => some (!b)) = _
  exact oB_of e rfl
theorem col_self {p s : Int} (hp : okP p) (hs : okS s) : veq 4 (colV p s) (colV p s) = some true := by
  rcases hp with rfl | rfl | rfl <;> rcases hs with rfl | rfl | rfl | rfl | rfl | rfl <;> kernel_rfl
theorem due_self {p s : Int} (hp : okP p) (hs : okS s) : veq 4 (dueV p s) (dueV p s) = some true := by
  rcases hp with rfl | rfl | rfl <;> rcases hs with rfl | rfl | rfl | rfl | rfl | rfl <;> kernel_rfl
theorem int_self (i : Int) : veq 4 (.int i) (.int i) = some true := by
  show some (i == i) = some true
  rw [beq_self_eq_true]
theorem str_self (x : Str) : veq 4 (.str x) (.str x) = some true := by
  show some (x == x) = some true
  rw [beq_self_eq_true]
theorem ints_ne (a : List Int) : cmpV .NotEq (intsV a) (intsV a) = some false := ne_self fun x hx => by
  (refine xEA (List.mem_map.mp hx) fun i _ qq0 => ?_; subst qq0)
  exact int_self i
theorem strs_ne (a : List Str) : cmpV .NotEq (.lst (a.map .str)) (.lst (a.map .str)) = some false := ne_self fun x hx => by
  (refine xEA (List.mem_map.mp hx) fun i _ qq1 => ?_; subst qq1)
  exact str_self i
theorem cols_ne {n : Nat} {p s : Nat → Int} (hp : ∀ i, okP (p i)) (hs : ∀ i, okS (s i)) : cmpV .NotEq (.lst (tab n fun i => colV (p i) (s i))) (.lst (tab n fun i => colV (p i) (s i))) = some false := ne_self fun x hx => by
  (refine xEA (List.mem_map.mp hx) fun i _ qq2 => ?_; subst qq2)
  exact col_self (hp i) (hs i)
theorem dues_ne {n : Nat} {p s : Nat → Int} (hp : ∀ i, okP (p i)) (hs : ∀ i, okS (s i)) : cmpV .NotEq (.lst (tab n fun i => dueV (p i) (s i))) (.lst (tab n fun i => dueV (p i) (s i))) = some false := ne_self fun x hx => by
  (refine xEA (List.mem_map.mp hx) fun i _ qq3 => ?_; subst qq3)
  exact due_self (hp i) (hs i)
end Mine

namespace Mine
open PySem PyProof.Rows PySem.W PySem.SeqAt PySem.Builtin

/-- law's statements -/
noncomputable def lawB : List Stmt := (dsP[15]?).elim [] (·.body)
noncomputable def lawSc : Sc := (dsP[15]?).elim [] (·.scope.names)
noncomputable def st (k i : Nat) (ρ : Rho) (ω : Omg) : Option Out := (lawB[i]?).bind (ex (Cx k) 60 lawSc ρ ω true)

theorem st1 (k : Nat) (ρ : Rho) (ω : Omg) (a : Int) : st k 1 (form [("first", .int a)] ρ) ω = some (.nx (upd (form [("first", .int a)] ρ) "size" (.int (4 + a.fmod 4))) (era ω "size")) := by kernel_rfl
theorem st2 (k : Nat) (ρ : Rho) (ω : Omg) (a : Int) : st k 2 (form [("first", .int a)] ρ) ω = some (.nx (upd (form [("first", .int a)] ρ) "great" (.int ((a.fdiv 4).fmod 2))) (era ω "great")) := by kernel_rfl
theorem st3 (k : Nat) (ρ : Rho) (ω : Omg) (b : Int) {n : Nat} (hn : okN n) : st k 3 (form [("second", .int b), ("size", .int n)] ρ) ω = some (.nx (upd (form [("second", .int b), ("size", .int n)] ρ) "number" (.int (b.fmod ((16 : Int) ^ n)))) (era ω "number")) := by
  rcases hn with rfl | rfl | rfl | rfl <;> kernel_rfl
noncomputable def figAt (n : Nat) (N : Int) (i : Nat) : Int := (N.fdiv ((16 : Int) ^ (n - 1 - i))).fmod 16
theorem st4 (k : Nat) (ρ : Rho) (ω : Omg) (N : Int) {n : Nat} (hn : okN n) : st k 4 (form [("number", .int N), ("size", .int n)] ρ) ω = some (.nx (upd (form [("number", .int N), ("size", .int n)] ρ) "figures" (intsV (tab n (figAt n N)))) (era ω "figures")) := by
  rcases hn with rfl | rfl | rfl | rfl <;> kernel_rfl
theorem st5 (k : Nat) (ρ : Rho) (ω : Omg) (f : Nat → Int) {n : Nat} (hn : okN n) : st k 5 (form [("figures", intsV (tab n f))] ρ) ω = some (.nx (upd (form [("figures", intsV (tab n f))] ρ) "shades" (intsV (tab n fun i => (f i).fdiv 3))) (era ω "shades")) := by
  rcases hn with rfl | rfl | rfl | rfl <;> kernel_rfl
theorem st6 (k : Nat) (ρ : Rho) (ω : Omg) (f : Nat → Int) {n : Nat} (hn : okN n) : st k 6 (form [("figures", intsV (tab n f))] ρ) ω = some (.nx (updO (form [("figures", intsV (tab n f))] ρ) "heights" none) (ownTo ω "heights" (.lst [.int ((f 0).fmod 3)]))) := by
  rcases hn with rfl | rfl | rfl | rfl <;> kernel_rfl
end Mine

namespace Mine
open PySem PyProof.Rows PySem.W PySem.SeqAt PySem.Builtin

noncomputable def paintAt (f : Nat → Int) (i : Nat) : Int := (f i).fmod 3
noncomputable def hAt (n : Nat) (p : Nat → Int) : Nat → Int
  | 0 => p 0
  | i + 1 => hAt n p i + stepAt n p (if i < n then i else i - n)
/-- a name bound again and again -/
noncomputable def updL (ρ : Rho) (x : Str) : List V → Rho
  | [] => ρ
  | v :: l => updL (upd ρ x v) x l
noncomputable def ownL (ω : Omg) (x : Str) : List OwnV → Omg
  | [] => ω
  | v :: l => ownL (ownTo ω x v) x l
theorem updL_ne {x y : Str} (h : y ≠ x) : ∀ {l : List V} {ρ : Rho}, updL ρ x l y = ρ y
  | [], _ => rfl
  | v :: l, ρ => (updL_ne h (l := l)).trans (upd_ne h)
theorem ownL_ne {x y : Str} (h : y ≠ x) : ∀ {l : List OwnV} {ω : Omg}, ownL ω x l y = ω y
  | [], _ => rfl
  | v :: l, ω => (ownL_ne h (l := l)).trans (if_neg h)
theorem ownL_last {x : Str} {v : OwnV} : ∀ {l : List OwnV} {ω : Omg}, ownL ω x (l ++ [v]) x = some v
  | [], ω => if_pos rfl
  | u :: l, ω => ownL_last (l := l)
theorem st7 (k : Nat) (ρ : Rho) (f : Nat → Int) {n : Nat} (hn : okN n) : st (k + 1) 7 (form [("figures", intsV (tab n f))] (updO ρ "heights" none)) (ownTo omg0 "heights" (.lst [.int ((f 0).fmod 3)])) =
    some (.nx (updL (form [("figures", intsV (tab n f))] (updO ρ "heights" none)) "step" ((tab (2 * n) fun i => stepAt n (paintAt f) (if i < n then i else i - n)).map .int)) (ownL (ownTo omg0 "heights" (.lst [.int ((f 0).fmod 3)])) "heights" (tab (2 * n) fun i => .lst ((tab (i + 2) (hAt n (paintAt f))).map .int)))) := by
  rcases hn with rfl | rfl | rfl | rfl <;> kernel_rfl
end Mine

namespace Mine
open PySem PyProof.Rows PySem.W PySem.SeqAt PySem.Builtin

theorem fall0 {P : Nat → Prop} (h4 : P 4) (h5 : P 5) (h6 : P 6) (h7 : P 7) : ∀ n, okN n → P n := fun n hn => by
  rcases hn with rfl | rfl | rfl | rfl <;> assumption
theorem fall1 {P : Nat → Nat → Prop}
    (h4_0 : P 4 0) (h4_1 : P 4 1) (h4_2 : P 4 2) (h4_3 : P 4 3)
    (h5_0 : P 5 0) (h5_1 : P 5 1) (h5_2 : P 5 2) (h5_3 : P 5 3) (h5_4 : P 5 4)
    (h6_0 : P 6 0) (h6_1 : P 6 1) (h6_2 : P 6 2) (h6_3 : P 6 3) (h6_4 : P 6 4) (h6_5 : P 6 5)
    (h7_0 : P 7 0) (h7_1 : P 7 1) (h7_2 : P 7 2) (h7_3 : P 7 3) (h7_4 : P 7 4) (h7_5 : P 7 5) (h7_6 : P 7 6)
    : ∀ n, okN n → ∀ j, j < n → P n j := fun n hn j hj => by
  rcases hn with rfl | rfl | rfl | rfl
  · match j, hj with
    | 0, _ => exact h4_0
    | 1, _ => exact h4_1
    | 2, _ => exact h4_2
    | 3, _ => exact h4_3
    | j + 4, hj => exact absurd hj (by lia)
  · match j, hj with
    | 0, _ => exact h5_0
    | 1, _ => exact h5_1
    | 2, _ => exact h5_2
    | 3, _ => exact h5_3
    | 4, _ => exact h5_4
    | j + 5, hj => exact absurd hj (by lia)
  · match j, hj with
    | 0, _ => exact h6_0
    | 1, _ => exact h6_1
    | 2, _ => exact h6_2
    | 3, _ => exact h6_3
    | 4, _ => exact h6_4
    | 5, _ => exact h6_5
    | j + 6, hj => exact absurd hj (by lia)
  · match j, hj with
    | 0, _ => exact h7_0
    | 1, _ => exact h7_1
    | 2, _ => exact h7_2
    | 3, _ => exact h7_3
    | 4, _ => exact h7_4
    | 5, _ => exact h7_5
    | 6, _ => exact h7_6
    | j + 7, hj => exact absurd hj (by lia)
theorem fall2 {P : Nat → Nat → Prop}
    (h4_0 : P 4 0) (h4_1 : P 4 1) (h4_2 : P 4 2) (h4_3 : P 4 3) (h4_4 : P 4 4) (h4_5 : P 4 5) (h4_6 : P 4 6) (h4_7 : P 4 7)
    (h5_0 : P 5 0) (h5_1 : P 5 1) (h5_2 : P 5 2) (h5_3 : P 5 3) (h5_4 : P 5 4) (h5_5 : P 5 5) (h5_6 : P 5 6) (h5_7 : P 5 7) (h5_8 : P 5 8) (h5_9 : P 5 9)
    (h6_0 : P 6 0) (h6_1 : P 6 1) (h6_2 : P 6 2) (h6_3 : P 6 3) (h6_4 : P 6 4) (h6_5 : P 6 5) (h6_6 : P 6 6) (h6_7 : P 6 7) (h6_8 : P 6 8) (h6_9 : P 6 9) (h6_10 : P 6 10) (h6_11 : P 6 11)
    (h7_0 : P 7 0) (h7_1 : P 7 1) (h7_2 : P 7 2) (h7_3 : P 7 3) (h7_4 : P 7 4) (h7_5 : P 7 5) (h7_6 : P 7 6) (h7_7 : P 7 7) (h7_8 : P 7 8) (h7_9 : P 7 9) (h7_10 : P 7 10) (h7_11 : P 7 11) (h7_12 : P 7 12) (h7_13 : P 7 13)
    : ∀ n, okN n → ∀ j, j < 2 * n → P n j := fun n hn j hj => by
  rcases hn with rfl | rfl | rfl | rfl
  · match j, hj with
    | 0, _ => exact h4_0
    | 1, _ => exact h4_1
    | 2, _ => exact h4_2
    | 3, _ => exact h4_3
    | 4, _ => exact h4_4
    | 5, _ => exact h4_5
    | 6, _ => exact h4_6
    | 7, _ => exact h4_7
    | j + 8, hj => exact absurd hj (by lia)
  · match j, hj with
    | 0, _ => exact h5_0
    | 1, _ => exact h5_1
    | 2, _ => exact h5_2
    | 3, _ => exact h5_3
    | 4, _ => exact h5_4
    | 5, _ => exact h5_5
    | 6, _ => exact h5_6
    | 7, _ => exact h5_7
    | 8, _ => exact h5_8
    | 9, _ => exact h5_9
    | j + 10, hj => exact absurd hj (by lia)
  · match j, hj with
    | 0, _ => exact h6_0
    | 1, _ => exact h6_1
    | 2, _ => exact h6_2
    | 3, _ => exact h6_3
    | 4, _ => exact h6_4
    | 5, _ => exact h6_5
    | 6, _ => exact h6_6
    | 7, _ => exact h6_7
    | 8, _ => exact h6_8
    | 9, _ => exact h6_9
    | 10, _ => exact h6_10
    | 11, _ => exact h6_11
    | j + 12, hj => exact absurd hj (by lia)
  · match j, hj with
    | 0, _ => exact h7_0
    | 1, _ => exact h7_1
    | 2, _ => exact h7_2
    | 3, _ => exact h7_3
    | 4, _ => exact h7_4
    | 5, _ => exact h7_5
    | 6, _ => exact h7_6
    | 7, _ => exact h7_7
    | 8, _ => exact h7_8
    | 9, _ => exact h7_9
    | 10, _ => exact h7_10
    | 11, _ => exact h7_11
    | 12, _ => exact h7_12
    | 13, _ => exact h7_13
    | j + 14, hj => exact absurd hj (by lia)
theorem evTests_one {ev : Sc → Rho → Expr → Option V} {sc : Sc} {ρ : Rho} {t : Expr} {b : Bool} (h : evB ev sc ρ t = some b) : evTests ev sc ρ [t] = some b := by
  exact oB_of h (by cases b <;> rfl)
theorem st_lc {k i : Nat} {ρ : Rho} {ω : Omg} {x : Str} {p cp pos : Pos} {elt target iter : Expr} {ifs : List Expr} {scope : Scope} {l ys : List V} (hi : lawB[i]? = some (.Assign [.Name x p] (.ListComp elt [⟨target, iter, ifs, 0⟩] scope cp) pos)) (hk : kOk lawSc x = true)
    (h1 : (namesOk lawSc ρ scope target && notSet iter) = true) (h2 : evIter (ev (Cx k) 59) lawSc ρ target iter = some l) (hl : l.length ≤ 100000)
    (h3 : evComp (ev (Cx k) 59) (relab (fun y => lawSc.lookup y) scope.names) (inner scope.names ρ) target elt ifs l = some ys) : st k i ρ ω = some (.nx (upd ρ x (.lst ys)) (era ω x)) := by
  unfold st
  rw [hi, Option.bind_some]
  rw [exq_asg, if_pos hk, exAq_comp, if_pos rfl]
  unfold evList
  rw [if_pos h1, oB_of h2 ((if_pos hl).trans h3)]
  rfl

noncomputable def nats (l : List Nat) : V := .lst (l.map fun (i : Nat) => V.int (i : Int))
noncomputable def upB (H : Nat → Int) (j : Nat) : Bool := decide (H j < H (j + 1))
noncomputable def downB (H : Nat → Int) (j : Nat) : Bool := decide (H (j + 1) < H j)
noncomputable def maxPre (H : Nat → Int) (j : Nat) : Int := (tab j fun i => H (i + 1)).foldl maxI (H 0)
noncomputable def maxPost (m : Nat) (H : Nat → Int) (j : Nat) : Int := (tab (m - j - 1) fun i => H (j + 2 + i)).foldl maxI (H (j + 1))
noncomputable def highB (H : Nat → Int) (j : Nat) : Bool := decide (maxPre H j < H (j + 1))
noncomputable def lastB (m : Nat) (H : Nat → Int) (j : Nat) : Bool := decide (maxPost m H j < H j)
noncomputable def risingL (n : Nat) (H : Nat → Int) : List Nat := (List.range (2 * n)).filter (upB H)
noncomputable def fallingL (n : Nat) (H : Nat → Int) : List Nat := (List.range (2 * n)).filter (downB H)
noncomputable def higherL (n : Nat) (H : Nat → Int) : List Nat := (risingL n H).filter (highB H)
noncomputable def lastingL (n : Nat) (H : Nat → Int) : List Nat := (fallingL n H).filter (lastB (2 * n) H)
theorem rangeV_nats (n : Nat) : rangeV 0 (n : Int) = (List.range n).map fun (i : Nat) => V.int (i : Int) := by
  unfold rangeV
  rw [show ((n : Int) - 0).toNat = n from by lia]
  exact List.map_congr_left fun i _ => by rw [Int.zero_add]

noncomputable abbrev fH (n : Nat) (H : Nat → Int) (ρ : Rho) : Rho := form [("size", .int n), ("heights", intsV (tab (2 * n + 1) H))] ρ
theorem d8 : ∃ t iter scope p q r cp pos, lawB[8]? = some (.Assign [.Name "rising" p] (.ListComp (.Name "place" q) [⟨.Name "place" r, iter, [t], 0⟩] scope cp) pos) ∧ kOk lawSc "rising" = true ∧
    (∀ k ρ H n, okN n → (namesOk lawSc (fH n H ρ) scope (.Name "place" r) && notSet iter) = true ∧ evIter (ev (Cx k) 59) lawSc (fH n H ρ) (.Name "place" r) iter = some (rangeV 0 ((2 * n : Nat) : Int))) ∧
    (∀ k ρ H n, okN n → ∀ j, j < 2 * n → evB (ev (Cx k) 59) (relab (fun y => lawSc.lookup y) scope.names) (upd (inner scope.names (fH n H ρ)) "place" (.int j)) t = some (upB H j)) ∧
    (∀ k ρ, ∀ j : Nat, ev (Cx k) 59 (relab (fun y => lawSc.lookup y) scope.names) (upd ρ "place" (.int j)) (.Name "place" q) = some (.int j)) := by
  refine ⟨_, _, _, _, _, _, _, _, rfl, by kernel_rfl, fun k ρ H => by apply fall0 <;> exact ⟨by kernel_rfl, by kernel_rfl⟩, fun k ρ H => ?_, fun k ρ j => by kernel_rfl⟩
  apply fall2 <;> kernel_rfl
theorem d9 : ∃ t iter scope p q r cp pos, lawB[9]? = some (.Assign [.Name "falling" p] (.ListComp (.Name "place" q) [⟨.Name "place" r, iter, [t], 0⟩] scope cp) pos) ∧ kOk lawSc "falling" = true ∧
    (∀ k ρ H n, okN n → (namesOk lawSc (fH n H ρ) scope (.Name "place" r) && notSet iter) = true ∧ evIter (ev (Cx k) 59) lawSc (fH n H ρ) (.Name "place" r) iter = some (rangeV 0 ((2 * n : Nat) : Int))) ∧
    (∀ k ρ H n, okN n → ∀ j, j < 2 * n → evB (ev (Cx k) 59) (relab (fun y => lawSc.lookup y) scope.names) (upd (inner scope.names (fH n H ρ)) "place" (.int j)) t = some (downB H j)) ∧
    (∀ k ρ, ∀ j : Nat, ev (Cx k) 59 (relab (fun y => lawSc.lookup y) scope.names) (upd ρ "place" (.int j)) (.Name "place" q) = some (.int j)) := by
  refine ⟨_, _, _, _, _, _, _, _, rfl, by kernel_rfl, fun k ρ H => by apply fall0 <;> exact ⟨by kernel_rfl, by kernel_rfl⟩, fun k ρ H => ?_, fun k ρ j => by kernel_rfl⟩
  apply fall2 <;> kernel_rfl
noncomputable abbrev fR (n : Nat) (H : Nat → Int) (x : Str) (l : List V) (ρ : Rho) : Rho := form [("heights", intsV (tab (2 * n + 1) H)), (x, .lst l)] ρ
theorem d10 : ∃ t iter scope p q r cp pos, lawB[10]? = some (.Assign [.Name "higher" p] (.ListComp (.Name "place" q) [⟨.Name "place" r, iter, [t], 0⟩] scope cp) pos) ∧ kOk lawSc "higher" = true ∧
    (∀ k ρ H n l, (namesOk lawSc (fR n H "rising" l ρ) scope (.Name "place" r) && notSet iter) = true ∧ evIter (ev (Cx k) 59) lawSc (fR n H "rising" l ρ) (.Name "place" r) iter = some l) ∧
    (∀ k ρ H l n, okN n → ∀ j, j < 2 * n → evB (ev (Cx k) 59) (relab (fun y => lawSc.lookup y) scope.names) (upd (inner scope.names (fR n H "rising" l ρ)) "place" (.int j)) t = some (highB H j)) ∧
    (∀ k ρ, ∀ j : Nat, ev (Cx k) 59 (relab (fun y => lawSc.lookup y) scope.names) (upd ρ "place" (.int j)) (.Name "place" q) = some (.int j)) := by
  refine ⟨_, _, _, _, _, _, _, _, rfl, by kernel_rfl, fun k ρ H n l => ⟨by kernel_rfl, by kernel_rfl⟩, fun k ρ H l => ?_, fun k ρ j => by kernel_rfl⟩
  apply fall2 <;> kernel_rfl
theorem d11 : ∃ t iter scope p q r cp pos, lawB[11]? = some (.Assign [.Name "lasting" p] (.ListComp (.Name "place" q) [⟨.Name "place" r, iter, [t], 0⟩] scope cp) pos) ∧ kOk lawSc "lasting" = true ∧
    (∀ k ρ H n l, (namesOk lawSc (fR n H "falling" l ρ) scope (.Name "place" r) && notSet iter) = true ∧ evIter (ev (Cx k) 59) lawSc (fR n H "falling" l ρ) (.Name "place" r) iter = some l) ∧
    (∀ k ρ H l n, okN n → ∀ j, j < 2 * n → evB (ev (Cx k) 59) (relab (fun y => lawSc.lookup y) scope.names) (upd (inner scope.names (fR n H "falling" l ρ)) "place" (.int j)) t = some (lastB (2 * n) H j)) ∧
    (∀ k ρ, ∀ j : Nat, ev (Cx k) 59 (relab (fun y => lawSc.lookup y) scope.names) (upd ρ "place" (.int j)) (.Name "place" q) = some (.int j)) := by
  refine ⟨_, _, _, _, _, _, _, _, rfl, by kernel_rfl, fun k ρ H n l => ⟨by kernel_rfl, by kernel_rfl⟩, fun k ρ H l => ?_, fun k ρ j => by kernel_rfl⟩
  apply fall2 <;> kernel_rfl

theorem st8 (k : Nat) (ρ : Rho) (ω : Omg) (H : Nat → Int) {n : Nat} (hn : okN n) : st k 8 (fH n H ρ) ω = some (.nx (upd (fH n H ρ) "rising" (nats (risingL n H))) (era ω "rising")) := by
  refine xEEEEEEEE d8 fun t iter scope p q r cp pos qr0 => xAAAA qr0 fun h1 h2 h3 h4 h5 => ?_
  refine st_lc h1 h2 (h3 k ρ H n hn).1 (h3 k ρ H n hn).2 ?_ ?_
  · rw [rangeV_nats, List.length_map, List.length_range]; rcases hn with rfl | rfl | rfl | rfl <;> decide
  · rw [rangeV_nats]
    exact evComp_filter (inj := fun (i : Nat) => V.int (i : Int)) (out := fun (i : Nat) => V.int (i : Int)) fun j hj => ⟨_, rfl, evTests_one (h4 k ρ H n hn j (List.mem_range.mp hj)), fun _ => h5 k _ j⟩
theorem st9 (k : Nat) (ρ : Rho) (ω : Omg) (H : Nat → Int) {n : Nat} (hn : okN n) : st k 9 (fH n H ρ) ω = some (.nx (upd (fH n H ρ) "falling" (nats (fallingL n H))) (era ω "falling")) := by
  refine xEEEEEEEE d9 fun t iter scope p q r cp pos qr1 => xAAAA qr1 fun h1 h2 h3 h4 h5 => ?_
  refine st_lc h1 h2 (h3 k ρ H n hn).1 (h3 k ρ H n hn).2 ?_ ?_
  · rw [rangeV_nats, List.length_map, List.length_range]; rcases hn with rfl | rfl | rfl | rfl <;> decide
  · rw [rangeV_nats]
    exact evComp_filter (inj := fun (i : Nat) => V.int (i : Int)) (out := fun (i : Nat) => V.int (i : Int)) fun j hj => ⟨_, rfl, evTests_one (h4 k ρ H n hn j (List.mem_range.mp hj)), fun _ => h5 k _ j⟩
theorem len_filter {n : Nat} {P : Nat → Bool} (hn : okN n) : (((List.range (2 * n)).filter P).map fun (i : Nat) => V.int (i : Int)).length ≤ 1000 := by
  rw [List.length_map]
  refine Nat.le_trans (List.length_filter_le _ _) ?_
  rw [List.length_range]; rcases hn with rfl | rfl | rfl | rfl <;> decide
theorem mem_lt {n j : Nat} {P : Nat → Bool} (h : j ∈ (List.range (2 * n)).filter P) : j < 2 * n := List.mem_range.mp (List.mem_filter.mp h).1
theorem st10 (k : Nat) (ρ : Rho) (ω : Omg) (H : Nat → Int) {n : Nat} (hn : okN n) : st k 10 (form [("heights", intsV (tab (2 * n + 1) H)), ("rising", nats (risingL n H))] ρ) ω = some (.nx (upd (form [("heights", intsV (tab (2 * n + 1) H)), ("rising", nats (risingL n H))] ρ) "higher" (nats (higherL n H))) (era ω "higher")) := by
  refine xEEEEEEEE d10 fun t iter scope p q r cp pos qr2 => xAAAA qr2 fun h1 h2 h3 h4 h5 => ?_
  refine st_lc h1 h2 (h3 k ρ H n _).1 (h3 k ρ H n _).2 ?_ ?_
  · exact Nat.le_trans (len_filter hn) (by decide)
  · exact evComp_filter (inj := fun (i : Nat) => V.int (i : Int)) (out := fun (i : Nat) => V.int (i : Int)) fun j hj => ⟨_, rfl, evTests_one (h4 k ρ H _ n hn j (mem_lt hj)), fun _ => h5 k _ j⟩
theorem st11 (k : Nat) (ρ : Rho) (ω : Omg) (H : Nat → Int) {n : Nat} (hn : okN n) : st k 11 (form [("heights", intsV (tab (2 * n + 1) H)), ("falling", nats (fallingL n H))] ρ) ω = some (.nx (upd (form [("heights", intsV (tab (2 * n + 1) H)), ("falling", nats (fallingL n H))] ρ) "lasting" (nats (lastingL n H))) (era ω "lasting")) := by
  refine xEEEEEEEE d11 fun t iter scope p q r cp pos qr3 => xAAAA qr3 fun h1 h2 h3 h4 h5 => ?_
  refine st_lc h1 h2 (h3 k ρ H n _).1 (h3 k ρ H n _).2 ?_ ?_
  · exact Nat.le_trans (len_filter hn) (by decide)
  · exact evComp_filter (inj := fun (i : Nat) => V.int (i : Int)) (out := fun (i : Nat) => V.int (i : Int)) fun j hj => ⟨_, rfl, evTests_one (h4 k ρ H _ n hn j (mem_lt hj)), fun _ => h5 k _ j⟩
end Mine

namespace Mine
open PySem PyProof.Rows PySem.W PySem.SeqAt PySem.Builtin

section
variable {c : Ct} {m : Nat} {sc : Sc} {ρ : Rho}
theorem ev_meth {o : Expr} {n : Str} {apos pos : Pos} {es : List Expr} {x y : V} {xs : List V} (h0 : (notBare o && apos.endLine == pos.line && decide (es.length < 30)) = true) (hre : isRe o = false) (h1 : ev c m sc ρ o = some x) (h2 : evs (ev c m) sc ρ es = some xs) (h3 : mthV x n xs = some y) :
    ev c (m + 1) sc ρ (.Call (.Attribute o n apos) es [] pos) = some y := by
  rw [evq_meth]
  unfold evMeth
  rw [if_pos h0, if_neg (by rw [hre]; decide)]
  exact oB_of h1 (oB_of h2 h3)
theorem ev_slice {v : Expr} {lo hi st : Option Expr} {p pos : Pos} {a r : V} {x y z : Option Int} (h1 : ev c m sc ρ v = some a) (h2 : evP (ev c m) sc ρ lo = some x) (h3 : evP (ev c m) sc ρ hi = some y) (h4 : evP (ev c m) sc ρ st = some z) (h5 : sliceV a x y z = some r) :
    ev c (m + 1) sc ρ (.Subscript v (.Slice lo hi st p) pos) = some r := by
  exact evq_slice.trans (oB_of h1 (oB_of h2 (oB_of h3 (oB_of h4 h5))))
theorem ev_bin {l r : Expr} {op : Operator} {p : Pos} {a b x : V} (h1 : ev c m sc ρ l = some a) (h2 : ev c m sc ρ r = some b) (h3 : binW op a b = some x) : ev c (m + 1) sc ρ (.BinOp l op r p) = some x := by
  exact evq_bin.trans (oB_of h1 (oB_of h2 h3))
theorem evs_nil : evs (ev c m) sc ρ [] = some [] := rfl
theorem evs_cons {e : Expr} {es : List Expr} {x : V} {l : List V} (h0 : isStar e = false) (h1 : ev c m sc ρ e = some x) (h2 : evs (ev c m) sc ρ es = some l) : evs (ev c m) sc ρ (e :: es) = some (x :: l) := by
  exact (if_neg (by rw [h0]; decide)).trans (oB_of h1 (oB_of h2 rfl))
theorem ex_while {ω : Omg} {top : Bool} {t : Expr} {body : List Stmt} {pos : Pos} {r : Option Out} (h : exWh (ex c m sc) (evB (ev c m) sc) t body 12 ρ ω = r) : ex c (m + 1) sc ρ ω top (.While t body [] pos) = r := by
  rw [exq_wh]
  exact h
end
section
variable {ex' : Rho → Omg → Bool → Stmt → Option Out} {evb : Rho → Expr → Option Bool} {t : Expr} {body : List Stmt} {ρ ρ1 : Rho} {ω ω1 : Omg} {n : Nat}
theorem exWh_end (h : evb ρ t = some false) : exWh ex' evb t body (n + 1) ρ ω = some (.nx ρ ω) := by
  exact oB_of h rfl
theorem exWh_step {r : Option Out} (h : evb ρ t = some true) (h2 : exs ex' ρ ω false body = some (.nx ρ1 ω1)) (h3 : exWh ex' evb t body n ρ1 ω1 = r) : exWh ex' evb t body (n + 1) ρ ω = r := by
  exact oB_of h (oB_of h2 h3)
end
theorem era_omg0 (n : Str) : era omg0 n = omg0 := era_none rfl

noncomputable def apb : Array UInt8 := #[65, 66, 67, 68, 69, 70, 71, 72, 73, 74, 75, 76, 77, 78, 79, 80]
namespace CI2a
noncomputable def fd : Fd := (dsP.find? (fun fd => fd.name == ("Int2AP" : Str))).get (by kernel_rfl)
noncomputable def rt : T := .ss fd.body
noncomputable def s0 : Stmt := tS rt 16
noncomputable def s1 : Stmt := tS rt 17
noncomputable def s2 : Stmt := tS rt 18
noncomputable def s3 : Stmt := tS rt 4115
noncomputable def sl : Expr := tE rt 1052947
theorem h1 : dsP.find? (fun fd => fd.name == ("Int2AP" : Str)) = some fd := (by kernel_rfl)
theorem h2 : fdOk fd 1 = true := by kernel_rfl
theorem h3 : pnames fd.params = [("num" : Str)] := by kernel_rfl
theorem h4 : fd.body = [s0, s1, s2, .While (.Name "num" (tP CI2a.rt 4355)) [s3, .Assign [.Name "val" (tP CI2a.rt 17826067)] (.BinOp sl .Add (.Name "val" (tP CI2a.rt 17961235)) (tP CI2a.rt 1249555)) (tP CI2a.rt 74003)] [] (tP CI2a.rt 307), .Return (some (.Name "val" (tP CI2a.rt 69636))) (tP CI2a.rt 276)] := (by kernel_rfl)
theorem f0 : isFor s0 = false := by kernel_rfl
theorem f1 : isFor s1 = false := by kernel_rfl
theorem f2 : isFor s2 = false := by kernel_rfl
theorem kv : kOk fd.scope.names "val" = true := by kernel_rfl
theorem lv : fd.scope.names.lookup ("val" : Str) = some .local := by kernel_rfl
theorem ln : fd.scope.names.lookup ("num" : Str) = some .local := by kernel_rfl
theorem e0 : ∀ k ρ, ex (Cx k) 60 fd.scope.names ρ omg0 true s0 = some (.nx (upd ρ "val" (.byt #[])) (era omg0 "val")) := fun k ρ => by kernel_rfl
theorem e1 : ∀ k ρ, ex (Cx k) 60 fd.scope.names ρ omg0 true s1 = some (.nx (upd ρ "AP" (.byt apb)) (era omg0 "AP")) := fun k ρ => by kernel_rfl
theorem e2 : ∀ k ρ a, ex (Cx k) 60 fd.scope.names (form [("num", .int a)] ρ) omg0 true s2 = some (.nx (upd (form [("num", .int a)] ρ) "num" (.int (if a < 0 then -a else a))) (era omg0 "num")) := fun k ρ a => by kernel_rfl
theorem et : ∀ k ρ a, evB (ev (Cx k) 59) fd.scope.names (form [("num", .int a)] ρ) (.Name "num" (tP CI2a.rt 4355)) = some (a != 0) := fun k ρ a => by kernel_rfl
theorem e3 : ∀ k ρ a, ex (Cx k) 59 fd.scope.names (form [("num", .int a)] ρ) omg0 false s3 = some (.nx (upd (upd (form [("num", .int a)] ρ) "num" (.int (a.fdiv 16))) "mod" (.int (a.fmod 16))) omg0) := fun k ρ a => by kernel_rfl
theorem e4 : ∀ k ρ (j : Nat), j < 16 → ev (Cx k) 57 fd.scope.names (form [("AP", .byt apb), ("mod", .int j)] ρ) sl = some (.byt #[UInt8.ofNat (65 + j)]) := fun k ρ j hj => by
    match j, hj with
    | 0, _ => kernel_rfl
    | 1, _ => kernel_rfl
    | 2, _ => kernel_rfl
    | 3, _ => kernel_rfl
    | 4, _ => kernel_rfl
    | 5, _ => kernel_rfl
    | 6, _ => kernel_rfl
    | 7, _ => kernel_rfl
    | 8, _ => kernel_rfl
    | 9, _ => kernel_rfl
    | 10, _ => kernel_rfl
    | 11, _ => kernel_rfl
    | 12, _ => kernel_rfl
    | 13, _ => kernel_rfl
    | 14, _ => kernel_rfl
    | 15, _ => kernel_rfl
    | j + 16, hj => exact absurd hj (by lia)
end CI2a
/-- the letters of a number -/
noncomputable def apL : Nat → Nat → List Nat
  | 0, _ => []
  | f + 1, M => if M = 0 then [] else apL f (M / 16) ++ [M % 16]
noncomputable def apB (l : List Nat) : Array UInt8 := (l.map fun d => UInt8.ofNat (65 + d)).toArray
theorem apB_snoc (l : List Nat) (d : Nat) (v : Array UInt8) : apB (l ++ [d]) ++ v = apB l ++ (#[UInt8.ofNat (65 + d)] ++ v) := by
  unfold apB
  rw [List.map_append, ← Array.append_assoc]
  simp

structure I2 (M : Nat) (v : Array UInt8) (ρ : Rho) : Prop where
  num : ρ "num" = some (.int M)
  val : ρ "val" = some (.byt v)
  ap : ρ "AP" = some (.byt apb)

open CI2a in
theorem i2a_call (k M f : Nat) (hf : M < 16 ^ f) (hf2 : f ≤ 11) {a : Int} (ha : a = -(M : Int)) : cF (k + 1) "Int2AP" [.int a] = some (.byt (apB (apL f M))) := by
  have loop : ∀ (f r M : Nat) (v : Array UInt8) (ρ : Rho), M < 16 ^ f → v.size + f ≤ 11 → I2 M v ρ → ∃ ρ', exWh (ex (Cx k) 59 fd.scope.names) (evB (ev (Cx k) 59) fd.scope.names) (.Name "num" (tP CI2a.rt 4355)) [s3, .Assign [.Name "val" (tP CI2a.rt 17826067)] (.BinOp sl .Add (.Name "val" (tP CI2a.rt 17961235)) (tP CI2a.rt 1249555)) (tP CI2a.rt 74003)] (f + r + 1) ρ omg0 = some (.nx ρ' omg0) ∧ ρ' "val" = some (.byt (apB (apL f M) ++ v)) := by
    intro f
    induction f with
    | zero =>
      intro r M v ρ hM hv hI
      have hM0 : M = 0 := by simpa using hM
      subst hM0
      have := et k ρ (0 : Nat)
      rw [form_eq (by intro q hq; rw [List.mem_singleton.mp hq]; exact hI.num)] at this
      exact ⟨ρ, exWh_end this, by rw [hI.val]; simp [apL, apB]⟩
    | succ f ih =>
      intro r M v ρ hM hv hI
      have ht := et k ρ (M : Int)
      have hs := e3 k ρ (M : Int)
      have hform : form [("num", .int (M : Int))] ρ = ρ := form_eq (by intro q hq; rw [List.mem_singleton.mp hq]; exact hI.num)
      rw [hform] at ht hs
      by_cases h0 : M = 0
      · subst h0
        exact ⟨ρ, exWh_end ht, by rw [hI.val]; simp [apL, apB]⟩
      · have hb : ((M : Int) != 0) = true := by simp; lia
        rw [hb] at ht
        have d1 : ((M : Int).fdiv 16) = ((M / 16 : Nat) : Int) := (Int.ofNat_fdiv M 16).symm
        have d2 : ((M : Int).fmod 16) = ((M % 16 : Nat) : Int) := by rw [Int.fmod_eq_emod_of_nonneg _ (by decide)]; lia
        rw [d1, d2] at hs
        have hsl := e4 k (upd (upd ρ "num" (.int ((M / 16 : Nat) : Int))) "mod" (.int ((M % 16 : Nat) : Int))) (M % 16) (Nat.mod_lt _ (by decide))
        rw [form_eq (by
          intro q hq
          simp only [List.mem_cons, List.not_mem_nil, or_false] at hq
          rcases hq with rfl | rfl
          · exact (upd_ne (by decide)).trans ((upd_ne (by decide)).trans hI.ap)
          · exact upd_eq)] at hsl
        (refine xEA (ih r (M / 16) (#[UInt8.ofNat (65 + M % 16)] ++ v) (upd (upd (upd ρ "num" (.int ((M / 16 : Nat) : Int))) "mod" (.int ((M % 16 : Nat) : Int))) "val" (.byt (#[UInt8.ofNat (65 + M % 16)] ++ v)))           (by rw [Nat.pow_succ] at hM; exact Nat.div_lt_of_lt_mul (by rw [Nat.mul_comm]; exact hM)) (by rw [Array.size_append]; simp; lia)           ⟨(upd_ne (by decide)).trans ((upd_ne (by decide)).trans upd_eq), upd_eq, (upd_ne (by decide)).trans ((upd_ne (by decide)).trans ((upd_ne (by decide)).trans hI.ap))⟩) fun ρ' hx hv' => ?_)
        refine ⟨ρ', ?_, ?_⟩
        · rw [show f + 1 + r + 1 = (f + r + 1) + 1 from by lia]
          refine exWh_step (ρ1 := upd (upd (upd ρ "num" (.int ((M / 16 : Nat) : Int))) "mod" (.int ((M % 16 : Nat) : Int))) "val" (.byt (#[UInt8.ofNat (65 + M % 16)] ++ v))) (ω1 := era omg0 "val") ht (exs_cons hs rfl (exs_cons (ex_asg kv rfl rfl (ev_bin hsl (ev_name lv (by decide) (by decide) ((upd_ne (by decide)).trans ((upd_ne (by decide)).trans hI.val))) ?_)) rfl exs_nil)) ?_
          · exact if_pos (by simp; lia)
          · rw [era_omg0]; exact hx
        · rw [hv']
          rw [show apL (f + 1) M = apL f (M / 16) ++ [M % 16] from if_neg h0, apB_snoc]
  have hab : (if a < 0 then -a else a) = (M : Int) := by subst ha; split <;> lia
  refine xEA (loop f (11 - f) M #[] (upd (upd (upd (rho ["num"] [.int a]) "val" (.byt #[])) "AP" (.byt apb)) "num" (.int M)) hf (by simpa using hf2) ⟨upd_eq, (upd_ne (by decide)).trans ((upd_ne (by decide)).trans upd_eq), (upd_ne (by decide)).trans upd_eq⟩) fun ρ' hx hv => ?_
  rw [show f + (11 - f) + 1 = 12 from by lia] at hx
  refine callF_body h1 h2 ?_
  rw [h3, h4]
  refine exs_cons (e0 k _) (by rw [f0]; rfl) ?_
  rw [era_omg0]
  refine exs_cons (e1 k _) (by rw [f1]; rfl) ?_
  rw [era_omg0]
  have e2' := e2 k (upd (upd (rho ["num"] [.int a]) "val" (.byt #[])) "AP" (.byt apb)) a
  rw [form_eq (by intro q hq; rw [List.mem_singleton.mp hq]; rfl), hab] at e2'
  refine exs_cons e2' (by rw [f2]; rfl) ?_
  rw [era_omg0]
  refine exs_cons (ex_while hx) rfl ?_
  refine exs_ret (ev_name lv (by decide) (by decide) ?_)
  rw [hv]; simp
end Mine

namespace Mine
open PySem PyProof.Rows PySem.W PySem.SeqAt PySem.Builtin PySem.Builtin.Str

theorem seg_get {α : Type} : ∀ (m b : Nat) (x : List α), (List.range m).filterMap (fun k => x[b + k]?) = (x.drop b).take m
  | 0, b, x => by simp
  | m + 1, b, x => by
    rw [List.range_succ, List.filterMap_append, seg_get m b x, List.take_add_one]
    congr 1
    rw [List.getElem?_drop]
    cases h : x[b + m]? <;> simp [h]
theorem str_mk {x y : Str} (h : x.cps.toList = y.cps.toList) : x = y := by
  obtain ⟨a⟩ := x
  obtain ⟨b⟩ := y
  have : a = b := Array.toList_inj.mp h
  rw [this]
theorem idx_lo (a n : Nat) (h : a ≤ n) : strSliceIndices none (some (a : Int)) 1 n = List.range a := by
  unfold strSliceIndices sliceRange
  simp only [show (1 : Int) > 0 by decide, if_true]
  rw [if_neg (by lia : ¬ (a : Int) < 0)]
  have e : max 0 (min (a : Int) n) = a := by lia
  rw [e]
  have e2 : (if (0 : Int) < a then ((a : Int) - 0 + 1 - 1) / 1 else 0).toNat = a := by
    split
    · rw [Int.ediv_one]; lia
    · lia
  rw [e2]
  have : (fun (k : Nat) => ((0 : Int) + 1 * (k : Int)).toNat) = _root_.id := by funext k; simp
  rw [this, List.map_id]
theorem idx_hi (b n : Nat) (h : b ≤ n) : strSliceIndices (some (b : Int)) none 1 n = (List.range (n - b)).map fun k => b + k := by
  unfold strSliceIndices sliceRange
  simp only [show (1 : Int) > 0 by decide, if_true]
  rw [if_neg (by lia : ¬ (b : Int) < 0)]
  have e : max 0 (min (b : Int) n) = b := by lia
  rw [e]
  have e2 : (if (b : Int) < n then ((n : Int) - b + 1 - 1) / 1 else 0).toNat = n - b := by
    split
    · rw [Int.ediv_one]; lia
    · lia
  rw [e2]
  refine List.map_congr_left fun k _ => ?_
  lia
theorem slice_lo (x : Str) (a : Nat) (h : a ≤ x.length) : (Txt.slice x none (some (a : Int))).cps.toList = x.cps.toList.take a := by
  have hl : x.length = x.cps.toList.length := by show x.cps.size = _; simp
  unfold Txt.slice
  split
  · rename_i q
    rw [idx_lo a _ h] at q
    have : a = x.length := by simpa using q
    rw [List.take_of_length_le (by lia)]
  · rw [idx_lo a _ h]
    have := seg_get a 0 x.cps.toList
    simp only [Nat.zero_add, Array.getElem?_toList] at this
    show (List.filterMap (fun k => x.cps[k]?) (List.range a)) = _
    rw [this]; rfl
theorem slice_hi (x : Str) (b : Nat) (h : b ≤ x.length) : (Txt.slice x (some (b : Int)) none).cps.toList = x.cps.toList.drop b := by
  have hl : x.length = x.cps.toList.length := by show x.cps.size = _; simp
  unfold Txt.slice
  split
  · rename_i q
    rw [idx_hi b _ h] at q
    simp at q
    have : b = 0 := by lia
    subst this; rfl
  · rw [idx_hi b _ h]
    have := seg_get (x.length - b) b x.cps.toList
    simp only [Array.getElem?_toList] at this
    show (List.filterMap (fun k => x.cps[k]?) ((List.range (x.length - b)).map fun k => b + k)) = _
    rw [List.filterMap_map]
    show (List.filterMap (fun k => x.cps[b + k]?) (List.range (x.length - b))) = _
    rw [this, List.take_of_length_le (by rw [List.length_drop]; lia)]

/-- the figures of a number -/
noncomputable def digs : Nat → Nat → List Nat
  | 0, _ => []
  | m + 1, N => digs m (N / 16) ++ [N % 16]
noncomputable def figN (n N i : Nat) : Nat := N / 16 ^ (n - 1 - i) % 16
theorem figAt_nat (n N i : Nat) : figAt n (N : Int) i = (figN n N i : Int) := by
  unfold figAt figN
  have e : ((16 : Int) ^ (n - 1 - i)) = ((16 ^ (n - 1 - i) : Nat) : Int) := by rw [Int.natCast_pow]; rfl
  rw [e, ← Int.ofNat_fdiv, Int.fmod_eq_emod_of_nonneg _ (by decide)]
  lia
theorem digs_tab : ∀ (n N : Nat), digs n N = tab n (figN n N)
  | 0, N => rfl
  | n + 1, N => by
    rw [tab_succ]
    unfold digs
    rw [digs_tab n (N / 16)]
    congr 1
    · unfold tab
      refine List.map_congr_left fun i hi => ?_
      have hi := List.mem_range.mp hi
      unfold figN
      rw [Nat.div_div_eq_div_mul, show n + 1 - 1 - i = (n - 1 - i) + 1 from by lia, Nat.pow_succ, Nat.mul_comm]
    · unfold figN
      rw [show n + 1 - 1 - n = 0 from by lia, Nat.pow_zero, Nat.div_one]
theorem apL_digs : ∀ (n N : Nat), N < 16 ^ n → apL (n + 1) (16 ^ n + N) = 1 :: digs n N
  | 0, N, h => by
    have : N = 0 := by simpa using h
    subst this; rfl
  | n + 1, N, h => by
    have hp : 0 < 16 ^ n := Nat.pow_pos (by decide)
    have h2 : N / 16 < 16 ^ n := by rw [Nat.pow_succ] at h; lia
    have e1 : (16 ^ (n + 1) + N) / 16 = 16 ^ n + N / 16 := by rw [Nat.pow_succ]; lia
    have e2 : (16 ^ (n + 1) + N) % 16 = N % 16 := by rw [Nat.pow_succ]; lia
    show (if 16 ^ (n + 1) + N = 0 then [] else apL (n + 1) ((16 ^ (n + 1) + N) / 16) ++ [(16 ^ (n + 1) + N) % 16]) = _
    rw [if_neg (by rw [Nat.pow_succ]; lia), e1, e2, apL_digs n _ h2]
    rfl
theorem digs_lt : ∀ (n N : Nat), ∀ d ∈ digs n N, d < 16
  | 0, _, _, h => nM h
  | n + 1, N, d, h => by
    unfold digs at h
    rcases List.mem_append.mp h with h | h
    · exact digs_lt n _ d h
    · rw [List.mem_singleton.mp h]; exact Nat.mod_lt _ (by decide)
theorem digs_len : ∀ (n N : Nat), (digs n N).length = n
  | 0, _ => rfl
  | n + 1, N => by unfold digs; rw [List.length_append, digs_len n]; rfl

theorem apB_toNat {l : List Nat} (h : ∀ d ∈ l, d < 16) : (apB l).toList.map (·.toNat) = l.map fun d => 65 + d := by
  unfold apB
  rw [List.map_map]
  refine List.map_congr_left fun d hd => ?_
  have := h d hd
  show (UInt8.ofNat (65 + d)).toNat = 65 + d
  rw [UInt8.toNat_ofNat']
  exact Nat.mod_eq_of_lt (by lia)
theorem apB_ascii {l : List Nat} (h : ∀ d ∈ l, d < 16) : asciiB (apB l) = true := by
  unfold asciiB
  refine List.all_eq_true.mpr fun c hc => ?_
  have : c.toNat ∈ (apB l).toList.map (·.toNat) := List.mem_map_of_mem hc
  rw [apB_toNat h] at this
  refine xEA (List.mem_map.mp this) fun d hd e => ?_
  have := h d hd
  simp; lia
theorem apB_size (l : List Nat) : (apB l).size = l.length := by unfold apB; simp
theorem apB_decode {l : List Nat} (h : ∀ d ∈ l, d < 16) (h0 : l ≠ []) (hl : l.length ≤ 1000) : mthV (.byt (apB l)) "decode" [.str "ascii"] = some (.str ⟨(l.map fun d => 65 + d).toArray⟩) := by
  show oO (decM (apB l) "decode" [.str "ascii"]) none = _
  rw [oO_none]
  unfold decM
  rw [if_pos rfl]
  refine (if_pos ⟨rfl, by rw [apB_size]; intro q; exact h0 (List.length_eq_zero_iff.mp q), apB_ascii h, by rw [apB_size]; exact hl⟩).trans ?_
  congr 2
  refine str_mk ?_
  unfold textB
  rw [Array.toList_map, apB_toNat h]
theorem chars_tail {d : Nat} {l : List Nat} : chars (Txt.slice ⟨((d :: l).map fun d => 65 + d).toArray⟩ (some 1) none) = l.map fun d => .str ⟨#[65 + d]⟩ := by
  unfold chars
  have := slice_hi ⟨((d :: l).map fun d => 65 + d).toArray⟩ 1 (by show 1 ≤ (((d :: l).map fun d => 65 + d).toArray).size; simp)
  rw [show (some (1 : Int)) = some ((1 : Nat) : Int) from rfl, this]
  show ((((d :: l).map fun d => 65 + d).toArray).toList.drop 1).map _ = _
  rw [List.map_cons]
  show ((l.map fun d => 65 + d)).map _ = _
  rw [List.map_map]
  rfl
end Mine

namespace Mine
open PySem PyProof.Rows PySem.W PySem.SeqAt PySem.Builtin

noncomputable abbrev fN (n : Nat) (N : Nat) (ρ : Rho) : Rho := form [("size", .int n), ("number", .int N)] ρ
namespace C13
noncomputable def rt : T := .s ((lawB[12]?).getD default)
noncomputable def rt1 : T := .s ((lawB[13]?).getD default)
noncomputable def a : Expr := tE rt1 16842753
noncomputable def es : List Expr := tEs rt1 17829890
noncomputable def k1 : Nat := tN rt1 1114369
theorem e12 : lawB[12]? = some (.Assign [.Name "ring" (tP C13.rt 4352)] (.List [] (tP C13.rt 273)) (tP C13.rt 18)) := (by kernel_rfl)
theorem e13 : lawB[13]? = some (.For (.Name "letter" (tP C13.rt1 272)) (.Subscript (.Call (.Attribute (.Call (.Name "Int2AP" (tP C13.rt1 17825793)) [a] [] (tP C13.rt1 1245185)) "decode" (tP C13.rt1 73729)) [.Constant (.str "ascii") k1 (tP C13.rt1 1179905)] [] (tP C13.rt1 4865)) (.Slice (some (.Constant (.int 1) 0 (tP C13.rt1 1179665))) none none (tP C13.rt1 4881)) (tP C13.rt1 289)) [.Expr (.Call (.Attribute (.Name "ring" (tP C13.rt1 17825794)) "append" (tP C13.rt1 1179650)) [.Call (.Name "_law_colour" (tP C13.rt1 285216770)) es [] (tP C13.rt1 19927042)] [] (tP C13.rt1 77826)) (tP C13.rt1 4354)] [] (tP C13.rt1 20)) := (by kernel_rfl)
theorem g1 : (tP C13.rt1 73729).endLine = (tP C13.rt1 4865).line := by kernel_rfl
theorem g2 : isStar a = false := by kernel_rfl
theorem g3 : lawSc.lookup ("Int2AP" : Str) = some .globalImplicit := by kernel_rfl
theorem g4 : lawSc.lookup ("_law_colour" : Str) = some .globalImplicit := by kernel_rfl
theorem g5 : ((tP C13.rt1 1179650).endLine == (tP C13.rt1 77826).line) = true := by kernel_rfl
theorem g6 : kOk lawSc "letter" = true := by kernel_rfl
theorem g7 : kOk lawSc "ring" = true := by kernel_rfl
theorem ha : ∀ k ρ N n, okN n → ev (Cx k) 56 lawSc (fN n N ρ) a = some (.int (-((16 : Int) ^ n) - N)) := fun k ρ N => by
    apply fall0 <;> kernel_rfl
theorem hes : ∀ k ρ (d : Nat), d < 16 → evs (ev (Cx k) 57) lawSc (form [("letter", .str ⟨#[65 + d]⟩)] ρ) es = some [.int ((d % 3 : Nat) : Int), .int ((d / 3 : Nat) : Int)] := fun k ρ d hd => by
    match d, hd with
    | 0, _ => kernel_rfl
    | 1, _ => kernel_rfl
    | 2, _ => kernel_rfl
    | 3, _ => kernel_rfl
    | 4, _ => kernel_rfl
    | 5, _ => kernel_rfl
    | 6, _ => kernel_rfl
    | 7, _ => kernel_rfl
    | 8, _ => kernel_rfl
    | 9, _ => kernel_rfl
    | 10, _ => kernel_rfl
    | 11, _ => kernel_rfl
    | 12, _ => kernel_rfl
    | 13, _ => kernel_rfl
    | 14, _ => kernel_rfl
    | 15, _ => kernel_rfl
    | d + 16, hd => exact absurd hd (by lia)
end C13
theorem evSeq_str {ev : Sc → Rho → Expr → Option V} {sc : Sc} {ρ : Rho} {target iter : Expr} {x : Str} (h1 : notSet iter = true) (h2 : isTgtName target = true) (h3 : ev sc ρ iter = some (.str x)) : evSeq ev sc ρ target iter = some (chars x) := by
  exact (if_pos h1).trans (oB_of h3 (if_pos h2))
theorem okP_mod (d : Nat) : okP ((d % 3 : Nat) : Int) := by unfold okP; lia
theorem okS_div {d : Nat} (h : d < 16) : okS ((d / 3 : Nat) : Int) := by unfold okS; lia

/-- the ring of the letters -/
noncomputable def ringV (n N : Nat) : List V := (digs n N).map fun d => colV ((d % 3 : Nat) : Int) ((d / 3 : Nat) : Int)
theorem pow_le {n : Nat} (hn : okN n) : n ≤ 7 := by rcases hn with rfl | rfl | rfl | rfl <;> decide
theorem st12 (k : Nat) (ρ : Rho) : st k 12 ρ omg0 = some (.nx (updO ρ "ring" none) (ownTo omg0 "ring" (.lst []))) := by kernel_rfl
theorem list_of_get {α : Type} {l : List α} {n : Nat} (h : l.length = n) : l.take n = l := List.take_of_length_le (by lia)
open C13 in
theorem st13 (k : Nat) (ρ : Rho) {n N : Nat} (hn : okN n) (hN : N < 16 ^ n) (h1 : ρ "size" = some (.int n)) (h2 : ρ "number" = some (.int N)) :
    ∃ ρ', st (k + 2) 13 ρ (ownTo omg0 "ring" (.lst [])) = some (.nx ρ' (ownTo omg0 "ring" (.lst (ringV n N)))) ∧ ∀ y : Str, y ≠ "letter" → ρ' y = ρ y := by
  have hn7 := pow_le hn
  have ha' := ha (k + 2) ρ N n hn
  rw [show fN n N ρ = ρ from form_eq (by
    intro q hq
    simp only [List.mem_cons, List.not_mem_nil, or_false] at hq
    rcases hq with rfl | rfl
    · exact h1
    · exact h2)] at ha'
  have hp : 0 < 16 ^ n := Nat.pow_pos (by decide)
  have call := i2a_call (k + 1) (16 ^ n + N) (n + 1) (by rw [Nat.pow_succ]; lia) (by lia) (a := -((16 : Int) ^ n) - N) (by
    rw [Int.natCast_add, Int.natCast_pow]; simp; lia)
  rw [apL_digs n N hN] at call
  have hlt : ∀ d ∈ (1 :: digs n N), d < 16 := by
    intro d hd
    rcases List.mem_cons.mp hd with rfl | hd
    · decide
    · exact digs_lt n N d hd
  have hl : (1 :: digs n N).length ≤ 1000 := by rw [List.length_cons, digs_len]; lia
  have hiter : ev (Cx (k + 2)) 59 lawSc ρ (.Subscript (.Call (.Attribute (.Call (.Name "Int2AP" (tP C13.rt1 17825793)) [a] [] (tP C13.rt1 1245185)) "decode" (tP C13.rt1 73729)) [.Constant (.str "ascii") k1 (tP C13.rt1 1179905)] [] (tP C13.rt1 4865)) (.Slice (some (.Constant (.int 1) 0 (tP C13.rt1 1179665))) none none (tP C13.rt1 4881)) (tP C13.rt1 289)) = some (.str (Txt.slice ⟨((1 :: digs n N).map fun d => 65 + d).toArray⟩ (some 1) none)) := by
    refine ev_slice (x := some 1) (y := none) (z := none) (ev_meth ?_ rfl ((ev_fn g3 (evs_cons g2 ha' evs_nil) (by decide +kernel)).trans call) rfl (apB_decode hlt (by simp) hl)) rfl rfl rfl ?_
    · show ((true && (tP C13.rt1 73729).endLine == (tP C13.rt1 4865).line) && decide ((1 : Nat) < 30)) = true
      rw [g1]; simp
    · refine oO_r rfl (oO_l (if_pos ?_))
      show (((1 :: digs n N).map fun d => 65 + d).toArray).size ≤ 16777216
      rw [List.size_toArray, List.length_map]; lia
  have hit : evIter (ev (Cx (k + 2)) 59) lawSc ρ (.Name "letter" (tP C13.rt1 272)) (.Subscript (.Call (.Attribute (.Call (.Name "Int2AP" (tP C13.rt1 17825793)) [a] [] (tP C13.rt1 1245185)) "decode" (tP C13.rt1 73729)) [.Constant (.str "ascii") k1 (tP C13.rt1 1179905)] [] (tP C13.rt1 4865)) (.Slice (some (.Constant (.int 1) 0 (tP C13.rt1 1179665))) none none (tP C13.rt1 4881)) (tP C13.rt1 289)) = some ((digs n N).map fun d => .str ⟨#[65 + d]⟩) := by
    exact (evSeq_str rfl rfl hiter).trans (by rw [chars_tail])
  have body := exFor_inv (ex' := ex (Cx (k + 2)) 59 lawSc) (target := .Name "letter" (tP C13.rt1 272)) (body := [.Expr (.Call (.Attribute (.Name "ring" (tP C13.rt1 17825794)) "append" (tP C13.rt1 1179650)) [.Call (.Name "_law_colour" (tP C13.rt1 285216770)) es [] (tP C13.rt1 19927042)] [] (tP C13.rt1 77826)) (tP C13.rt1 4354)])
    (fun j ρ1 ω1 => (∀ y : Str, y ≠ "letter" → ρ1 y = ρ y) ∧ ω1 = ownTo omg0 "ring" (.lst ((ringV n N).take j))) ((digs n N).map fun d => .str ⟨#[65 + d]⟩) 0 ρ (ownTo omg0 "ring" (.lst [])) ⟨fun _ _ => rfl, rfl⟩ ?_
  · (refine xEEA body ?_; clear body; intro ρ' ω' e i)
    rw [List.length_map, digs_len, Nat.zero_add] at i
    refine ⟨ρ', ?_, i.1⟩
    have : (ringV n N).take n = ringV n N := list_of_get (by unfold ringV; rw [List.length_map, digs_len])
    rw [← this, ← i.2]
    unfold st
    rw [e13, Option.bind_some]
    exact ex_for (by show (true && (kOk lawSc "letter" && true)) = true; rw [g6]; try rfl) hit e
  · intro j x ρ1 ω1 hx hi
    rw [Nat.zero_add] at hi ⊢
    rw [List.getElem?_map] at hx
    (refine xEA (Option.map_eq_some_iff.mp hx) fun d hd qq0 => ?_; subst qq0)
    have hd16 := digs_lt n N d (List.mem_of_getElem? hd)
    (refine xA hi ?_; clear hi; intro hi1 qq1; subst qq1)
    have hjl : j < n := by
      have := (List.getElem?_eq_some_iff.mp hd).1
      rw [digs_len] at this; exact this
    have he := hes (k + 2) (upd ρ1 "letter" (.str ⟨#[65 + d]⟩)) d hd16
    rw [form_eq (by intro q hq; rw [List.mem_singleton.mp hq]; exact upd_eq)] at he
    refine ⟨_, _, ownTo (ownTo omg0 "ring" (.lst ((ringV n N).take j))) "ring" (.lst ((ringV n N).take j ++ [colV ((d % 3 : Nat) : Int) ((d / 3 : Nat) : Int)])), rfl, rfl, exs_cons (ex_app (if_pos rfl) ?_ rfl (by decide) g5 ((ev_fn g4 he (by decide +kernel)).trans (col_call k (okP_mod d) (okS_div hd16)))) rfl exs_nil, fun y hy => (upd_ne hy).trans (hi1 y hy), ?_⟩
    · rw [List.length_take]; lia
    · rw [List.take_add_one]
      have : (ringV n N)[j]? = some (colV ((d % 3 : Nat) : Int) ((d / 3 : Nat) : Int)) := by unfold ringV; rw [List.getElem?_map, hd]; rfl
      rw [this]
      funext z
      simp only [ownTo]
      split <;> rfl
end Mine

namespace Mine
open PySem PyProof.Rows PySem.W PySem.SeqAt PySem.Builtin

namespace CUnm
noncomputable def fd : Fd := (dsP.find? (fun fd => fd.name == ("unmatched" : Str))).get (by kernel_rfl)
noncomputable def rt : T := .ss fd.body
noncomputable def s0 : Stmt := tS rt 16
noncomputable def a1 : Expr := tE rt 1048577
noncomputable def a2 : Expr := tE rt 269549569
noncomputable def b1 : Expr := tE rt 1056769
noncomputable def b2 : Expr := tE rt 268509185
theorem h1 : dsP.find? (fun fd => fd.name == ("unmatched" : Str)) = some fd := (by kernel_rfl)
theorem h2 : fdOk fd 1 = true := by kernel_rfl
theorem h3 : pnames fd.params = [("match" : Str)] := by kernel_rfl
theorem h4 : fd.body = [s0, .Return (some (.BinOp (.Subscript a1 (.Slice none (some a2) none (tP CUnm.rt 19988481)) (tP CUnm.rt 1179649)) .Add (.Subscript b1 (.Slice (some b2) none none (tP CUnm.rt 19996673)) (tP CUnm.rt 1187841)) (tP CUnm.rt 77825))) (tP CUnm.rt 273)] := (by kernel_rfl)
theorem h5 : isFor s0 = false := by kernel_rfl
theorem h6 : ∀ k t (b e c f : Nat), ex (Cx k) 60 fd.scope.names (rho ["match"] [.mat t b e c f]) omg0 true s0 = some (.nx (upd (upd (rho ["match"] [.mat t b e c f]) "start" (.int b)) "end" (.int e)) omg0) := fun k t b e c f => by kernel_rfl
theorem h7 : ∀ k t (b e c f : Nat), ev (Cx k) 57 fd.scope.names (upd (upd (rho ["match"] [.mat t b e c f]) "start" (.int b)) "end" (.int e)) a1 = some (.str t) ∧
      ev (Cx k) 57 fd.scope.names (upd (upd (rho ["match"] [.mat t b e c f]) "start" (.int b)) "end" (.int e)) a2 = some (.int b) ∧
      ev (Cx k) 57 fd.scope.names (upd (upd (rho ["match"] [.mat t b e c f]) "start" (.int b)) "end" (.int e)) b1 = some (.str t) ∧
      ev (Cx k) 57 fd.scope.names (upd (upd (rho ["match"] [.mat t b e c f]) "start" (.int b)) "end" (.int e)) b2 = some (.int e) := fun k t b e c f => ⟨by kernel_rfl, by kernel_rfl, by kernel_rfl, by kernel_rfl⟩
end CUnm
theorem evP_some {c : Ct} {m : Nat} {sc : Sc} {ρ : Rho} {e : Expr} {i : Int} (h : ev c m sc ρ e = some (.int i)) : evP (ev c m) sc ρ (some e) = some (some i) := by
  exact oB_of h rfl
theorem sliceV_str {x : Str} {lo hi : Option Int} (h : x.length ≤ 1000) : sliceV (.str x) lo hi none = some (.str (Txt.slice x lo hi)) := by
  exact oO_r rfl (oO_l (if_pos (Nat.le_trans h (by decide))))
theorem addV_str {x y : Str} (h : x.length ≤ 1000) (h' : y.length ≤ 1000) : binW .Add (.str x) (.str y) = some (.str (x ++ y)) := by
  exact (show oO (if x.length + y.length ≤ 16777216 then some (V.str (x ++ y)) else none) none = some (.str (x ++ y)) from oO_l (if_pos (Nat.le_trans (Nat.add_le_add h h') (by decide))))
open CUnm in
theorem unm_call (k : Nat) {t : Str} (ht : t.length ≤ 1000) (b e c f : Nat) : cF (k + 1) "unmatched" [.mat t b e c f] = some (.str (Txt.slice t none (some (b : Int)) ++ Txt.slice t (some (e : Int)) none)) := by
  refine xAAA (h7 k t b e c f) fun e1 e2 e3 e4 => ?_
  refine callF_body h1 h2 ?_
  rw [h3, h4]
  refine exs_cons (h6 k t b e c f) (by rw [h5]; rfl) (exs_ret (ev_bin (ev_slice e1 rfl (evP_some e2) rfl (sliceV_str ht)) (ev_slice e3 (evP_some e4) rfl rfl (sliceV_str ht)) (addV_str ?_ ?_)))
  · exact Nat.le_trans (Txt.slice_le _ _ _) ht
  · exact Nat.le_trans (Txt.slice_le _ _ _) ht

namespace CUpc
noncomputable def fd : Fd := (dsP.find? (fun fd => fd.name == ("uppercase_escaped_char" : Str))).get (by kernel_rfl)
noncomputable def rt : T := .ss fd.body
noncomputable def l : Expr := tE rt 65536
noncomputable def o : Expr := tE rt 4294975488
noncomputable def k1 : Nat := tN rt 73031229440
theorem h1 : dsP.find? (fun fd => fd.name == ("uppercase_escaped_char" : Str)) = some fd := (by kernel_rfl)
theorem h2 : fdOk fd 1 = true := by kernel_rfl
theorem h3 : pnames fd.params = [("match" : Str)] := by kernel_rfl
theorem h4 : fd.body = [.Return (some (.BinOp l .Mod (.Call (.Attribute (.Call (.Attribute o "group" (tP CUpc.rt 4831846400)) [.Constant (.int 1) k1 (tP CUpc.rt 77326196736)] [] (tP CUpc.rt 318775296)) "upper" (tP CUpc.rt 18882560)) [] [] (tP CUpc.rt 1253376)) (tP CUpc.rt 77824))) (tP CUpc.rt 272)] := (by kernel_rfl)
theorem h5 : (tP CUpc.rt 4831846400).endLine = (tP CUpc.rt 318775296).line := by kernel_rfl
theorem h6 : (tP CUpc.rt 18882560).endLine = (tP CUpc.rt 1253376).line := by kernel_rfl
theorem h7 : (notBare o && !isRe o) = true := by kernel_rfl
theorem h8 : ∀ k m, ev (Cx k) 58 fd.scope.names (rho ["match"] [m]) l = some (.str fmtS) := fun k m => by kernel_rfl
theorem h9 : ∀ k m, ev (Cx k) 56 fd.scope.names (rho ["match"] [m]) o = some m := fun k m => by kernel_rfl
end CUpc
open CUpc in
theorem upc_call (k : Nat) {t : Str} (ht : t.length ≤ 1000) {b e c f : Nat} {y : Str} (hy : Txt.upper ⟨t.cps.extract c f⟩ = y) (hl : y.length ≤ 1000) : cF (k + 1) "uppercase_escaped_char" [.mat t b e c f] = some (.str (("%" : Str) ++ y)) := by
  have h7 := h7
  rw [Bool.and_eq_true, Bool.not_eq_true'] at h7
  refine callF_body h1 h2 ?_
  rw [h3, h4]
  refine exs_ret (ev_bin (h8 k _) (ev_meth (x := .str ⟨t.cps.extract c f⟩) (xs := []) (y := .str y) ?_ rfl (ev_meth (x := .mat t b e c f) (xs := [.int 1]) ?_ h7.2 (h9 k _) rfl ?_) rfl ?_) ?_)
  · show ((true && (tP CUpc.rt 18882560).endLine == (tP CUpc.rt 1253376).line) && decide ((0 : Nat) < 30)) = true
    rw [h6]; simp
  · show ((notBare o && (tP CUpc.rt 4831846400).endLine == (tP CUpc.rt 318775296).line) && decide ((1 : Nat) < 30)) = true
    rw [h5, h7.1]; simp
  · show matM t b e c f "group" [.int 1] = _
    unfold matM
    rw [if_neg (by decide), if_pos rfl]
    exact if_pos ⟨rfl, by lia⟩
  · show oO (strM _ "upper" []) none = _
    rw [oO_none]
    unfold strM
    rw [if_neg (by decide), if_pos rfl]
    refine (if_pos ?_).trans (by rw [hy])
    show (t.cps.extract c f).size ≤ 5592405
    rw [Array.size_extract]
    have : t.cps.size ≤ 1000 := ht
    lia
  · exact oO_l (if_pos ⟨rfl, hl⟩)
end Mine

namespace Mine
open PySem PyProof.Rows PySem.W PySem.SeqAt PySem.Builtin

/-- signs of the text: a % or a pair of letters -/
noncomputable abbrev Sg := Option Nat
noncomputable def code (b : Nat) : Sg → List Nat
  | none => [37]
  | some c => [b, b + c]
noncomputable def flat (b : Nat) (l : List Sg) : List Nat := l.flatMap (code b)
noncomputable def strS (b : Nat) (l : List Sg) : Str := ⟨(flat b l).toArray⟩
noncomputable def okB (b : Nat) : Prop := b = 66 ∨ b = 98
noncomputable def okSg (l : List Sg) : Prop := ∀ x ∈ l, ∀ c, x = some c → c < 3
/-- the first % with a pair behind it -/
noncomputable def firstE : List Sg → Option (List Sg × Nat × List Sg)
  | [] => none
  | none :: some c :: r => some ([], c, r)
  | x :: r => (firstE r).map fun y => (x :: y.1, y.2)
noncomputable def meltOne (l : List Sg) : Option (Nat × List Sg) := (firstE l).map fun y => (y.2.1, y.1 ++ y.2.2)

noncomputable def hitL : List Nat → Bool
  | x :: y :: z :: _ => x == 37 && hexC y && hexC z
  | _ => false
noncomputable def findL : Nat → List Nat → Option Nat
  | 0, _ => none
  | n + 1, l => if hitL l then some 0 else (findL n l.tail).map (· + 1)
theorem hit_eq (x : Array Nat) (s : Nat) : hitAt x s = hitL (x.toList.drop s) := by
  unfold hitAt
  by_cases h : s + 2 < x.size
  · have h0 : s < x.toList.length := by simp; lia
    have h1 : s + 1 < x.toList.length := by simp; lia
    have h2 : s + 2 < x.toList.length := by simp; lia
    rw [List.drop_eq_getElem_cons h0, List.drop_eq_getElem_cons h1, List.drop_eq_getElem_cons h2]
    simp only [hitL, Array.getElem_toList]
    rw [decide_eq_true h, Bool.true_and, Array.getD_eq_getD_getElem?, Array.getD_eq_getD_getElem?, Array.getD_eq_getD_getElem?, Array.getElem?_eq_getElem (by lia), Array.getElem?_eq_getElem (by lia), Array.getElem?_eq_getElem (by lia)]
    rfl
  · rw [decide_eq_false h]
    have : (x.toList.drop s).length ≤ 2 := by rw [List.length_drop]; simp; lia
    match hl : x.toList.drop s, this with
    | [], _ => rfl
    | [_], _ => rfl
    | [_, _], _ => rfl
    | _ :: _ :: _ :: _, h => simp at h
theorem find_eq (x : Array Nat) : ∀ (n s : Nat), findR x n s = (findL n (x.toList.drop s)).map (· + s)
  | 0, _ => rfl
  | n + 1, s => by
    unfold findR findL
    rw [hit_eq, find_eq x n (s + 1)]
    by_cases h : hitL (x.toList.drop s) = true
    · rw [if_pos h, if_pos h]; simp
    · rw [if_neg h, if_neg h, List.tail_drop]
      cases findL n (x.toList.drop (s + 1)) with
      | none => rfl
      | some k => show some (k + (s + 1)) = some (k + 1 + s); congr 1; lia

theorem hex_ok {b c : Nat} (hb : okB b) (hc : c < 3) : hexC b = true ∧ hexC (b + c) = true ∧ b ≠ 37 ∧ b + c ≠ 37 := by
  rcases hb with rfl | rfl
  · match c, hc with
    | 0, _ => exact ⟨by kernel_rfl, by kernel_rfl, by decide, by decide⟩
    | 1, _ => exact ⟨by kernel_rfl, by kernel_rfl, by decide, by decide⟩
    | 2, _ => exact ⟨by kernel_rfl, by kernel_rfl, by decide, by decide⟩
    | c + 3, h => exact absurd h (by lia)
  · match c, hc with
    | 0, _ => exact ⟨by kernel_rfl, by kernel_rfl, by decide, by decide⟩
    | 1, _ => exact ⟨by kernel_rfl, by kernel_rfl, by decide, by decide⟩
    | 2, _ => exact ⟨by kernel_rfl, by kernel_rfl, by decide, by decide⟩
    | c + 3, h => exact absurd h (by lia)
theorem hitL_ne {x : Nat} {l : List Nat} (h : x ≠ 37) : hitL (x :: l) = false := by
  match l with
  | [] => rfl
  | [_] => rfl
  | y :: z :: r =>
    show (x == 37 && hexC y && hexC z) = false
    have : (x == 37) = false := by simpa using h
    rw [this]; rfl
theorem hex37 : hexC 37 = false := by kernel_rfl
theorem flat_cons (b : Nat) (x : Sg) (l : List Sg) : flat b (x :: l) = code b x ++ flat b l := rfl
theorem flat_app (b : Nat) (l r : List Sg) : flat b (l ++ r) = flat b l ++ flat b r := by unfold flat; rw [List.flatMap_append]
theorem findL_miss {n x : Nat} {l : List Nat} (h : hitL (x :: l) = false) : findL (n + 1) (x :: l) = (findL n l).map (· + 1) := by
  show (if hitL (x :: l) = true then some 0 else _) = _
  rw [h, if_neg (by decide)]; rfl
theorem map_map1 (o : Option Nat) (a b : Nat) : (o.map (· + a)).map (· + b) = o.map (· + (a + b)) := by
  cases o with
  | none => rfl
  | some k => show some (k + a + b) = some (k + (a + b)); congr 1; lia
/-- the search over the signs -/
theorem find_flat {b : Nat} (hb : okB b) : ∀ (l : List Sg), okSg l → ∀ n, (flat b l).length ≤ n → findL (n + 1) (flat b l) = (firstE l).map fun y => (flat b y.1).length
  | [], _, n, _ => by
    show findL (n + 1) [] = none
    have : ∀ m, findL m [] = none := by
      intro m
      induction m with
      | zero => rfl
      | succ m ih => show (if hitL [] = true then some 0 else (findL m []).map (· + 1)) = none; rw [ih]; rfl
    exact this _
  | some c :: r, ho, n, hn => by
    have hc := ho (some c) List.mem_cons_self c rfl
    refine xAAA (hex_ok hb hc) fun h1 h2 h3 h4 => ?_
    have ih := find_flat hb r (fun x hx => ho x (List.mem_cons_of_mem _ hx))
    rw [flat_cons] at hn ⊢
    have hn2 : 2 + (flat b r).length ≤ n := by simpa [code, Nat.add_comm, Nat.add_left_comm] using hn
    show findL (n + 1) (b :: (b + c) :: flat b r) = _
    rw [findL_miss (hitL_ne h3), show n = (n - 1) + 1 from by lia, findL_miss (hitL_ne h4), show n - 1 = (n - 2) + 1 from by lia, ih (n - 2) (by lia), map_map1]
    show _ = ((firstE r).map fun y => (some c :: y.1, y.2)).map _
    rw [Option.map_map, Option.map_map]
    congr 1
  | [none], _, n, hn => by
    show findL (n + 1) [37] = none
    have hn1 : 1 ≤ n := hn
    rw [findL_miss rfl, show n = (n - 1) + 1 from by lia]
    have := find_flat hb [] (fun _ h => nM h) (n - 1) (Nat.zero_le _)
    rw [show flat b [] = [] from rfl] at this
    rw [this]; rfl
  | none :: none :: r, ho, n, hn => by
    have ih := find_flat hb (none :: r) (fun x hx => ho x (List.mem_cons_of_mem _ hx))
    rw [flat_cons] at hn ⊢
    have hn2 : 1 + (flat b (none :: r)).length ≤ n := by simpa [code, Nat.add_comm, Nat.add_left_comm] using hn
    show findL (n + 1) (37 :: flat b (none :: r)) = _
    have hm : hitL (37 :: flat b (none :: r)) = false := by
      rw [flat_cons]
      show hitL (37 :: 37 :: flat b r) = false
      match flat b r with
      | [] => rfl
      | z :: q => show (37 == 37 && hexC 37 && hexC z) = false; rw [hex37]; rfl
    rw [findL_miss hm, show n = (n - 1) + 1 from by lia, ih (n - 1) (by lia)]
    show _ = ((firstE (none :: r)).map fun y => (none :: y.1, y.2)).map _
    rw [Option.map_map, Option.map_map]
    congr 1
  | none :: some c :: r, ho, n, hn => by
    have hc := ho (some c) (List.mem_cons_of_mem _ List.mem_cons_self) c rfl
    refine xAAA (hex_ok hb hc) fun h1 h2 h3 h4 => ?_
    show (if (37 == 37 && hexC b && hexC (b + c)) = true then some 0 else _) = some 0
    rw [h1, h2]; rfl
theorem firstE_split : ∀ (l : List Sg) {a : List Sg} {c : Nat} {r : List Sg}, firstE l = some (a, c, r) → l = a ++ none :: some c :: r
  | [], _, _, _, h => by cases h
  | none :: some c :: r, _, _, _, h => by cases h; rfl
  | [none], _, _, _, h => by cases h
  | none :: none :: r, a, c, r', h => by
    change (firstE (none :: r)).map (fun y => (none :: y.1, y.2)) = some (a, c, r') at h
    refine xEA (Option.map_eq_some_iff.mp h) fun y hy e => ?_
    obtain ⟨y1, y2, y3⟩ := y
    (injection e with ez0 ez1; subst ez0; injection ez1 with ez1z0 ez1z1; subst ez1z0; subst ez1z1)
    rw [firstE_split (none :: r) hy]; rfl
  | some d :: r, a, c, r', h => by
    change (firstE r).map (fun y => (some d :: y.1, y.2)) = some (a, c, r') at h
    refine xEA (Option.map_eq_some_iff.mp h) fun y hy e => ?_
    obtain ⟨y1, y2, y3⟩ := y
    (injection e with ez0 ez1; subst ez0; injection ez1 with ez1z0 ez1z1; subst ez1z0; subst ez1z1)
    rw [firstE_split r hy]; rfl
theorem search_strS {b : Nat} (hb : okB b) {l : List Sg} (ho : okSg l) : searchV (strS b l) = match firstE l with
    | some y => .mat (strS b l) (flat b y.1).length ((flat b y.1).length + 3) ((flat b y.1).length + 1) ((flat b y.1).length + 3)
    | none => .none := by
  unfold searchV
  have hs : (strS b l).cps.size = (flat b l).length := by unfold strS; simp
  have ht : (strS b l).cps.toList = flat b l := rfl
  rw [find_eq, ht, List.drop_zero, hs, find_flat hb l ho _ (Nat.le_refl _)]
  cases firstE l with
  | none => rfl
  | some y => rfl
theorem unm_strS {b : Nat} {l : List Sg} {a r : List Sg} {c : Nat} (h : firstE l = some (a, c, r)) :
    Txt.slice (strS b l) none (some ((flat b a).length : Int)) ++ Txt.slice (strS b l) (some (((flat b a).length + 3 : Nat) : Int)) none = strS b (a ++ r) := by
  have e := firstE_split l h
  have hf : flat b l = flat b a ++ ([37, b, b + c] ++ flat b r) := by rw [e, flat_app, flat_cons, flat_cons]; simp [code]
  have hl : (strS b l).length = (flat b l).length := by show (strS b l).cps.size = _; unfold strS; simp
  have hlen : (flat b l).length = (flat b a).length + 3 + (flat b r).length := by rw [hf]; simp; lia
  refine str_mk ?_
  show ((Txt.slice (strS b l) none (some ((flat b a).length : Int))).cps ++ (Txt.slice (strS b l) (some (((flat b a).length + 3 : Nat) : Int)) none).cps).toList = flat b (a ++ r)
  rw [Array.toList_append, slice_lo _ _ (by lia), slice_hi _ _ (by lia), show (strS b l).cps.toList = flat b l from rfl, hf, List.take_left, flat_app]
  congr 1
  rw [← List.append_assoc, List.drop_left' (by simp)]
theorem grp_strS {b : Nat} {l : List Sg} {a r : List Sg} {c : Nat} (h : firstE l = some (a, c, r)) : (strS b l).cps.extract ((flat b a).length + 1) ((flat b a).length + 3) = #[b, b + c] := by
  have e := firstE_split l h
  have hf : flat b l = (flat b a ++ [37]) ++ ([b, b + c] ++ flat b r) := by rw [e, flat_app, flat_cons, flat_cons]; simp [code]
  apply Array.toList_inj.mp
  rw [Array.toList_extract, show (strS b l).cps.toList = flat b l from rfl, hf, List.extract_eq_take_drop, List.drop_left' (by simp), show (flat b a).length + 3 - ((flat b a).length + 1) = 2 from by lia]
  rfl
theorem upper_pair {b c : Nat} (hb : okB b) (hc : c < 3) : Txt.upper ⟨#[b, b + c]⟩ = ⟨#[66, 66 + c]⟩ := by
  rcases hb with rfl | rfl
  · match c, hc with
    | 0, _ => kernel_rfl
    | 1, _ => kernel_rfl
    | 2, _ => kernel_rfl
    | c + 3, h => exact absurd h (by lia)
  · match c, hc with
    | 0, _ => kernel_rfl
    | 1, _ => kernel_rfl
    | 2, _ => kernel_rfl
    | c + 3, h => exact absurd h (by lia)
theorem flat_len {b : Nat} : ∀ l : List Sg, (flat b l).length ≤ 2 * l.length
  | [] => Nat.le_refl _
  | x :: l => by
    rw [flat_cons, List.length_append, List.length_cons]
    have := flat_len (b := b) l
    have : (code b x).length ≤ 2 := by cases x <;> simp [code]
    lia
end Mine

namespace Mine
open PySem PyProof.Rows PySem.W PySem.SeqAt PySem.Builtin

theorem ev_search {c : Ct} {m : Nat} {sc : Sc} {ρ : Rho} {o : Expr} {apos pos : Pos} {es : List Expr} {t : Str} (h0 : (notBare o && apos.endLine == pos.line && decide (es.length < 30)) = true) (hre : isRe o = true) (hl : sc.lookup ("ESCAPED_CHAR_RE" : Str) = some NameKind.globalImplicit)
    (h2 : evs (ev c m) sc ρ es = some [.str t]) (ht : t.cps.size ≤ 1000) : ev c (m + 1) sc ρ (.Call (.Attribute o "search" apos) es [] pos) = some (searchV t) := by
  rw [evq_meth]
  unfold evMeth
  rw [if_pos h0, if_pos hre, if_pos ⟨hl, rfl⟩]
  exact oB_of h2 (if_pos ht)
theorem form1 {x : Str} {v : V} {ρ : Rho} (h : ρ x = some v) : form [(x, v)] ρ = ρ := form_eq (by intro q hq; rw [List.mem_singleton.mp hq]; exact h)
theorem form2 {x y : Str} {v u : V} {ρ : Rho} (h : ρ x = some v) (h' : ρ y = some u) : form [(x, v), (y, u)] ρ = ρ := form_eq (by
  intro q hq
  simp only [List.mem_cons, List.not_mem_nil, or_false] at hq
  rcases hq with rfl | rfl
  · exact h
  · exact h')

noncomputable def baseOf (g : Int) : Nat := if g = 0 then 98 else 66
noncomputable def okG (g : Int) : Prop := g = 0 ∨ g = 1
theorem base_ok {g : Int} (hg : okG g) : okB (baseOf g) := by
  rcases hg with rfl | rfl
  · exact .inr rfl
  · exact .inl rfl
namespace CMel
noncomputable def fd : Fd := (dsP.find? (fun fd => fd.name == ("_law_melted" : Str))).get (by kernel_rfl)
noncomputable def rt : T := .ss fd.body
noncomputable def s0 : Stmt := tS rt 16
noncomputable def tg : Expr := tE rt 257
noncomputable def it : Expr := tE rt 273
noncomputable def t1 : Expr := tE rt 65569
noncomputable def pc : Expr := tE rt 303042593
noncomputable def t2 : Expr := tE rt 65825
noncomputable def sL : Stmt := tS rt 1052961
noncomputable def sub : Expr := tE rt 303108385
noncomputable def t3 : Expr := tE rt 65827
noncomputable def o : Expr := tE rt 16781347
noncomputable def n1 : Nat := tN rt 69636
theorem h1 : dsP.find? (fun fd => fd.name == ("_law_melted" : Str)) = some fd := (by kernel_rfl)
theorem h2 : fdOk fd 2 = true := by kernel_rfl
theorem h3 : pnames fd.params = [("edges" : Str), ("great" : Str)] := by kernel_rfl
theorem h4 : fd.body = [s0, .For tg it [.If t1 [.Assign [.Name "text" (tP CMel.rt 4563406881)] (.BinOp (.Name "text" (tP CMel.rt 4564455457)) .Add pc (tP CMel.rt 319819809)) (tP CMel.rt 18878497)] [] (tP CMel.rt 77857), .If t2 [sL, .Assign [.Name "text" (tP CMel.rt 4563472673)] (.BinOp (.Name "text" (tP CMel.rt 4564521249)) .Add sub (tP CMel.rt 319885601)) (tP CMel.rt 18944289)] [] (tP CMel.rt 78113)] [] (tP CMel.rt 321),
      .Assign [.Name "names" (tP CMel.rt 69634)] (.List [] (tP CMel.rt 4370)) (tP CMel.rt 290),
      .For (.Name "edge" (tP CMel.rt 4355)) (.Name "edges" (tP CMel.rt 4371)) [.Assign [.Name "found" (tP CMel.rt 17825827)] (.Call (.Attribute o "search" (tP CMel.rt 18878499)) [.Name "text" (tP CMel.rt 285282339)] [] (tP CMel.rt 1249315)) (tP CMel.rt 73763),
        .If t3 [.Expr (.Call (.Attribute (.Name "names" (tP CMel.rt 73014448419)) "append" (tP CMel.rt 4831842595)) [.Call (.Name "uppercase_escaped_char" (tP CMel.rt 1168247886115)) [.Name "found" (tP CMel.rt 18696009421091)] [] (tP CMel.rt 81621160227)] [] (tP CMel.rt 318771491)) (tP CMel.rt 17830179), .Assign [.Name "text" (tP CMel.rt 4563472675)] (.Call (.Name "unmatched" (tP CMel.rt 4564521251)) [.Name "found" (tP CMel.rt 73032339747)] [] (tP CMel.rt 319885603)) (tP CMel.rt 18944291)] [] (tP CMel.rt 78115)] [] (tP CMel.rt 323),
      .Return (some (.Tuple [.Name "names" (tP CMel.rt 17825796), .Name "text" (tP CMel.rt 17891332)] n1 (tP CMel.rt 73732))) (tP CMel.rt 276)] := (by kernel_rfl)
theorem g0 : isFor s0 = false := by kernel_rfl
theorem g1 : (notSet it && (tgtNames tg).all (kOk fd.scope.names)) = true := by kernel_rfl
theorem g2 : tgtNames tg = [("place" : Str), ("edge" : Str)] := by kernel_rfl
theorem g3 : ∀ j y ρ, bindT tg (.tup [.int j, y]) ρ = some (upd (upd ρ "place" (.int j)) "edge" y) := fun j y ρ => (by kernel_rfl)
theorem k1 : kOk fd.scope.names "text" = true := by kernel_rfl
theorem k2 : kOk fd.scope.names "names" = true := by kernel_rfl
theorem k3 : kOk fd.scope.names "found" = true := by kernel_rfl
theorem k4 : kOk fd.scope.names "edge" = true := by kernel_rfl
theorem l1 : fd.scope.names.lookup ("text" : Str) = some .local := by kernel_rfl
theorem l2 : fd.scope.names.lookup ("names" : Str) = some .local := by kernel_rfl
theorem l3 : fd.scope.names.lookup ("found" : Str) = some .local := by kernel_rfl
theorem l4 : fd.scope.names.lookup ("edges" : Str) = some .local := by kernel_rfl
theorem l5 : fd.scope.names.lookup ("unmatched" : Str) = some .globalImplicit := by kernel_rfl
theorem l6 : fd.scope.names.lookup ("uppercase_escaped_char" : Str) = some .globalImplicit := by kernel_rfl
theorem l7 : fd.scope.names.lookup ("ESCAPED_CHAR_RE" : Str) = some .globalImplicit := by kernel_rfl
theorem p1 : (tP CMel.rt 18878499).endLine = (tP CMel.rt 1249315).line := by kernel_rfl
theorem p2 : ((tP CMel.rt 4831842595).endLine == (tP CMel.rt 318771491).line) = true := by kernel_rfl
theorem o1 : notBare o = true := by kernel_rfl
theorem o2 : isRe o = true := by kernel_rfl
theorem e0 : ∀ k ρ, ex (Cx k) 60 fd.scope.names ρ omg0 true s0 = some (.nx (upd ρ "text" (.str ⟨#[]⟩)) (era omg0 "text")) := fun k ρ => by kernel_rfl
theorem eit : ∀ k ρ l, evIter (ev (Cx k) 59) fd.scope.names (form [("edges", .lst l)] ρ) tg it = some (enumV 0 l) := fun k ρ l => by kernel_rfl
theorem et1 : ∀ k ρ e, evB (ev (Cx k) 58) fd.scope.names (form [("edge", .int e)] ρ) t1 = some (decide (e < 0)) := fun k ρ e => by kernel_rfl
theorem et2 : ∀ k ρ e, evB (ev (Cx k) 58) fd.scope.names (form [("edge", .int e)] ρ) t2 = some (decide (0 < e)) := fun k ρ e => by kernel_rfl
theorem epc : ∀ k ρ, ev (Cx k) 56 fd.scope.names ρ pc = some (.str ⟨#[37]⟩) := fun k ρ => by kernel_rfl
theorem eL : ∀ k ρ ω (j : Nat), j < 14 → ex (Cx (k + 1)) 58 fd.scope.names (form [("place", .int j)] ρ) ω false sL = some (.nx (upd (form [("place", .int j)] ρ) "letters" (.str ⟨#[66, 66 + j % 3]⟩)) (era ω "letters")) := fun k ρ ω j hj => by
    match j, hj with
    | 0, _ => kernel_rfl
    | 1, _ => kernel_rfl
    | 2, _ => kernel_rfl
    | 3, _ => kernel_rfl
    | 4, _ => kernel_rfl
    | 5, _ => kernel_rfl
    | 6, _ => kernel_rfl
    | 7, _ => kernel_rfl
    | 8, _ => kernel_rfl
    | 9, _ => kernel_rfl
    | 10, _ => kernel_rfl
    | 11, _ => kernel_rfl
    | 12, _ => kernel_rfl
    | 13, _ => kernel_rfl
    | j + 14, hj => exact absurd hj (by lia)
theorem esub : ∀ k ρ g (c : Nat), okG g → c < 3 → ev (Cx k) 56 fd.scope.names (form [("letters", .str ⟨#[66, 66 + c]⟩), ("great", .int g)] ρ) sub = some (.str ⟨#[baseOf g, baseOf g + c]⟩) := fun k ρ g c hg hc => by
    rcases hg with rfl | rfl
    · match c, hc with
      | 0, _ => kernel_rfl
      | 1, _ => kernel_rfl
      | 2, _ => kernel_rfl
      | c + 3, h => exact absurd h (by lia)
    · match c, hc with
      | 0, _ => kernel_rfl
      | 1, _ => kernel_rfl
      | 2, _ => kernel_rfl
      | c + 3, h => exact absurd h (by lia)
theorem et3 : ∀ k ρ t (b e c f : Nat), evB (ev (Cx k) 58) fd.scope.names (form [("found", .mat t b e c f)] ρ) t3 = some true := fun k ρ t b e c f => by kernel_rfl
theorem et3' : ∀ k ρ, evB (ev (Cx k) 58) fd.scope.names (form [("found", .none)] ρ) t3 = some false := fun k ρ => by kernel_rfl
end CMel
end Mine

namespace Mine
open PySem PyProof.Rows PySem.W PySem.SeqAt PySem.Builtin

noncomputable def tokAt (e : Int) (j : Nat) : List Sg := if e < 0 then [none] else if 0 < e then [some (j % 3)] else []
noncomputable def toksOf (E : Nat → Int) (m : Nat) : List Sg := (List.range m).flatMap fun j => tokAt (E j) j
theorem toksOf_succ (E : Nat → Int) (m : Nat) : toksOf E (m + 1) = toksOf E m ++ tokAt (E m) m := by
  unfold toksOf; rw [List.range_succ, List.flatMap_append]; simp
theorem toksOf_len (E : Nat → Int) : ∀ m, (toksOf E m).length ≤ m
  | 0 => Nat.le_refl _
  | m + 1 => by
    rw [toksOf_succ, List.length_append]
    have := toksOf_len E m
    have : (tokAt (E m) m).length ≤ 1 := by
      unfold tokAt
      split
      · exact Nat.le_refl _
      · split
        · exact Nat.le_refl _
        · exact Nat.zero_le _
    lia
theorem toksOf_ok (E : Nat → Int) (m : Nat) : okSg (toksOf E m) := fun x hx c hc => by
  refine xEA (List.mem_flatMap.mp hx) fun j _ hj => ?_
  unfold tokAt at hj
  split at hj
  · rw [List.mem_singleton.mp hj] at hc; injection hc
  · split at hj
    · rw [List.mem_singleton.mp hj] at hc; (injection hc with hc; subst hc); exact Nat.mod_lt _ (by decide)
    · cases hj
noncomputable def meltStep (x : List Nat × List Sg) : List Nat × List Sg := match firstE x.2 with
  | some (a, c, r) => (x.1 ++ [c], a ++ r)
  | none => x
noncomputable def meltN : Nat → List Nat × List Sg → List Nat × List Sg
  | 0, x => x
  | i + 1, x => meltStep (meltN i x)
noncomputable def nameOf (c : Nat) : V := .str ⟨#[37, 66, 66 + c]⟩
theorem meltStep_ok {x : List Nat × List Sg} (h : okSg x.2) : okSg (meltStep x).2 := by
  unfold meltStep
  split
  · rename_i a c r e
    have := firstE_split _ e
    intro y hy d hd
    refine h y ?_ d hd
    rw [this]
    rcases List.mem_append.mp hy with hy | hy
    · exact List.mem_append_left _ hy
    · exact List.mem_append_right _ (List.mem_cons_of_mem _ (List.mem_cons_of_mem _ hy))
  · exact h
theorem meltStep_len {x : List Nat × List Sg} : (meltStep x).2.length ≤ x.2.length ∧ (meltStep x).1.length ≤ x.1.length + 1 := by
  unfold meltStep
  split
  · rename_i a c r e
    have := firstE_split _ e
    rw [this]
    simp only [List.length_append, List.length_cons, List.length_nil]
    lia
  · exact ⟨Nat.le_refl _, Nat.le_succ _⟩
theorem meltN_ok {x : List Nat × List Sg} (h : okSg x.2) : ∀ i, okSg (meltN i x).2
  | 0 => h
  | i + 1 => meltStep_ok (meltN_ok h i)
theorem meltN_len {x : List Nat × List Sg} : ∀ i, (meltN i x).2.length ≤ x.2.length ∧ (meltN i x).1.length ≤ x.1.length + i
  | 0 => ⟨Nat.le_refl _, Nat.le_refl _⟩
  | i + 1 => by
    have h := meltN_len (x := x) i
    have h2 := meltStep_len (x := meltN i x)
    show (meltStep (meltN i x)).2.length ≤ _ ∧ (meltStep (meltN i x)).1.length ≤ _
    lia
theorem strS_len {b : Nat} {l : List Sg} : (strS b l).length ≤ 2 * l.length := by
  show (flat b l).toArray.size ≤ _
  rw [List.size_toArray]; exact flat_len l
theorem strS_app {b : Nat} {l r : List Sg} : strS b l ++ ⟨(flat b r).toArray⟩ = strS b (l ++ r) := by
  refine str_mk ?_
  show ((flat b l).toArray ++ (flat b r).toArray).toList = flat b (l ++ r)
  rw [flat_app]; simp
theorem pct_str (y : Nat) : ("%" : Str) ++ ⟨#[66, 66 + y]⟩ = ⟨#[37, 66, 66 + y]⟩ := by kernel_rfl

structure Ml (E : Nat → Int) (m : Nat) (g : Int) (j : Nat) (ρ : Rho) : Prop where
  edges : ρ "edges" = some (intsV (tab m E))
  great : ρ "great" = some (.int g)
  text : ρ "text" = some (.str (strS (baseOf g) (toksOf E j)))
theorem Ml.upd {E : Nat → Int} {m : Nat} {g : Int} {j : Nat} {ρ : Rho} (h : Ml E m g j ρ) {x : Str} {v : V} (h1 : ("edges" : Str) ≠ x) (h2 : ("great" : Str) ≠ x) (h3 : ("text" : Str) ≠ x) : Ml E m g j (upd ρ x v) :=
  ⟨(upd_ne h1).trans h.edges, (upd_ne h2).trans h.great, (upd_ne h3).trans h.text⟩

open CMel in
theorem melted_call (k : Nat) {m : Nat} (hm : m ≤ 14) (E : Nat → Int) {g : Int} (hg : okG g) :
    cF (k + 2) "_law_melted" [intsV (tab m E), .int g] = some (.tup [.lst ((meltN m ([], toksOf E m)).1.map nameOf), .str (strS (baseOf g) (meltN m ([], toksOf E m)).2)]) := by
  have hb := base_ok hg
  -- the text
  have loop1 := exFor_inv (ex' := ex (Cx (k + 1)) 59 fd.scope.names) (target := tg) (body := [.If t1 [.Assign [.Name "text" (tP CMel.rt 4563406881)] (.BinOp (.Name "text" (tP CMel.rt 4564455457)) .Add pc (tP CMel.rt 319819809)) (tP CMel.rt 18878497)] [] (tP CMel.rt 77857), .If t2 [sL, .Assign [.Name "text" (tP CMel.rt 4563472673)] (.BinOp (.Name "text" (tP CMel.rt 4564521249)) .Add sub (tP CMel.rt 319885601)) (tP CMel.rt 18944289)] [] (tP CMel.rt 78113)])
    (fun j ρ ω => Ml E m g j ρ ∧ ω = omg0) (enumV 0 ((tab m E).map .int)) 0 (upd (rho ["edges", "great"] [intsV (tab m E), .int g]) "text" (.str ⟨#[]⟩)) omg0 ⟨⟨rfl, rfl, rfl⟩, rfl⟩ ?_
  · obtain ⟨ρ1, ω1, x1, i1⟩ := loop1
    rw [enumV_len, List.length_map, tab_len, Nat.zero_add] at i1
    obtain ⟨i1, rfl⟩ := i1
    -- the names
    have loop2 := exFor_inv (ex' := ex (Cx (k + 1)) 59 fd.scope.names) (target := .Name "edge" (tP CMel.rt 4355)) (body := [.Assign [.Name "found" (tP CMel.rt 17825827)] (.Call (.Attribute o "search" (tP CMel.rt 18878499)) [.Name "text" (tP CMel.rt 285282339)] [] (tP CMel.rt 1249315)) (tP CMel.rt 73763), .If t3 [.Expr (.Call (.Attribute (.Name "names" (tP CMel.rt 73014448419)) "append" (tP CMel.rt 4831842595)) [.Call (.Name "uppercase_escaped_char" (tP CMel.rt 1168247886115)) [.Name "found" (tP CMel.rt 18696009421091)] [] (tP CMel.rt 81621160227)] [] (tP CMel.rt 318771491)) (tP CMel.rt 17830179), .Assign [.Name "text" (tP CMel.rt 4563472675)] (.Call (.Name "unmatched" (tP CMel.rt 4564521251)) [.Name "found" (tP CMel.rt 73032339747)] [] (tP CMel.rt 319885603)) (tP CMel.rt 18944291)] [] (tP CMel.rt 78115)])
      (fun j ρ ω => ρ "text" = some (.str (strS (baseOf g) (meltN j ([], toksOf E m)).2)) ∧ ω = ownTo omg0 "names" (.lst ((meltN j ([], toksOf E m)).1.map nameOf))) ((tab m E).map .int) 0 (updO ρ1 "names" none) (ownTo omg0 "names" (.lst [])) ⟨(if_neg (by decide)).trans i1.text, rfl⟩ ?_
    · (refine xEEA loop2 ?_; clear loop2; intro ρ2 ω2 x2 i2)
      rw [List.length_map, tab_len, Nat.zero_add] at i2
      (refine xA i2 ?_; clear i2; intro i2 qq1; subst qq1)
      refine callF_body h1 h2 ?_
      rw [h3, h4]
      refine exs_cons (e0 (k + 1) _) (by rw [g0]; rfl) ?_
      rw [era_omg0]
      have hit := eit (k + 1) (upd (rho ["edges", "great"] [intsV (tab m E), .int g]) "text" (.str ⟨#[]⟩)) ((tab m E).map .int)
      rw [form1 (by rfl)] at hit
      refine exs_for (ex_for g1 hit x1) rfl ?_
      rw [show frz ownNames ρ1 omg0 = (ρ1, omg0) from rfl]
      refine exs_cons (ρ1 := updO ρ1 "names" none) (ω1 := ownTo omg0 "names" (.lst [])) ?_ rfl ?_
      · rw [exq_asg, if_pos k2]
        rfl
      refine exs_for (ex_for (l := (tab m E).map .int) (by show (true && (kOk fd.scope.names "edge" && true)) = true; rw [k4]; rfl) ?_ x2) rfl ?_
      · show evSeq _ _ _ _ (.Name "edges" _) = _
        unfold evSeq
        rw [if_pos (by rfl), ev_name l4 (by decide) (by decide) (v := intsV (tab m E)) ((if_neg (by decide)).trans i1.edges)]
        rfl
      have f1 : (frz ownNames ρ2 (ownTo omg0 "names" (.lst ((meltN m ([], toksOf E m)).1.map nameOf)))).1 "names" = some (.lst ((meltN m ([], toksOf E m)).1.map nameOf)) := by kernel_rfl
      have f2 : (frz ownNames ρ2 (ownTo omg0 "names" (.lst ((meltN m ([], toksOf E m)).1.map nameOf)))).1 "text" = ρ2 "text" := by kernel_rfl
      refine exs_ret ?_
      rw [evq_tup, evs_cons rfl (ev_name l2 (by decide) (by decide) f1) (evs_cons rfl (ev_name l1 (by decide) (by decide) (f2.trans i2)) evs_nil)]
      rfl
    · intro j x ρ ω hx hi
      rw [Nat.zero_add] at hi ⊢
      (refine xA hi ?_; clear hi; intro hi qq2; subst qq2)
      generalize hX : meltN j ([], toksOf E m) = X at hi
      have hok : okSg X.2 := by rw [← hX]; exact meltN_ok (toksOf_ok E m) j
      have hlen := meltN_len (x := ([], toksOf E m)) j
      rw [hX] at hlen
      have htl := toksOf_len E m
      have hjm : j < m := by
        have := (List.getElem?_eq_some_iff.mp hx).1
        rw [List.length_map, tab_len] at this; exact this
      have hsz : (strS (baseOf g) X.2).length ≤ 1000 := Nat.le_trans strS_len (by have := hlen.1; simp only at this; lia)
      have hs : ev (Cx (k + 1)) 58 fd.scope.names (upd ρ "edge" x) (.Call (.Attribute o "search" (tP CMel.rt 18878499)) [.Name "text" (tP CMel.rt 285282339)] [] (tP CMel.rt 1249315)) = some (searchV (strS (baseOf g) X.2)) := by
        refine ev_search ?_ o2 l7 (evs_cons rfl (ev_name l1 (by decide) (by decide) ((upd_ne (by decide)).trans hi)) evs_nil) hsz
        show ((notBare o && (tP CMel.rt 18878499).endLine == (tP CMel.rt 1249315).line) && decide ((1 : Nat) < 30)) = true
        rw [o1, p1]; simp
      rw [search_strS hb hok] at hs
      have hms : meltN (j + 1) ([], toksOf E m) = meltStep X := by show meltStep (meltN j _) = _; rw [hX]
      rw [hms]
      cases hf : firstE X.2 with
      | none =>
        rw [hf] at hs
        have h3 := et3' (k + 1) (upd (upd ρ "edge" x) "found" .none)
        rw [form1 upd_eq] at h3
        have hst : meltStep X = X := by unfold meltStep; rw [hf]
        refine ⟨_, _, _, rfl, rfl, exs_cons (ex_asg k3 rfl rfl hs) rfl (exs_cons (ex_if h3 rfl) rfl exs_nil), ?_, ?_⟩
        · rw [hst]; exact (upd_ne (by decide)).trans ((upd_ne (by decide)).trans hi)
        · rw [hst]; exact era_none rfl
      | some y =>
        obtain ⟨a, c, r⟩ := y
        rw [hf] at hs
        have hsp := firstE_split _ hf
        have hc : c < 3 := hok (some c) (by rw [hsp]; simp) c rfl
        have hst : meltStep X = (X.1 ++ [c], a ++ r) := by unfold meltStep; rw [hf]
        dsimp only at hs
        generalize hM : V.mat (strS (baseOf g) X.2) (flat (baseOf g) a).length ((flat (baseOf g) a).length + 3) ((flat (baseOf g) a).length + 1) ((flat (baseOf g) a).length + 3) = M at hs
        have h3 := et3 (k + 1) (upd (upd ρ "edge" x) "found" M) (strS (baseOf g) X.2) (flat (baseOf g) a).length ((flat (baseOf g) a).length + 3) ((flat (baseOf g) a).length + 1) ((flat (baseOf g) a).length + 3)
        rw [hM, form1 upd_eq] at h3
        have hup := upc_call k hsz (b := (flat (baseOf g) a).length) (e := (flat (baseOf g) a).length + 3) (c := (flat (baseOf g) a).length + 1) (f := (flat (baseOf g) a).length + 3) (y := ⟨#[66, 66 + c]⟩) (by rw [grp_strS hf]; exact upper_pair hb hc) (by show (2 : Nat) ≤ 1000; decide)
        have hun := unm_call k hsz (flat (baseOf g) a).length ((flat (baseOf g) a).length + 3) ((flat (baseOf g) a).length + 1) ((flat (baseOf g) a).length + 3)
        rw [hM, pct_str] at hup
        rw [hM, unm_strS hf] at hun
        have hfn : ∀ {q : Pos} {n : Nat}, evs (ev (Cx (k + 1)) (n + 1)) fd.scope.names (upd (upd ρ "edge" x) "found" M) [.Name "found" q] = some [M] := fun {q n} => evs_cons rfl (ev_name l3 (by decide) (by decide) upd_eq) evs_nil
        refine ⟨_, upd (upd (upd ρ "edge" x) "found" M) "text" (.str (strS (baseOf g) (a ++ r))), era (ownTo (era (ownTo omg0 "names" (.lst (X.1.map nameOf))) "found") "names" (.lst (X.1.map nameOf ++ [nameOf c]))) "text", rfl, rfl, exs_cons (ex_asg k3 rfl rfl hs) rfl (exs_cons (ex_if h3 (exs_cons (ex_app ?_ ?_ rfl (by decide) p2 ((ev_fn l6 hfn (by decide +kernel)).trans hup)) rfl (exs_cons (ex_asg k1 rfl rfl ((ev_fn l5 hfn (by decide +kernel)).trans hun)) rfl exs_nil))) rfl exs_nil), ?_, ?_⟩
        · rfl
        · rw [List.length_map]; have := hlen.2; simp only [List.length_nil] at this; lia
        · rw [hst]; exact upd_eq
        · rw [hst]
          funext z
          simp only [ownTo, era, List.map_append, List.map_cons, List.map_nil]
          split
          · rename_i e; subst e; rfl
          · split
            · rfl
            · split
              · rfl
              · rfl
  · intro j x ρ ω hx hi
    rw [Nat.zero_add] at hi ⊢
    (refine xA hi ?_; clear hi; intro hi qq3; subst qq3)
    (refine xEA (enum_get hx) fun y hy qq4 => ?_; subst qq4)
    rw [List.getElem?_map] at hy
    (refine xEA (Option.map_eq_some_iff.mp hy) fun e he qq5 => ?_; subst qq5)
    (refine xA (tab_get he) fun hj qq6 => ?_; subst qq6)
    rw [Nat.zero_add]
    have htl := toksOf_len E j
    have hsz : (strS (baseOf g) (toksOf E j)).length ≤ 1000 := Nat.le_trans strS_len (by lia)
    have hI : Ml E m g j (upd (upd ρ "place" (.int (j : Nat))) "edge" (.int (E j))) := (hi.upd (by decide) (by decide) (by decide)).upd (by decide) (by decide) (by decide)
    have c1 := et1 (k + 1) (upd (upd ρ "place" (.int (j : Nat))) "edge" (.int (E j))) (E j)
    rw [form1 upd_eq] at c1
    have hall : ((tgtNames tg).all fun n => (omg0 n).isNone) = true := by rw [g2]; rfl
    by_cases h0 : E j < 0
    · rw [decide_eq_true h0] at c1
      have c2 := et2 (k + 1) (upd (upd (upd ρ "place" (.int (j : Nat))) "edge" (.int (E j))) "text" (.str (strS (baseOf g) (toksOf E j ++ [none])))) (E j)
      rw [form1 ((upd_ne (by decide)).trans upd_eq), decide_eq_false (by lia)] at c2
      refine ⟨_, upd (upd (upd ρ "place" (.int (j : Nat))) "edge" (.int (E j))) "text" (.str (strS (baseOf g) (toksOf E j ++ [none]))), era omg0 "text", g3 _ _ _, hall, exs_cons (ex_if c1 (exs_cons (ex_asg k1 rfl rfl (ev_bin (ev_name l1 (by decide) (by decide) hI.text) (epc (k + 1) _) ?_)) rfl exs_nil)) rfl (exs_cons (ex_if c2 rfl) rfl exs_nil), ⟨(upd_ne (by decide)).trans hI.edges, (upd_ne (by decide)).trans hI.great, ?_⟩, era_omg0 _⟩
      · rw [addV_str hsz (by decide)]
        congr 2
        exact strS_app (r := [none])
      · rw [toksOf_succ]
        unfold tokAt
        rw [if_pos h0]; exact upd_eq
    · rw [decide_eq_false h0] at c1
      have c2 := et2 (k + 1) (upd (upd ρ "place" (.int (j : Nat))) "edge" (.int (E j))) (E j)
      rw [form1 upd_eq] at c2
      by_cases h9 : 0 < E j
      · rw [decide_eq_true h9] at c2
        have cL := eL k (upd (upd ρ "place" (.int (j : Nat))) "edge" (.int (E j))) omg0 j (by lia)
        rw [form1 ((upd_ne (by decide)).trans upd_eq), era_omg0] at cL
        have hj3 : j % 3 < 3 := Nat.mod_lt _ (by decide)
        have cS := esub (k + 1) (upd (upd (upd ρ "place" (.int (j : Nat))) "edge" (.int (E j))) "letters" (.str ⟨#[66, 66 + j % 3]⟩)) g (j % 3) hg hj3
        rw [form2 upd_eq ((upd_ne (by decide)).trans hI.great)] at cS
        refine ⟨_, upd (upd (upd (upd ρ "place" (.int (j : Nat))) "edge" (.int (E j))) "letters" (.str ⟨#[66, 66 + j % 3]⟩)) "text" (.str (strS (baseOf g) (toksOf E j ++ [some (j % 3)]))), era omg0 "text", g3 _ _ _, hall, exs_cons (ex_if c1 rfl) rfl (exs_cons (ex_if c2 (exs_cons cL (by cases sL <;> rfl) (exs_cons (ex_asg k1 rfl rfl (ev_bin (ev_name l1 (by decide) (by decide) ((upd_ne (by decide)).trans hI.text)) cS ?_)) rfl exs_nil))) rfl exs_nil), ⟨(upd_ne (by decide)).trans ((upd_ne (by decide)).trans hI.edges), (upd_ne (by decide)).trans ((upd_ne (by decide)).trans hI.great), ?_⟩, era_omg0 _⟩
        · rw [addV_str hsz (by show (2 : Nat) ≤ 1000; decide)]
          congr 2
          exact strS_app (r := [some (j % 3)])
        · rw [toksOf_succ]
          unfold tokAt
          rw [if_neg h0, if_pos h9]; exact upd_eq
      · rw [decide_eq_false h9] at c2
        refine ⟨_, _, omg0, g3 _ _ _, hall, exs_cons (ex_if c1 rfl) rfl (exs_cons (ex_if c2 rfl) rfl exs_nil), ⟨hI.edges, hI.great, ?_⟩, rfl⟩
        rw [toksOf_succ]
        unfold tokAt
        rw [if_neg h0, if_neg h9, List.append_nil]; exact hI.text
end Mine

namespace Mine
open PySem PyProof.Rows PySem.W PySem.SeqAt PySem.Builtin

section
variable {c : Ct} {m : Nat} {sc : Sc} {ρ : Rho}
theorem ev_sub {v i : Expr} {pos : Pos} {a b r : V} (hs : isSlice i = false) (h1 : ev c m sc ρ v = some a) (h2 : ev c m sc ρ i = some b) (h3 : getV a b = some r) : ev c (m + 1) sc ρ (.Subscript v i pos) = some r := by
  have e : evSub (ev c m) sc ρ a i = oB (ev c m sc ρ i) fun b => getV a b := by
    cases i with
    | Slice _ _ _ _ => exact nG hs
    | _ => rfl
  exact oB_of (x := ev c m sc ρ v) h1 (e.trans (oB_of h2 h3))
theorem ev_list {es : List Expr} {pos : Pos} {l : List V} (h1 : evs (ev c m) sc ρ es = some l) (hl : l.length ≤ 1000) : ev c (m + 1) sc ρ (.List es pos) = some (.lst l) := evq_lst.trans (oB_of h1 (if_pos hl))
theorem evT_cmp {ev : Sc → Rho → Expr → Option V} {l r : Expr} {op : CmpOp} {pos : Pos} {a b : V} {x : Bool} (h0 : behindInMarks op r = false) (h1 : ev sc ρ l = some a) (h2 : ev sc ρ r = some b) (h3 : cmpV op a b = some x) : evT ev sc ρ (.Compare l [op] [r] pos) = some x :=
  (if_neg (by rw [h0]; decide)).trans (oB_of h1 (oB_of h2 h3))
theorem evB_cmp {ev : Sc → Rho → Expr → Option V} {l r : Expr} {op : CmpOp} {pos : Pos} {x : Option Bool} (h : evT ev sc ρ (.Compare l [op] [r] pos) = x) : evB ev sc ρ (.Compare l [op] [r] pos) = x := h
theorem evB_or {ev : Sc → Rho → Expr → Option V} {a b : Expr} {pos : Pos} (h1 : evT ev sc ρ a = some false) (h2 : evT ev sc ρ b = some false) : evB ev sc ρ (.BoolOp .Or [a, b] pos) = some false := oO_l (oB_of h1 h2)
end
theorem st_of {k i : Nat} {ρ : Rho} {ω : Omg} {s : Stmt} {o : Option Out} (h : lawB[i]? = some s) (h2 : ex (Cx k) 60 lawSc ρ ω true s = o) : st k i ρ ω = o := by
  unfold st; rw [h, Option.bind_some]; exact h2

theorem d14 : ∃ q1 q2 q3 q4 q5, lawB[14]? = some (.Assign [.Name "told" q1] (.Call (.Name "_law_told" q2) [.Name "ring" q3] [] q4) q5) ∧ kOk lawSc "told" = true ∧ lawSc.lookup ("_law_told" : Str) = some .globalImplicit ∧
    (∀ k ρ v, evs (ev (Cx k) 58) lawSc (form [("ring", v)] ρ) [.Name "ring" q3] = some [v]) :=
  ⟨_, _, _, _, _, rfl, by kernel_rfl, by kernel_rfl, fun k ρ v => by kernel_rfl⟩
theorem tab_map {α β : Type} {n : Nat} {f : Nat → α} {g : α → β} : (tab n f).map g = tab n fun i => g (f i) := by unfold tab; rw [List.map_map]; rfl
theorem mem_tab {α : Type} {n : Nat} {f : Nat → α} {x : α} (h : x ∈ tab n f) : ∃ i, i < n ∧ x = f i := by
  (refine xEA (List.mem_map.mp h) fun i hi qq0 => ?_; subst qq0)
  exact ⟨i, List.mem_range.mp hi, rfl⟩
theorem told_tab (k : Nat) {n : Nat} (hn : okN n) {p s : Nat → Int} (hp : ∀ i, okP (p i)) (hs : ∀ i, okS (s i)) : cF (k + 2) "_law_told" [.lst (tab n fun i => colV (p i) (s i))] = some (.lst (tab n fun i => dueV (p i) (s i))) := by
  have := told_call k (l := tab n fun i => (p i, s i)) (by rw [tab_len]; have := pow_le hn; lia) (fun x hx => by (refine xEA (mem_tab hx) fun i _ qq1 => ?_; subst qq1); exact ⟨hp i, hs i⟩)
  rw [tab_map, tab_map] at this
  exact this
theorem thirds_tab (k : Nat) {n : Nat} (hn : okN n) {p s : Nat → Int} (hp : ∀ i, okP (p i)) (hs : ∀ i, okS (s i)) : cF (k + 1) "_law_thirds" [.lst (tab n fun i => dueV (p i) (s i))] = some (intsV (tab n p)) := by
  have := thirds_call k (l := tab n fun i => (p i, s i)) (by rw [tab_len]; have := pow_le hn; lia) (fun x hx => by (refine xEA (mem_tab hx) fun i _ qq2 => ?_; subst qq2); exact ⟨hp i, hs i⟩)
  rw [tab_map, tab_map] at this
  exact this
theorem st14 (k : Nat) (ρ : Rho) (ω : Omg) {n : Nat} (hn : okN n) {p s : Nat → Int} (hp : ∀ i, okP (p i)) (hs : ∀ i, okS (s i)) (h : ρ "ring" = some (.lst (tab n fun i => colV (p i) (s i)))) :
    st (k + 2) 14 ρ ω = some (.nx (upd ρ "told" (.lst (tab n fun i => dueV (p i) (s i)))) (era ω "told")) := by
  refine xEEEEE d14 fun q1 q2 q3 q4 q5 qr0 => xAAA qr0 fun e g1 g2 g3 => ?_
  have g3 := g3 (k + 2) ρ (.lst (tab n fun i => colV (p i) (s i)))
  rw [form1 h] at g3
  exact st_of e (ex_asg g1 rfl rfl ((ev_fn g2 g3 (by decide +kernel)).trans (told_tab k hn hp hs)))

noncomputable def edgeAt (n : Nat) (p : Nat → Int) (i : Nat) : Int := stepAt n p (if i < n then i else i - n)
theorem d15 : ∃ q1 q2 q3 q4 q5 q6 q7 q8 e2, lawB[15]? = some (.Assign [.Name "edges" q1] (.BinOp (.Call (.Name "_law_steps" q2) [.Call (.Name "_law_thirds" q3) [.Name "told" q4] [] q5] [] q6) .Mult e2 q7) q8) ∧ kOk lawSc "edges" = true ∧
    lawSc.lookup ("_law_steps" : Str) = some .globalImplicit ∧ lawSc.lookup ("_law_thirds" : Str) = some .globalImplicit ∧
    (∀ k ρ v, evs (ev (Cx k) 56) lawSc (form [("told", v)] ρ) [.Name "told" q4] = some [v]) ∧ (∀ k ρ, ev (Cx k) 58 lawSc ρ e2 = some (.int 2)) :=
  ⟨_, _, _, _, _, _, _, _, _, rfl, by kernel_rfl, by kernel_rfl, by kernel_rfl, fun k ρ v => by kernel_rfl, fun k ρ => by kernel_rfl⟩
theorem edges_two {n : Nat} (hn : okN n) (p : Nat → Int) : binW .Mult (intsV (tab n (stepAt n p))) (.int 2) = some (intsV (tab (2 * n) (edgeAt n p))) := by
  rcases hn with rfl | rfl | rfl | rfl <;> kernel_rfl
theorem st15 (k : Nat) (ρ : Rho) (ω : Omg) {n : Nat} (hn : okN n) {p s : Nat → Int} (hp : ∀ i, okP (p i)) (hs : ∀ i, okS (s i)) (h : ρ "told" = some (.lst (tab n fun i => dueV (p i) (s i)))) :
    st (k + 2) 15 ρ ω = some (.nx (upd ρ "edges" (intsV (tab (2 * n) (edgeAt n p)))) (era ω "edges")) := by
  refine xEEEEEEEEE d15 fun q1 q2 q3 q4 q5 q6 q7 q8 e2 qr1 => xAAAAA qr1 fun e g1 g2 g3 g4 g5 => ?_
  have g4 := g4 (k + 2) ρ (.lst (tab n fun i => dueV (p i) (s i)))
  rw [form1 h] at g4
  exact st_of e (ex_asg g1 rfl rfl (ev_bin ((ev_fn g2 (evs_cons rfl ((ev_fn g3 g4 (by decide +kernel)).trans (thirds_tab (k + 1) hn hp hs)) evs_nil) (by decide +kernel)).trans (steps_call (k + 1) hn p)) (g5 (k + 2) ρ) (edges_two hn p)))

theorem d16 : ∃ elts kk tp q1 es q2 q3, lawB[16]? = some (.Assign [.Tuple elts kk tp] (.Call (.Name "_law_melted" q1) es [] q2) q3) ∧ lawSc.lookup ("_law_melted" : Str) = some .globalImplicit ∧
    ((tgtNames (.Tuple elts kk tp)).all fun n => kOk lawSc n && (omg0 n).isNone) = true ∧ (∀ ρ x y, bindT (.Tuple elts kk tp) (.tup [x, y]) ρ = some (upd (upd ρ "names" x) "text" y)) ∧
    (∀ k ρ x y, evs (ev (Cx k) 58) lawSc (form [("edges", x), ("great", y)] ρ) es = some [x, y]) :=
  ⟨_, _, _, _, _, _, _, rfl, by kernel_rfl, by kernel_rfl, fun ρ x y => rfl, fun k ρ x y => by kernel_rfl⟩
theorem ex_asgT {c : Ct} {m : Nat} {sc : Sc} {ρ ρ' : Rho} {ω : Omg} {top : Bool} {elts : List Expr} {kk : Nat} {tp pos : Pos} {e : Expr} {v : V} (h0 : isTuple e = false) (h1 : ((tgtNames (.Tuple elts kk tp)).all fun n => kOk sc n && (ω n).isNone) = true) (h2 : ev c m sc ρ e = some v) (h3 : bindT (.Tuple elts kk tp) v ρ = some ρ') :
    ex c (m + 1) sc ρ ω top (.Assign [.Tuple elts kk tp] e pos) = some (.nx ρ' ω) := by
  rw [exq_asgT]
  unfold exAssignT
  rw [if_neg (by rw [h0, h1]; decide)]
  exact oB_of h2 (oB_of h3 rfl)
theorem okN_14 {n : Nat} (hn : okN n) : 2 * n ≤ 14 := by rcases hn with rfl | rfl | rfl | rfl <;> decide
theorem st16 (k : Nat) (ρ : Rho) {n : Nat} (hn : okN n) (E : Nat → Int) {g : Int} (hg : okG g) (h : ρ "edges" = some (intsV (tab (2 * n) E))) (h2 : ρ "great" = some (.int g)) :
    st (k + 2) 16 ρ omg0 = some (.nx (upd (upd ρ "names" (.lst ((meltN (2 * n) ([], toksOf E (2 * n))).1.map nameOf))) "text" (.str (strS (baseOf g) (meltN (2 * n) ([], toksOf E (2 * n))).2))) omg0) := by
  refine xEEEEEEE d16 fun elts kk tp q1 es q2 q3 qr2 => xAAAA qr2 fun e g1 g2 g3 g4 => ?_
  have g4 := g4 (k + 2) ρ (intsV (tab (2 * n) E)) (.int g)
  rw [form2 h h2] at g4
  exact st_of e (ex_asgT rfl g2 ((ev_fn g1 g4 (by decide +kernel)).trans (melted_call k (okN_14 hn) E hg)) (g3 _ _ _))
end Mine

namespace Mine
open PySem PyProof.Rows PySem.W PySem.SeqAt PySem.Builtin

/-- lower letters of the signs -/
noncomputable def lw (c : Nat) : Nat := if c = 37 then 37 else c + 32
theorem mem_flat66 {l : List Sg} (h : okSg l) {c : Nat} (hc : c ∈ flat 66 l) : c = 37 ∨ c = 66 ∨ c = 67 ∨ c = 68 := by
  refine xEA (List.mem_flatMap.mp hc) fun x hx hc => ?_
  cases x with
  | none => exact .inl (List.mem_singleton.mp hc)
  | some d =>
    have := h (some d) hx d rfl
    simp only [code, List.mem_cons, List.not_mem_nil, or_false] at hc
    lia
theorem lw_flat : ∀ (l : List Sg), (flat 66 l).map lw = flat 98 l
  | [] => rfl
  | x :: l => by
    rw [flat_cons, flat_cons, List.map_append, lw_flat l]
    congr 1
    cases x with
    | none => rfl
    | some d =>
      show [lw 66, lw (66 + d)] = [98, 98 + d]
      unfold lw
      rw [if_neg (by decide), if_neg (by lia)]
      congr 2; lia
theorem lower_at {x : Array Nat} {i c : Nat} (h : x[i]? = some c) (hc : c = 37 ∨ c = 66 ∨ c = 67 ∨ c = 68) : Unicode.lowerAt x i = [lw c] := by
  unfold Unicode.lowerAt
  rw [h]
  rcases hc with rfl | rfl | rfl | rfl <;> kernel_rfl
theorem flatten_map (a : List Nat) (f : Nat → Nat) : ∀ (l : List Nat), (l.map fun c => [f c]).flatten = l.map f
  | [] => rfl
  | x :: l => by rw [List.map_cons, List.flatten_cons, flatten_map a f l]; rfl
theorem lower_strS {l : List Sg} (h : okSg l) : Txt.lower (strS 66 l) = strS 98 l := by
  refine str_mk ?_
  show (placed (strS 66 l) fun i _ => Unicode.lowerAt (strS 66 l).cps i).toList = flat 98 l
  unfold placed
  have e : ((strS 66 l).cps.mapIdx fun i c => (Unicode.lowerAt (strS 66 l).cps i).toArray) = (strS 66 l).cps.map fun c => #[lw c] := by
    apply Array.ext
    · simp
    · intro i h1 h2
      have hi : i < (strS 66 l).cps.size := by simpa using h1
      rw [Array.getElem_mapIdx, Array.getElem_map]
      have hm : (strS 66 l).cps[i] ∈ flat 66 l := by
        have : (strS 66 l).cps[i] ∈ (strS 66 l).cps.toList := Array.mem_toList_iff.mpr (Array.getElem_mem hi)
        exact this
      rw [lower_at (Array.getElem?_eq_getElem hi) (mem_flat66 h hm)]
  rw [e, Array.toList_flatten, Array.toList_map]
  show (List.map Array.toList (List.map (fun c => #[lw c]) (flat 66 l))).flatten = _
  rw [List.map_map, show (Array.toList ∘ fun c => #[lw c]) = fun c => [lw c] from rfl, flatten_map [], lw_flat]
theorem join_go (b : Nat) : ∀ (l : List Sg) (acc : Array Nat), ((l.map fun x => strS b [x]).foldl (fun acc p => acc ++ (⟨#[]⟩ : Str).cps ++ p.cps) acc).toList = acc.toList ++ flat b l
  | [], acc => by simp [flat]
  | x :: l, acc => by
    rw [List.map_cons, List.foldl_cons, join_go b l, flat_cons]
    show (acc ++ #[] ++ (flat b [x]).toArray).toList ++ flat b l = _
    simp [flat]
theorem join_strS (b : Nat) (l : List Sg) : Txt.join ⟨#[]⟩ (l.map fun x => strS b [x]) = strS b l := by
  refine str_mk ?_
  show (PySem.Builtin.Str.glued ⟨#[]⟩ (l.map fun x => strS b [x])).cps.toList = flat b l
  unfold PySem.Builtin.Str.glued
  cases l with
  | nil => rfl
  | cons x l =>
    show (((l.map fun x => strS b [x]).foldl (fun acc p => acc ++ (⟨#[]⟩ : Str).cps ++ p.cps) (strS b [x]).cps)).toList = _
    rw [join_go]
    show flat b [x] ++ flat b l = flat b (x :: l)
    rw [flat_cons]; simp [flat]

/-- what is left, as signs -/
noncomputable def leftSg (hi la : List Nat) : List Sg := hi.map (fun j => some (j % 3)) ++ la.map (fun _ => none)
theorem leftSg_ok (hi la : List Nat) : okSg (leftSg hi la) := fun x hx c hc => by
  rcases List.mem_append.mp hx with h | h
  · (refine xEA (List.mem_map.mp h) fun j _ qq0 => ?_; subst qq0)
    (injection hc with hc; subst hc); exact Nat.mod_lt _ (by decide)
  · (refine xEA (List.mem_map.mp h) fun j _ qq1 => ?_; subst qq1)
    injection hc
theorem leftSg_len (hi la : List Nat) : (leftSg hi la).length = hi.length + la.length := by unfold leftSg; simp
theorem join_call {l : List Sg} (hl : l.length ≤ 1000) : mthV (.str ⟨#[]⟩) "join" [.lst (l.map fun x => V.str (strS 66 [x]))] = some (.str (strS 66 l)) := by
  have hall : (l.map fun x => V.str (strS 66 [x])).all isStrV = true := List.all_eq_true.mpr fun y hy => by
    (refine xEA (List.mem_map.mp hy) fun x _ qq2 => ?_; subst qq2); rfl
  have hlen : ∀ (l : List Sg), sumLen (l.map fun x => V.str (strS 66 [x])) ≤ 2 * l.length := by
    intro l
    induction l with
    | nil => exact Nat.le_refl _
    | cons x l ih =>
      have e : sumLen ((x :: l).map fun x => V.str (strS 66 [x])) = (strS 66 [x]).length + sumLen (l.map fun x => V.str (strS 66 [x])) := by
        unfold sumLen; simp [strOfV]
      rw [e, List.length_cons]
      have := strS_len (b := 66) (l := [x])
      simp only [List.length_cons, List.length_nil] at this
      lia
  have hsz : sumLen (l.map fun x => V.str (strS 66 [x])) + (l.map fun x => V.str (strS 66 [x])).length * (⟨#[]⟩ : Str).length ≤ 16777216 := by
    have := hlen l
    show _ + _ * 0 ≤ _
    lia
  show oO (strM ⟨#[]⟩ "join" [.lst (l.map fun x => V.str (strS 66 [x]))]) none = _
  rw [oO_none]
  unfold strM
  rw [if_neg (by decide), if_neg (by decide), if_pos rfl]
  refine (if_pos ⟨hall, hsz⟩).trans ?_
  rw [← join_strS 66 l, List.map_map]
  rfl

namespace C17
noncomputable def rt : T := .s ((lawB[17]?).getD default)
noncomputable def k0 : Nat := tN rt 69633
noncomputable def elt1 : Expr := tE rt 1048593
noncomputable def elt2 : Expr := tE rt 1056785
noncomputable def sc1 : Scope := tSc rt 1179665
noncomputable def sc2 : Scope := tSc rt 1187857
theorem e : lawB[17]? = some (.Assign [.Name "left" (tP C17.rt 4352)] (.Call (.Attribute (.Constant (.str "") k0 (tP C17.rt 73729)) "join" (tP C17.rt 4609)) [.BinOp (.ListComp elt1 [⟨.Name "place" (tP C17.rt 4563468305), .Name "higher" (tP C17.rt 4580245521), [], 0⟩] sc1 (tP C17.rt 1245201)) .Add (.ListComp elt2 [⟨.Name "place" (tP C17.rt 4563476497), .Name "lasting" (tP C17.rt 4580253713), [], 0⟩] sc2 (tP C17.rt 1253393)) (tP C17.rt 77841)] [] (tP C17.rt 305)) (tP C17.rt 18)) := (by kernel_rfl)
theorem g1 : kOk lawSc "left" = true := by kernel_rfl
theorem g2 : (tP C17.rt 4609).endLine = (tP C17.rt 305).line := by kernel_rfl
theorem g3 : ∀ k ρ l, (namesOk lawSc ρ sc1 (.Name "place" (tP C17.rt 4563468305)) && notSet (.Name "higher" (tP C17.rt 4580245521))) = true ∧ evIter (ev (Cx k) 56) lawSc (form [("higher", .lst l)] ρ) (.Name "place" (tP C17.rt 4563468305)) (.Name "higher" (tP C17.rt 4580245521)) = some l := fun k ρ l => ⟨by kernel_rfl, by kernel_rfl⟩
theorem g4 : ∀ k ρ l, (namesOk lawSc ρ sc2 (.Name "place" (tP C17.rt 4563476497)) && notSet (.Name "lasting" (tP C17.rt 4580253713))) = true ∧ evIter (ev (Cx k) 56) lawSc (form [("lasting", .lst l)] ρ) (.Name "place" (tP C17.rt 4563476497)) (.Name "lasting" (tP C17.rt 4580253713)) = some l := fun k ρ l => ⟨by kernel_rfl, by kernel_rfl⟩
theorem g5 : ∀ k ρ (j : Nat), j < 14 → ev (Cx k) 56 (relab (fun y => lawSc.lookup y) sc1.names) (upd ρ "place" (.int j)) elt1 = some (.str ⟨#[66, 66 + j % 3]⟩) := fun k ρ j hj => by
    match j, hj with
    | 0, _ => kernel_rfl
    | 1, _ => kernel_rfl
    | 2, _ => kernel_rfl
    | 3, _ => kernel_rfl
    | 4, _ => kernel_rfl
    | 5, _ => kernel_rfl
    | 6, _ => kernel_rfl
    | 7, _ => kernel_rfl
    | 8, _ => kernel_rfl
    | 9, _ => kernel_rfl
    | 10, _ => kernel_rfl
    | 11, _ => kernel_rfl
    | 12, _ => kernel_rfl
    | 13, _ => kernel_rfl
    | j + 14, hj => exact absurd hj (by lia)
theorem g6 : ∀ k ρ (j : Nat), ev (Cx k) 56 (relab (fun y => lawSc.lookup y) sc2.names) (upd ρ "place" (.int j)) elt2 = some (.str ⟨#[37]⟩) := fun k ρ j => by kernel_rfl
end C17
theorem addV_lst {x y : List V} (h : x.length ≤ 1000) (h' : y.length ≤ 1000) : binW .Add (.lst x) (.lst y) = some (.lst (x ++ y)) := by
  exact oO_l (if_pos ⟨h, h'⟩)
open C17 in
theorem st17 (k : Nat) (ρ : Rho) (ω : Omg) {hi la : List Nat} (h1 : ∀ j ∈ hi, j < 14) (h2 : hi.length ≤ 14) (h3 : la.length ≤ 14) (e1 : ρ "higher" = some (nats hi)) (e2 : ρ "lasting" = some (nats la)) :
    st k 17 ρ ω = some (.nx (upd ρ "left" (.str (strS 66 (leftSg hi la)))) (era ω "left")) := by
  have it1 := (g3 k ρ (hi.map fun (i : Nat) => V.int (i : Int))).2
  have it2 := (g4 k ρ (la.map fun (i : Nat) => V.int (i : Int))).2
  rw [show form [("higher", .lst (hi.map fun (i : Nat) => V.int (i : Int)))] ρ = ρ from form1 e1] at it1
  rw [show form [("lasting", .lst (la.map fun (i : Nat) => V.int (i : Int)))] ρ = ρ from form1 e2] at it2
  have c1 : ev (Cx k) 57 lawSc ρ (.ListComp elt1 [⟨.Name "place" (tP C17.rt 4563468305), .Name "higher" (tP C17.rt 4580245521), [], 0⟩] sc1 (tP C17.rt 1245201)) = some (.lst (hi.map fun j => V.str (strS 66 [some (j % 3)]))) :=
    ev_lc (g3 k ρ []).1 it1 (by rw [List.length_map]; lia) (evComp_map (inj := fun (i : Nat) => V.int (i : Int)) fun j hj => ⟨_, rfl, g5 k _ j (h1 j hj)⟩)
  have c2 : ev (Cx k) 57 lawSc ρ (.ListComp elt2 [⟨.Name "place" (tP C17.rt 4563476497), .Name "lasting" (tP C17.rt 4580253713), [], 0⟩] sc2 (tP C17.rt 1253393)) = some (.lst (la.map fun j => V.str (strS 66 [none]))) :=
    ev_lc (g4 k ρ []).1 it2 (by rw [List.length_map]; lia) (evComp_map (inj := fun (i : Nat) => V.int (i : Int)) fun j hj => ⟨_, rfl, g6 k _ j⟩)
  have c3 := ev_bin (p := (tP C17.rt 77841)) c1 c2 (addV_lst (by rw [List.length_map]; lia) (by rw [List.length_map]; lia))
  have hm : (hi.map fun j => V.str (strS 66 [some (j % 3)])) ++ (la.map fun j => V.str (strS 66 [none])) = (leftSg hi la).map fun x => V.str (strS 66 [x]) := by
    unfold leftSg
    rw [List.map_append, List.map_map, List.map_map]; rfl
  rw [hm] at c3
  refine st_of e (ex_asg g1 rfl rfl (ev_meth ?_ rfl (x := .str ⟨#[]⟩) (by rfl) (evs_cons rfl c3 evs_nil) (join_call (by rw [leftSg_len]; lia))))
  show ((true && (tP C17.rt 4609).endLine == (tP C17.rt 305).line) && decide ((1 : Nat) < 30)) = true
  rw [g2]; simp
end Mine

namespace Mine
open PySem PyProof.Rows PySem.W PySem.SeqAt PySem.Builtin

namespace C18
noncomputable def rt : T := .s ((lawB[18]?).getD default)
noncomputable def elt : Expr := tE rt 16785424
noncomputable def sc : Scope := tSc rt 18882576
noncomputable def ret : Stmt := tS rt 257
theorem e : lawB[18]? = some (.If (.BoolOp .Or [.Compare (.Name "names" (tP C18.rt 1114128)) [.NotEq] [.ListComp elt [⟨.Name "place" (tP C18.rt 73015500816), .Name "rising" (tP C18.rt 73283936272), [.Compare (.Name "place" (tP C18.rt 18692235599888)) [.NotIn] [.Name "higher" (tP C18.rt 299205139636240)] (tP C18.rt 1306207985680)], 0⟩] sc (tP C18.rt 19931152)] (tP C18.rt 77840),
      .Compare (.Name "text" (tP C18.rt 1114384)) [.NotEq] [.Subscript (.List [.Call (.Attribute (.Name "left" (tP C18.rt 18691697680656)) "lower" (tP C18.rt 1236950589712)) [] [] (tP C18.rt 81604387088), .Name "left" (tP C18.rt 73282887952)] (tP C18.rt 285221136)) (.Name "great" (tP C18.rt 286269712)) (tP C18.rt 18882832)] (tP C18.rt 78096)] (tP C18.rt 288)) [ret] [] (tP C18.rt 19)) := (by kernel_rfl)
theorem g1 : (tP C18.rt 1236950589712).endLine = (tP C18.rt 81604387088).line := by kernel_rfl
theorem g2 : behindInMarks .NotEq (.ListComp elt [⟨.Name "place" (tP C18.rt 73015500816), .Name "rising" (tP C18.rt 73283936272), [.Compare (.Name "place" (tP C18.rt 18692235599888)) [.NotIn] [.Name "higher" (tP C18.rt 299205139636240)] (tP C18.rt 1306207985680)], 0⟩] sc (tP C18.rt 19931152)) = false := by kernel_rfl
theorem g3 : behindInMarks .NotEq (.Subscript (.List [.Call (.Attribute (.Name "left" (tP C18.rt 18691697680656)) "lower" (tP C18.rt 1236950589712)) [] [] (tP C18.rt 81604387088), .Name "left" (tP C18.rt 73282887952)] (tP C18.rt 285221136)) (.Name "great" (tP C18.rt 286269712)) (tP C18.rt 18882832)) = false := by kernel_rfl
theorem g4 : behindInMarks .NotIn (.Name "higher" (tP C18.rt 299205139636240)) = false := by kernel_rfl
theorem n1 : ∀ k ρ v, ev (Cx k) 59 lawSc (form [("names", v)] ρ) (.Name "names" (tP C18.rt 1114128)) = some v := fun k ρ v => by kernel_rfl
theorem n2 : ∀ k ρ v, ev (Cx k) 59 lawSc (form [("text", v)] ρ) (.Name "text" (tP C18.rt 1114384)) = some v := fun k ρ v => by kernel_rfl
theorem n3 : ∀ k ρ v, ev (Cx k) 56 lawSc (form [("left", v)] ρ) (.Name "left" (tP C18.rt 18691697680656)) = some v := fun k ρ v => by kernel_rfl
theorem n4 : ∀ k ρ v, ev (Cx k) 57 lawSc (form [("left", v)] ρ) (.Name "left" (tP C18.rt 73282887952)) = some v := fun k ρ v => by kernel_rfl
theorem n5 : ∀ k ρ v, ev (Cx k) 58 lawSc (form [("great", v)] ρ) (.Name "great" (tP C18.rt 286269712)) = some v := fun k ρ v => by kernel_rfl
theorem n6 : ∀ k ρ h l, (namesOk lawSc (form [("higher", h), ("rising", .lst l)] ρ) sc (.Name "place" (tP C18.rt 73015500816)) && notSet (.Name "rising" (tP C18.rt 73283936272))) = true ∧ evIter (ev (Cx k) 58) lawSc (form [("higher", h), ("rising", .lst l)] ρ) (.Name "place" (tP C18.rt 73015500816)) (.Name "rising" (tP C18.rt 73283936272)) = some l ∧
      (∀ (j : Nat), ev (Cx k) 58 (relab (fun y => lawSc.lookup y) sc.names) (upd (inner sc.names (form [("higher", h), ("rising", .lst l)] ρ)) "place" (.int j)) (.Name "place" (tP C18.rt 18692235599888)) = some (.int j) ∧ ev (Cx k) 58 (relab (fun y => lawSc.lookup y) sc.names) (upd (inner sc.names (form [("higher", h), ("rising", .lst l)] ρ)) "place" (.int j)) (.Name "higher" (tP C18.rt 299205139636240)) = some h) := fun k ρ h l => ⟨by kernel_rfl, by kernel_rfl, fun j => ⟨by kernel_rfl, by kernel_rfl⟩⟩
theorem n7 : ∀ k ρ (j : Nat), j < 14 → ev (Cx k) 58 (relab (fun y => lawSc.lookup y) sc.names) (upd ρ "place" (.int j)) elt = some (nameOf (j % 3)) := fun k ρ j hj => by
    match j, hj with
    | 0, _ => kernel_rfl
    | 1, _ => kernel_rfl
    | 2, _ => kernel_rfl
    | 3, _ => kernel_rfl
    | 4, _ => kernel_rfl
    | 5, _ => kernel_rfl
    | 6, _ => kernel_rfl
    | 7, _ => kernel_rfl
    | 8, _ => kernel_rfl
    | 9, _ => kernel_rfl
    | 10, _ => kernel_rfl
    | 11, _ => kernel_rfl
    | 12, _ => kernel_rfl
    | 13, _ => kernel_rfl
    | j + 14, hj => exact absurd hj (by lia)
end C18
theorem nm1 {m : Nat} {sc : Sc} {x : Str} {e : Expr} {v : V} {ρ : Rho} (h : ∀ k ρ v, ev (Cx k) m sc (form [(x, v)] ρ) e = some v) (k : Nat) (h1 : ρ x = some v) : ev (Cx k) m sc ρ e = some v := by
  have := h k ρ v
  rwa [form1 h1] at this
theorem notin_nats (j : Nat) (l : List Nat) : cmpV .NotIn (.int j) (nats l) = some (!l.contains j) := by
  have h1 : (l.map fun (i : Nat) => V.int (i : Int)).all isInt = true := List.all_eq_true.mpr fun y hy => by
    (refine xEA (List.mem_map.mp hy) fun x _ qq0 => ?_; subst qq0); rfl
  have h2 : ((l.map fun (i : Nat) => V.int (i : Int)).any fun x => intIs x j) = l.contains j := by
    rw [List.any_map]
    induction l with
    | nil => rfl
    | cons a l ih =>
      rw [List.any_cons, List.contains_cons, ih (List.all_eq_true.mpr fun y hy => by (refine xEA (List.mem_map.mp hy) fun x _ qq1 => ?_; subst qq1); rfl)]
      congr 1
      show ((a : Int) == (j : Int)) = (j == a)
      by_cases h : a = j
      · subst h; simp
      · have h' : ¬ j = a := fun q => h q.symm
        rw [beq_eq_false_iff_ne.mpr h', beq_eq_false_iff_ne.mpr]
        lia
  show (if (l.map fun (i : Nat) => V.int (i : Int)).all isInt then some (!(l.map fun (i : Nat) => V.int (i : Int)).any fun x => intIs x j) else none) = _
  rw [if_pos h1, h2]
theorem names_ne (l : List Nat) : cmpV .NotEq (.lst (l.map nameOf)) (.lst (l.map nameOf)) = some false := ne_self fun x hx => by
  (refine xEA (List.mem_map.mp hx) fun c _ qq2 => ?_; subst qq2)
  exact str_self _
theorem lower_call {l : List Sg} (h : okSg l) (hl : l.length ≤ 1000) : mthV (.str (strS 66 l)) "lower" [] = some (.str (strS 98 l)) := by
  show oO (strM (strS 66 l) "lower" []) none = _
  rw [oO_none]
  unfold strM
  rw [if_pos rfl]
  refine (if_pos (Nat.le_trans strS_len (by lia))).trans ?_
  rw [lower_strS h]
open C18 in
theorem st18 (k : Nat) (ρ : Rho) (ω : Omg) {hi la ri : List Nat} {g : Int} (hg : okG g) (hr : ∀ j ∈ ri, j < 14) (hrl : ri.length ≤ 14) (h2 : hi.length ≤ 14) (h3 : la.length ≤ 14) {nm : List Nat} {tx : List Sg} (hnm : nm = (ri.filter fun j => !hi.contains j).map (· % 3)) (htx : tx = leftSg hi la)
    (e1 : ρ "names" = some (.lst (nm.map nameOf))) (e2 : ρ "text" = some (.str (strS (baseOf g) tx))) (e3 : ρ "left" = some (.str (strS 66 (leftSg hi la)))) (e4 : ρ "great" = some (.int g)) (e5 : ρ "rising" = some (nats ri)) (e6 : ρ "higher" = some (nats hi)) :
    st k 18 ρ ω = some (.nx ρ ω) := by
  subst hnm htx
  have n1 := nm1 n1 k e1
  have n2 := nm1 n2 k e2
  have n3 := nm1 n3 k e3
  have n4 := nm1 n4 k e3
  have n5 := nm1 n5 k e4
  refine xAA (n6 k ρ (nats hi) (ri.map fun (i : Nat) => V.int (i : Int))) fun m1 m2 m3 => ?_
  rw [show form [("higher", nats hi), ("rising", .lst (ri.map fun (i : Nat) => V.int (i : Int)))] ρ = ρ from form2 e6 e5] at m1 m2 m3
  have lc : ev (Cx k) 59 lawSc ρ (.ListComp elt [⟨.Name "place" (tP C18.rt 73015500816), .Name "rising" (tP C18.rt 73283936272), [.Compare (.Name "place" (tP C18.rt 18692235599888)) [.NotIn] [.Name "higher" (tP C18.rt 299205139636240)] (tP C18.rt 1306207985680)], 0⟩] sc (tP C18.rt 19931152)) = some (.lst ((ri.filter fun j => !hi.contains j).map fun j => nameOf (j % 3))) :=
    ev_lc m1 m2 (by rw [List.length_map]; lia) (evComp_filter (inj := fun (i : Nat) => V.int (i : Int)) fun j hj => ⟨_, rfl, evTests_one (evB_cmp (evT_cmp g4 (m3 j).1 (m3 j).2 (notin_nats j hi))), fun _ => n7 k _ j (hr j hj)⟩)
  have hmm : ((ri.filter fun j => !hi.contains j).map (· % 3)).map nameOf = (ri.filter fun j => !hi.contains j).map fun j => nameOf (j % 3) := by rw [List.map_map]; rfl
  rw [← hmm] at lc
  have hlow : ev (Cx k) 57 lawSc ρ (.Call (.Attribute (.Name "left" (tP C18.rt 18691697680656)) "lower" (tP C18.rt 1236950589712)) [] [] (tP C18.rt 81604387088)) = some (.str (strS 98 (leftSg hi la))) := ev_meth (by
    show ((true && (tP C18.rt 1236950589712).endLine == (tP C18.rt 81604387088).line) && decide ((0 : Nat) < 30)) = true
    rw [g1]; simp) rfl n3 rfl (lower_call (leftSg_ok hi la) (by rw [leftSg_len]; lia))
  have hls : ev (Cx k) 58 lawSc ρ (.List [.Call (.Attribute (.Name "left" (tP C18.rt 18691697680656)) "lower" (tP C18.rt 1236950589712)) [] [] (tP C18.rt 81604387088), .Name "left" (tP C18.rt 73282887952)] (tP C18.rt 285221136)) = some (.lst [.str (strS 98 (leftSg hi la)), .str (strS 66 (leftSg hi la))]) := ev_list (evs_cons rfl hlow (evs_cons rfl n4 evs_nil)) (by show (2 : Nat) ≤ 1000; decide)
  have hsub : ev (Cx k) 59 lawSc ρ (.Subscript (.List [.Call (.Attribute (.Name "left" (tP C18.rt 18691697680656)) "lower" (tP C18.rt 1236950589712)) [] [] (tP C18.rt 81604387088), .Name "left" (tP C18.rt 73282887952)] (tP C18.rt 285221136)) (.Name "great" (tP C18.rt 286269712)) (tP C18.rt 18882832)) = some (.str (strS (baseOf g) (leftSg hi la))) := ev_sub rfl hls n5 (by rcases hg with rfl | rfl <;> rfl)
  refine st_of e (ex_if (evB_or (evT_cmp g2 n1 lc (names_ne _)) (evT_cmp g3 n2 hsub ?_)) rfl)
  show some (strS (baseOf g) (leftSg hi la) != strS (baseOf g) (leftSg hi la)) = some false
  rw [bne_self_eq_false]
end Mine

namespace Mine
open PySem PyProof.Rows PySem.W PySem.SeqAt PySem.Builtin

noncomputable def sp (j : Nat) : Str := ⟨(List.replicate j 32).toArray⟩
noncomputable def pct : Str := ⟨#[37]⟩
namespace C22
noncomputable def rt : T := .s ((lawB[22]?).getD default)
noncomputable def tg : Expr := tE rt 16
noncomputable def it : Expr := tE rt 17
noncomputable def t1 : Expr := tE rt 4098
noncomputable def t2 : Expr := tE rt 4114
noncomputable def e1 : Expr := tE rt 4311744770
noncomputable def e2 : Expr := tE rt 4580180226
noncomputable def kk : Nat := tN rt 4565500162
noncomputable def kn : Nat := tN rt 285212946
noncomputable def elts : List Expr := tEs rt 268435730
noncomputable def t3 : Expr := tE rt 1052946
noncomputable def t4 : Expr := tE rt 268570898
noncomputable def t5 : Expr := tE rt 68753166610
noncomputable def ra : Stmt := tS rt 16843010
noncomputable def rb : Stmt := tS rt 4311879954
noncomputable def ep : Expr := tE rt 4521196142072082
theorem h22 : lawB[22]? = some (.For tg it [
      .If t1 [.If (.Compare (.Call (.Attribute (.Name "pile" (tP C22.rt 73014444290)) "push" (tP C22.rt 4831838466)) [e1, e2] [] (tP C22.rt 318767362)) [.IsNot] [.Constant .none kk (tP C22.rt 4833935618)] (tP C22.rt 19923202)) [ra] [] (tP C22.rt 1245442)] [] (tP C22.rt 4866),
      .If t2 [.Assign [.Tuple elts kn (tP C22.rt 301990162)] (.Call (.Attribute (.Name "pile" (tP C22.rt 4563468562)) "pop" (tP C22.rt 302055698)) [] [] (tP C22.rt 19988754)) (tP C22.rt 1179922),
        .If t3 [.Expr (.Call (.Attribute (.Name "asking" (tP C22.rt 1168231174418)) "append" (tP C22.rt 77309481234)) [.Name "place" (tP C22.rt 1168499609874)] [] (tP C22.rt 5100343570)) (tP C22.rt 285282578)] [.If t4 [rb] [.If t5 [.Expr (.Call (.Attribute (.Name "apart" (tP C22.rt 76561197993955602)) "append" (tP C22.rt 5066553909448978)) [ep] [] (tP C22.rt 334255863501074)) (tP C22.rt 18696026329362)] [] (tP C22.rt 81638068498)] (tP C22.rt 318902546)] (tP C22.rt 1249554)] [] (tP C22.rt 4882)] [] (tP C22.rt 20)) := (by kernel_rfl)
theorem y1 : ((tP C22.rt 4831838466).endLine == (tP C22.rt 318767362).line) = true := by kernel_rfl
theorem y2 : ((tP C22.rt 302055698).endLine == (tP C22.rt 19988754).line) = true := by kernel_rfl
theorem y3 : ((tP C22.rt 77309481234).endLine == (tP C22.rt 5100343570).line) = true := by kernel_rfl
theorem y4 : ((tP C22.rt 5066553909448978).endLine == (tP C22.rt 334255863501074).line) = true := by kernel_rfl
theorem es : isStar ep = false := by kernel_rfl
theorem g1 : (notSet it && (tgtNames tg).all (kOk lawSc)) = true := by kernel_rfl
theorem g2 : tgtNames tg = [("place" : Str), ("edge" : Str)] := by kernel_rfl
theorem g3 : ∀ j y ρ, bindT tg (.tup [.int j, y]) ρ = some (upd (upd ρ "place" (.int j)) "edge" y) := fun j y ρ => (by kernel_rfl)
theorem g4 : tgtNames (.Tuple elts kn (tP C22.rt 301990162)) = [("blanks" : Str), ("sign" : Str)] := by kernel_rfl
theorem g5 : ∀ x y ρ, bindT (.Tuple elts kn (tP C22.rt 301990162)) (.tup [x, y]) ρ = some (upd (upd ρ "blanks" x) "sign" y) := fun x y ρ => (by kernel_rfl)
theorem kb : kOk lawSc "blanks" = true := by kernel_rfl
theorem ks : kOk lawSc "sign" = true := by kernel_rfl
theorem eit : ∀ k ρ l, evIter (ev (Cx k) 59) lawSc (form [("edges", .lst l)] ρ) tg it = some (enumV 0 l) := fun k ρ l => by kernel_rfl
theorem et1 : ∀ k ρ e, evB (ev (Cx k) 58) lawSc (form [("edge", .int e)] ρ) t1 = some (decide (e < 0)) := fun k ρ e => by kernel_rfl
theorem et2 : ∀ k ρ e, evB (ev (Cx k) 58) lawSc (form [("edge", .int e)] ρ) t2 = some (decide (0 < e)) := fun k ρ e => by kernel_rfl
theorem epl : ∀ k ρ v, ev (Cx k) 56 lawSc (form [("place", v)] ρ) (.Name "place" (tP C22.rt 1168499609874)) = some v := fun k ρ v => by kernel_rfl
theorem et5 : ∀ k ρ (n j : Nat), evB (ev (Cx k) 55) lawSc (form [("place", .int j), ("size", .int n)] ρ) t5 = some (decide ((n : Int) ≤ j)) := fun k ρ n j => by kernel_rfl
theorem et30 : ∀ k ρ, evB (ev (Cx k) 57) lawSc (form [("blanks", .str ""), ("sign", .str "")] ρ) t3 = some true := fun k ρ => by kernel_rfl
theorem epu : ∀ k ρ (j : Nat), j < 14 → evs (ev (Cx k) 56) lawSc (form [("place", .int j)] ρ) [e1, e2] = some [.str (sp j), .str pct] ∧
      evB (ev (Cx k) 57) lawSc (form [("blanks", .str (sp j)), ("sign", .str pct)] ρ) t3 = some false ∧ evB (ev (Cx k) 56) lawSc (form [("blanks", .str (sp j)), ("sign", .str pct)] ρ) t4 = some false := fun k ρ j hj => by
    match j, hj with
    | 0, _ => exact ⟨by kernel_rfl, by kernel_rfl, by kernel_rfl⟩
    | 1, _ => exact ⟨by kernel_rfl, by kernel_rfl, by kernel_rfl⟩
    | 2, _ => exact ⟨by kernel_rfl, by kernel_rfl, by kernel_rfl⟩
    | 3, _ => exact ⟨by kernel_rfl, by kernel_rfl, by kernel_rfl⟩
    | 4, _ => exact ⟨by kernel_rfl, by kernel_rfl, by kernel_rfl⟩
    | 5, _ => exact ⟨by kernel_rfl, by kernel_rfl, by kernel_rfl⟩
    | 6, _ => exact ⟨by kernel_rfl, by kernel_rfl, by kernel_rfl⟩
    | 7, _ => exact ⟨by kernel_rfl, by kernel_rfl, by kernel_rfl⟩
    | 8, _ => exact ⟨by kernel_rfl, by kernel_rfl, by kernel_rfl⟩
    | 9, _ => exact ⟨by kernel_rfl, by kernel_rfl, by kernel_rfl⟩
    | 10, _ => exact ⟨by kernel_rfl, by kernel_rfl, by kernel_rfl⟩
    | 11, _ => exact ⟨by kernel_rfl, by kernel_rfl, by kernel_rfl⟩
    | 12, _ => exact ⟨by kernel_rfl, by kernel_rfl, by kernel_rfl⟩
    | 13, _ => exact ⟨by kernel_rfl, by kernel_rfl, by kernel_rfl⟩
    | j + 14, hj => exact absurd hj (by lia)
theorem ega : ∀ k ρ i (j : Nat), j < 14 → ev (Cx k) 54 lawSc (form [("place", .int i), ("blanks", .str (sp j))] ρ) ep = some (.int (i - (j : Int))) := fun k ρ i j hj => by
    match j, hj with
    | 0, _ => kernel_rfl
    | 1, _ => kernel_rfl
    | 2, _ => kernel_rfl
    | 3, _ => kernel_rfl
    | 4, _ => kernel_rfl
    | 5, _ => kernel_rfl
    | 6, _ => kernel_rfl
    | 7, _ => kernel_rfl
    | 8, _ => kernel_rfl
    | 9, _ => kernel_rfl
    | 10, _ => kernel_rfl
    | 11, _ => kernel_rfl
    | 12, _ => kernel_rfl
    | 13, _ => kernel_rfl
    | j + 14, hj => exact absurd hj (by lia)
end C22
end Mine

namespace Mine
open PySem PyProof.Rows PySem.W PySem.SeqAt PySem.Builtin

/-- the pile, who asked, how far apart -/
structure Pl where
  st : List Nat
  ask : List Nat
  ap : List Int
noncomputable def plStep (n : Nat) (e : Int) (j : Nat) (x : Pl) : Pl :=
  if e < 0 then ⟨x.st ++ [j], x.ask, x.ap⟩
  else if 0 < e then match x.st.getLast? with
    | none => ⟨x.st, x.ask ++ [j], x.ap⟩
    | some p => ⟨x.st.dropLast, x.ask, if n ≤ j then x.ap ++ [(j : Int) - p] else x.ap⟩
  else x
noncomputable def plAt (n : Nat) (E : Nat → Int) : Nat → Pl
  | 0 => ⟨[], [], []⟩
  | j + 1 => plStep n (E j) j (plAt n E j)
theorem plAt_ok (n : Nat) (E : Nat → Int) : ∀ j, (∀ i ∈ (plAt n E j).st, i < j) ∧ (plAt n E j).st.length ≤ j ∧ (plAt n E j).ask.length ≤ j ∧ (plAt n E j).ap.length ≤ j
  | 0 => ⟨fun _ h => (nM h), Nat.le_refl _, Nat.le_refl _, Nat.le_refl _⟩
  | j + 1 => by
    refine xAAA (plAt_ok n E j) fun h1 h2 h3 h4 => ?_
    show (∀ i ∈ (plStep n (E j) j (plAt n E j)).st, i < j + 1) ∧ (plStep n (E j) j (plAt n E j)).st.length ≤ j + 1 ∧ (plStep n (E j) j (plAt n E j)).ask.length ≤ j + 1 ∧ (plStep n (E j) j (plAt n E j)).ap.length ≤ j + 1
    unfold plStep
    split
    · refine ⟨fun i hi => ?_, by simp; lia, Nat.le_succ_of_le h3, Nat.le_succ_of_le h4⟩
      rcases List.mem_append.mp hi with hi | hi
      · have := h1 i hi; lia
      · rw [List.mem_singleton.mp hi]; lia
    · split
      · split
        · exact ⟨fun i hi => by have := h1 i hi; lia, Nat.le_succ_of_le h2, by simp; lia, Nat.le_succ_of_le h4⟩
        · refine ⟨fun i hi => by have := h1 i (List.dropLast_subset _ hi); lia, by simp; lia, Nat.le_succ_of_le h3, ?_⟩
          show (if n ≤ j then _ else _ : List Int).length ≤ _
          split
          · simp; lia
          · lia
      · exact ⟨fun i hi => by have := h1 i hi; lia, by lia, by lia, by lia⟩
noncomputable def tupOf (p : Nat) : V := .tup [.str (sp p), .str pct]
structure PlO (x : Pl) (ω : Omg) : Prop where
  pile : ω "pile" = some (.acc 158 (x.st.map tupOf))
  ask : ω "asking" = some (.lst (x.ask.map fun (i : Nat) => V.int (i : Int)))
  ap : ω "apart" = some (.lst (x.ap.map .int))
  no : ∀ y : Str, y ≠ "pile" → y ≠ "asking" → y ≠ "apart" → ω y = none
noncomputable def plNames : List Str := ["place", "edge", "blanks", "sign"]
theorem ForT_inv {g : Gl} {defs : List Fd} {d : Nat} {env : Env} {target : Expr} {body : List Stmt} (I : Nat → Rho → Omg → Prop) : ∀ (l : List V) (j0 : Nat) (ρ : Rho) (ω : Omg), I j0 ρ ω →
    (∀ j x ρ ω, l[j]? = some x → I (j0 + j) ρ ω → ∃ ρ1 ρ2 ω2, bindT target x ρ = some ρ1 ∧ (∀ n ∈ tgtNames target, ω n = none) ∧ Exs g defs d env ρ1 ω body (.nx ρ2 ω2) ∧ I (j0 + j + 1) ρ2 ω2) →
    ∃ ρ' ω', ForT g defs d env target body l ρ ω (.nx ρ' ω') ∧ I (j0 + l.length) ρ' ω'
  | [], j0, ρ, ω, h, _ => ⟨ρ, ω, .nil, h⟩
  | x :: l, j0, ρ, ω, h, step => by
    refine xEEEAAA (step 0 x ρ ω rfl h) fun ρ1 ρ2 ω2 h1 h2 h3 h4 => ?_
    obtain ⟨ρ', ω', e, i⟩ := ForT_inv I l (j0 + 1) ρ2 ω2 h4 fun j y ρ ω hy hi => by
      have := step (j + 1) y ρ ω (by rw [List.getElem?_cons_succ]; exact hy) (by rw [show j0 + (j + 1) = j0 + 1 + j from by lia]; exact hi)
      rw [show j0 + (j + 1) + 1 = j0 + 1 + j + 1 from by lia] at this
      exact this
    exact ⟨ρ', ω', .next h1 h2 h3 e, by rw [List.length_cons, show j0 + (l.length + 1) = j0 + 1 + l.length from by lia]; exact i⟩
theorem popV_nil : popV [] = (.tup [.str "", .str ""], []) := rfl
theorem popV_some {l : List Nat} {p : Nat} (h : l.getLast? = some p) : popV (l.map tupOf) = (tupOf p, l.dropLast.map tupOf) := by
  unfold popV
  rw [List.getLast?_map, h, List.map_dropLast]
  rfl

set_option maxHeartbeats 1000000
section
variable {g : Gl} {k : Nat} {env : Env}
open C22 in
theorem st22 (G : GlP g) (B : Base g dsP gvP) (hE : EnvX env lawSc) (hk : 110 ≤ k) {ρ : Rho} {ω : Omg} {n : Nat} (hn : okN n) (E : Nat → Int) (hed : ρ "edges" = some (intsV (tab (2 * n) E))) (hsz : ρ "size" = some (.int n)) (hω : PlO ⟨[], [], []⟩ ω) :
    ∃ stm ρ' ω', lawB[22]? = some stm ∧ Ex g dsP k env ρ ω stm (.nx ρ' ω') ∧ PlO (plAt n E (2 * n)) ω' ∧ ∀ y, y ∉ plNames → ρ' y = ρ y := by
  have W := B.wf k
  have hs := hE.toEnvS
  have H : ∀ m, Sound g dsP k (ev (Cx k) m) := fun m => ev_sound W m
  have hkn : ∀ x, kOk lawSc x = true → env.kindOf x = some .local ∨ (env.kindOf x = some .cell ∧ (env.cells.lookup x).isSome = true) := fun x hx => kOk_env hE hx
  have hn14 := okN_14 hn
  have g1' := g1
  rw [Bool.and_eq_true] at g1'
  have hit := eit k ρ ((tab (2 * n) E).map .int)
  rw [show form [("edges", .lst ((tab (2 * n) E).map .int))] ρ = ρ from form1 hed] at hit
  have inn : ∀ (ρb : Rho) (ωb : Omg) (j p : Nat) (l : List V), p < 14 → l.length ≤ 1000 → ρb "blanks" = some (.str (sp p)) → ρb "sign" = some (.str pct) → ρb "place" = some (.int j) → ρb "size" = some (.int n) → ωb "apart" = some (.lst l) →
      ex (Cx k) 58 lawSc ρb ωb false (.If t3 [.Expr (.Call (.Attribute (.Name "asking" (tP C22.rt 1168231174418)) "append" (tP C22.rt 77309481234)) [.Name "place" (tP C22.rt 1168499609874)] [] (tP C22.rt 5100343570)) (tP C22.rt 285282578)] [.If t4 [rb] [.If t5 [.Expr (.Call (.Attribute (.Name "apart" (tP C22.rt 76561197993955602)) "append" (tP C22.rt 5066553909448978)) [ep] [] (tP C22.rt 334255863501074)) (tP C22.rt 18696026329362)] [] (tP C22.rt 81638068498)] (tP C22.rt 318902546)] (tP C22.rt 1249554)) = some (.nx ρb (if n ≤ j then ownTo ωb "apart" (.lst (l ++ [.int ((j : Int) - p)])) else ωb)) := by
    intro ρb ωb j p l hpm hl hb1 hb2 hb3 hb4 hap
    obtain ⟨-, f3, f4⟩ := epu k ρb p hpm
    rw [show form [("blanks", .str (sp p)), ("sign", .str pct)] ρb = ρb from form2 hb1 hb2] at f3 f4
    have c5 := et5 k ρb n j
    rw [show form [("place", .int (j : Nat)), ("size", .int n)] ρb = ρb from form2 hb3 hb4] at c5
    have cep := ega k ρb (j : Nat) p hpm
    rw [show form [("place", .int (j : Nat)), ("blanks", .str (sp p))] ρb = ρb from form2 hb3 hb1] at cep
    have happ := ex_app (top := false) (ρ := ρb) (p1 := (tP C22.rt 76561197993955602)) (pos := (tP C22.rt 18696026329362)) hap hl es (by decide) y4 cep
    by_cases hnj : n ≤ j
    · rw [if_pos hnj]
      rw [decide_eq_true (by lia)] at c5
      have h5 := ex_if (ω := ωb) (top := false) (pos := (tP C22.rt 81638068498)) (b := [.Expr (.Call (.Attribute (.Name "apart" (tP C22.rt 76561197993955602)) "append" (tP C22.rt 5066553909448978)) [ep] [] (tP C22.rt 334255863501074)) (tP C22.rt 18696026329362)]) (o := []) c5 (exs_cons happ rfl exs_nil)
      have h4 := ex_if (ω := ωb) (top := false) (pos := (tP C22.rt 318902546)) (b := [rb]) f4 (exs_cons h5 rfl exs_nil)
      exact ex_if f3 (exs_cons h4 rfl exs_nil)
    · rw [if_neg hnj]
      rw [decide_eq_false (by lia)] at c5
      have h5 := ex_if (ω := ωb) (top := false) (pos := (tP C22.rt 81638068498)) (b := [.Expr (.Call (.Attribute (.Name "apart" (tP C22.rt 76561197993955602)) "append" (tP C22.rt 5066553909448978)) [ep] [] (tP C22.rt 334255863501074)) (tP C22.rt 18696026329362)]) (o := []) c5 (r := some (.nx ρb ωb)) rfl
      have h4 := ex_if (ω := ωb) (top := false) (pos := (tP C22.rt 318902546)) (b := [rb]) f4 (exs_cons h5 rfl exs_nil)
      exact ex_if f3 (exs_cons h4 rfl exs_nil)
  have body := ForT_inv (g := g) (defs := dsP) (d := k) (env := env) (target := tg) (body := [
      .If t1 [.If (.Compare (.Call (.Attribute (.Name "pile" (tP C22.rt 73014444290)) "push" (tP C22.rt 4831838466)) [e1, e2] [] (tP C22.rt 318767362)) [.IsNot] [.Constant .none kk (tP C22.rt 4833935618)] (tP C22.rt 19923202)) [ra] [] (tP C22.rt 1245442)] [] (tP C22.rt 4866),
      .If t2 [.Assign [.Tuple elts kn (tP C22.rt 301990162)] (.Call (.Attribute (.Name "pile" (tP C22.rt 4563468562)) "pop" (tP C22.rt 302055698)) [] [] (tP C22.rt 19988754)) (tP C22.rt 1179922),
        .If t3 [.Expr (.Call (.Attribute (.Name "asking" (tP C22.rt 1168231174418)) "append" (tP C22.rt 77309481234)) [.Name "place" (tP C22.rt 1168499609874)] [] (tP C22.rt 5100343570)) (tP C22.rt 285282578)] [.If t4 [rb] [.If t5 [.Expr (.Call (.Attribute (.Name "apart" (tP C22.rt 76561197993955602)) "append" (tP C22.rt 5066553909448978)) [ep] [] (tP C22.rt 334255863501074)) (tP C22.rt 18696026329362)] [] (tP C22.rt 81638068498)] (tP C22.rt 318902546)] (tP C22.rt 1249554)] [] (tP C22.rt 4882)])
    (fun j ρ1 ω1 => PlO (plAt n E j) ω1 ∧ ∀ y, y ∉ plNames → ρ1 y = ρ y) (enumV 0 ((tab (2 * n) E).map .int)) 0 ρ ω ⟨hω, fun _ _ => rfl⟩ ?_
  · (refine xEEA body ?_; clear body; intro ρ' ω' x i)
    rw [enumV_len, List.length_map, tab_len, Nat.zero_add] at i
    exact ⟨_, ρ', ω', h22, Ex.for g1'.1 (evIter_sound (H 59) hs W hit) (fun m hm => hkn m (List.all_eq_true.mp g1'.2 m hm)) x, i.1, i.2⟩
  · intro j x ρ1 ω1 hx hi
    rw [Nat.zero_add] at hi ⊢
    (refine xA hi ?_; clear hi; intro hO hρ)
    (refine xEA (enum_get hx) fun y hy qq0 => ?_; subst qq0)
    rw [List.getElem?_map] at hy
    (refine xEA (Option.map_eq_some_iff.mp hy) fun e he qq1 => ?_; subst qq1)
    (refine xA (tab_get he) fun hj qq2 => ?_; subst qq2)
    rw [Nat.zero_add]
    refine xAAA (plAt_ok n E j) fun b1 b2 b3 b4 => ?_
    have hnx : plAt n E (j + 1) = plStep n (E j) j (plAt n E j) := rfl
    rw [hnx]
    generalize hX : plAt n E j = X at hO b1 b2 b3 b4 ⊢
    have hstl : (X.st.map tupOf).length ≤ 1000 := by rw [List.length_map]; lia
    let ρa : Rho := upd (upd ρ1 "place" (.int (j : Nat))) "edge" (.int (E j))
    have a1 : ρa "edge" = some (.int (E j)) := upd_eq
    have a2 : ρa "place" = some (.int (j : Nat)) := (upd_ne (by decide)).trans upd_eq
    have a3 : ρa "size" = some (.int n) := (upd_ne (by decide)).trans ((upd_ne (by decide)).trans ((hρ _ (by decide)).trans hsz))
    have aρ : ∀ y, y ∉ plNames → ρa y = ρ y := fun y hy => (upd_ne (fun q => hy (by rw [q]; decide))).trans ((upd_ne (fun q => hy (by rw [q]; decide))).trans (hρ y hy))
    have hall : ∀ m ∈ tgtNames tg, ω1 m = none := by
      intro m hm
      rw [g2] at hm
      simp only [List.mem_cons, List.not_mem_nil, or_false] at hm
      rcases hm with rfl | rfl
      · exact hO.no _ (by decide) (by decide) (by decide)
      · exact hO.no _ (by decide) (by decide) (by decide)
    have c1 := et1 k ρa (E j)
    rw [form1 a1] at c1
    have c2 := et2 k ρa (E j)
    rw [form1 a1] at c2
    have I1 := evB_sound (H 58) hs c1
    have I2 := evB_sound (H 58) hs c2
    by_cases h0 : E j < 0
    · rw [decide_eq_true h0] at I1
      rw [decide_eq_false (by lia)] at I2
      have hpu := (epu k ρa j (by lia)).1
      rw [form1 a2] at hpu
      have hst : plStep n (E j) j X = ⟨X.st ++ [j], X.ask, X.ap⟩ := if_pos h0
      refine ⟨ρa, ρa, ownTo ω1 "pile" (.acc 158 (X.st.map tupOf ++ [tupOf j])), g3 _ _ _, hall, ?_, ?_, aρ⟩
      · refine Exs.cons (Ex.ite I1 (fun _ => Exs.cons (Ex.push G (by lia) hO.pile (evs_sound (H 56) hs hpu) hstl rfl y1) Exs.nil) (fun q => nG q)) (Exs.cons (Ex.ite I2 (fun q => nF q) (fun _ => Exs.nil)) Exs.nil)
      · rw [hst]
        refine ⟨?_, (if_neg (by decide)).trans hO.ask, (if_neg (by decide)).trans hO.ap, fun y h1 h2 h3 => (if_neg h1).trans (hO.no y h1 h2 h3)⟩
        rw [List.map_append]; exact if_pos rfl
    · rw [decide_eq_false h0] at I1
      by_cases h9 : 0 < E j
      · rw [decide_eq_true h9] at I2
        have hkt : ∀ (m : Str), m ∈ tgtNames (.Tuple elts kn (tP C22.rt 301990162)) → (env.kindOf m = some .local ∨ (env.kindOf m = some .cell ∧ (env.cells.lookup m).isSome = true)) ∧ ω1 m = none := by
          intro m hm
          rw [g4] at hm
          simp only [List.mem_cons, List.not_mem_nil, or_false] at hm
          rcases hm with rfl | rfl
          · exact ⟨hkn _ kb, hO.no _ (by decide) (by decide) (by decide)⟩
          · exact ⟨hkn _ ks, hO.no _ (by decide) (by decide) (by decide)⟩
        cases hl : X.st.getLast? with
        | none =>
          have hst0 : X.st = [] := List.getLast?_eq_none_iff.mp hl
          have hst : plStep n (E j) j X = ⟨X.st, X.ask ++ [j], X.ap⟩ := by unfold plStep; rw [if_neg h0, if_pos h9, hl]
          have hp : ω1 "pile" = some (.acc 158 []) := by rw [hO.pile, hst0]; rfl
          have hb := g5 (.str "") (.str "") ρa
          let ρb : Rho := upd (upd ρa "blanks" (.str "")) "sign" (.str "")
          let ωb : Omg := ownTo ω1 "pile" (.acc 158 [])
          have c3 := et30 k ρb
          rw [show form [("blanks", .str ""), ("sign", .str "")] ρb = ρb from form2 ((upd_ne (by decide)).trans upd_eq) upd_eq] at c3
          have cpl := nm1 epl k (ρ := ρb) (v := .int (j : Nat)) ((upd_ne (by decide)).trans ((upd_ne (by decide)).trans a2))
          have hin : ex (Cx k) 58 lawSc ρb ωb false (.If t3 [.Expr (.Call (.Attribute (.Name "asking" (tP C22.rt 1168231174418)) "append" (tP C22.rt 77309481234)) [.Name "place" (tP C22.rt 1168499609874)] [] (tP C22.rt 5100343570)) (tP C22.rt 285282578)] [.If t4 [rb] [.If t5 [.Expr (.Call (.Attribute (.Name "apart" (tP C22.rt 76561197993955602)) "append" (tP C22.rt 5066553909448978)) [ep] [] (tP C22.rt 334255863501074)) (tP C22.rt 18696026329362)] [] (tP C22.rt 81638068498)] (tP C22.rt 318902546)] (tP C22.rt 1249554)) = some (.nx ρb (ownTo ωb "asking" (.lst (X.ask.map (fun (i : Nat) => V.int (i : Int)) ++ [.int (j : Nat)])))) :=
            ex_if c3 (exs_cons (ex_app ((if_neg (by decide)).trans hO.ask) (by rw [List.length_map]; lia) rfl (by decide) y3 cpl) rfl exs_nil)
          refine ⟨ρa, ρb, ownTo ωb "asking" (.lst (X.ask.map (fun (i : Nat) => V.int (i : Int)) ++ [.int (j : Nat)])), g3 _ _ _, hall, ?_, ?_, fun y hy => (upd_ne (fun q => hy (by rw [q]; decide))).trans ((upd_ne (fun q => hy (by rw [q]; decide))).trans (aρ y hy))⟩
          · refine Exs.cons (Ex.ite I1 (fun q => nF q) (fun _ => Exs.nil)) (Exs.cons (Ex.ite I2 (fun _ => Exs.cons (Ex.pop G hk hp (Nat.zero_le _) rfl y2 hb hkt rfl rfl) (Exs.cons (ex_sound W hE 58 _ _ _ _ _ hin) Exs.nil)) (fun q => nG q)) Exs.nil)
          · rw [hst]
            refine ⟨(if_neg (by decide)).trans ((if_pos rfl).trans (by rw [hst0]; rfl)), ?_, (if_neg (by decide)).trans ((if_neg (by decide)).trans hO.ap), fun y h1 h2 h3 => (if_neg h2).trans ((if_neg h1).trans (hO.no y h1 h2 h3))⟩
            rw [List.map_append]; exact if_pos rfl
        | some p =>
          have hst : plStep n (E j) j X = ⟨X.st.dropLast, X.ask, if n ≤ j then X.ap ++ [(j : Int) - p] else X.ap⟩ := by unfold plStep; rw [if_neg h0, if_pos h9, hl]
          have hpm : p < 14 := by have := b1 p (List.mem_of_getLast? hl); lia
          let ρb : Rho := upd (upd ρa "blanks" (.str (sp p))) "sign" (.str pct)
          let ωb : Omg := ownTo ω1 "pile" (.acc 158 (X.st.dropLast.map tupOf))
          have b2' : ρb "place" = some (.int (j : Nat)) := (upd_ne (by decide)).trans ((upd_ne (by decide)).trans a2)
          have b3' : ρb "size" = some (.int n) := (upd_ne (by decide)).trans ((upd_ne (by decide)).trans a3)
          have hb : bindT (.Tuple elts kn (tP C22.rt 301990162)) (popV (X.st.map tupOf)).1 ρa = some ρb := by rw [popV_some hl]; exact g5 _ _ _
          have hpop : Ex g dsP k env ρa ω1 (.Assign [.Tuple elts kn (tP C22.rt 301990162)] (.Call (.Attribute (.Name "pile" (tP C22.rt 4563468562)) "pop" (tP C22.rt 302055698)) [] [] (tP C22.rt 19988754)) (tP C22.rt 1179922)) (.nx ρb ωb) := by
            have := Ex.pop (defs := dsP) (p1 := (tP C22.rt 4563468562)) (p2 := (tP C22.rt 302055698)) (p3 := (tP C22.rt 19988754)) (pos := (tP C22.rt 1179922)) G hk hO.pile hstl rfl y2 hb hkt rfl rfl
            rw [popV_some hl] at this
            exact this
          have hin := inn ρb ωb j p (X.ap.map .int) hpm (by rw [List.length_map]; lia) ((upd_ne (by decide)).trans upd_eq) upd_eq b2' b3' ((if_neg (by decide)).trans hO.ap)
          generalize hωc : (if n ≤ j then ownTo ωb "apart" (.lst (X.ap.map .int ++ [.int ((j : Int) - p)])) else ωb) = ωc at hin
          refine ⟨ρa, ρb, ωc, g3 _ _ _, hall, ?_, ?_, fun y hy => (upd_ne (fun q => hy (by rw [q]; decide))).trans ((upd_ne (fun q => hy (by rw [q]; decide))).trans (aρ y hy))⟩
          · exact Exs.cons (Ex.ite I1 (fun q => nF q) (fun _ => Exs.nil)) (Exs.cons (Ex.ite I2 (fun _ => Exs.cons hpop (Exs.cons (ex_sound W hE 58 _ _ _ _ _ hin) Exs.nil)) (fun q => nG q)) Exs.nil)
          · rw [hst]
            have hbO : ωb "pile" = some (.acc 158 (X.st.dropLast.map tupOf)) ∧ ωb "asking" = ω1 "asking" ∧ ωb "apart" = ω1 "apart" ∧ ∀ y : Str, y ≠ "pile" → ωb y = ω1 y := ⟨if_pos rfl, if_neg (by decide), if_neg (by decide), fun y hy => if_neg hy⟩
            by_cases hnj : n ≤ j
            · rw [← hωc, if_pos hnj, if_pos hnj]
              refine ⟨(if_neg (by decide)).trans hbO.1, (if_neg (by decide)).trans (hbO.2.1.trans hO.ask), ?_, fun y h1 h2 h3 => (if_neg h3).trans ((hbO.2.2.2 y h1).trans (hO.no y h1 h2 h3))⟩
              rw [List.map_append]; exact if_pos rfl
            · rw [← hωc, if_neg hnj, if_neg hnj]
              exact ⟨hbO.1, hbO.2.1.trans hO.ask, hbO.2.2.1.trans hO.ap, fun y h1 h2 h3 => (hbO.2.2.2 y h1).trans (hO.no y h1 h2 h3)⟩
      · rw [decide_eq_false h9] at I2
        have hst : plStep n (E j) j X = X := by unfold plStep; rw [if_neg h0, if_neg h9]
        refine ⟨ρa, ρa, ω1, g3 _ _ _, hall, Exs.cons (Ex.ite I1 (fun q => nF q) (fun _ => Exs.nil)) (Exs.cons (Ex.ite I2 (fun q => nF q) (fun _ => Exs.nil)) Exs.nil), ?_, aρ⟩
        rw [hst]; exact hO
end
end Mine

namespace Mine
open PySem PyProof.Rows PySem.W PySem.SeqAt PySem.Builtin

noncomputable def gapS (j : Nat) : Str := Txt.join "" [sp j, pct]
theorem d23 : ∃ e1 e2 p1 p2 p3 p4 p5 p6 b1 b2 b3 b4 b5 k0 q0 elt sc cp body, lawB[23]? = some (.If (.BoolOp .Or [.Compare e1 [.NotEq] [e2] b1, .Compare (.Call (.Name "str" p1) [.Name "pile" p2] [] p3) [.NotEq] [.Call (.Attribute (.Constant (.str "") k0 q0) "join" b2) [.ListComp elt [⟨.Name "place" b3, .Name "lasting" b4, [], 0⟩] sc cp] [] b5] p4] p5) body [] p6) ∧
    behindInMarks .NotEq e2 = false ∧ behindInMarks .NotEq (.Call (.Attribute (.Constant (.str "") k0 q0) "join" b2) [.ListComp elt [⟨.Name "place" b3, .Name "lasting" b4, [], 0⟩] sc cp] [] b5) = false ∧ b2.endLine = b5.line ∧ lawSc.lookup ("str" : Str) = some .globalImplicit ∧
    (∀ k ρ v, ev (Cx k) 58 lawSc (form [("asking", v)] ρ) e1 = some v) ∧ (∀ k ρ v, ev (Cx k) 58 lawSc (form [("higher", v)] ρ) e2 = some v) ∧
    (∀ k ρ l, (namesOk lawSc ρ sc (.Name "place" b3) && notSet (.Name "lasting" b4)) = true ∧ evIter (ev (Cx k) 56) lawSc (form [("lasting", .lst l)] ρ) (.Name "place" b3) (.Name "lasting" b4) = some l) ∧
    (∀ k ρ (j : Nat), j < 14 → ev (Cx k) 56 (relab (fun y => lawSc.lookup y) sc.names) (upd ρ "place" (.int j)) elt = some (.str (gapS j))) ∧ (∀ j : Nat, j < 14 → (gapS j).length = j + 1) := by
  refine ⟨_, _, _, _, _, _, _, _, _, _, _, _, _, _, _, _, _, _, _, rfl, by kernel_rfl, by kernel_rfl, by kernel_rfl, by kernel_rfl, fun k ρ v => by kernel_rfl, fun k ρ v => by kernel_rfl, fun k ρ l => ⟨by kernel_rfl, by kernel_rfl⟩, fun k ρ j hj => ?_, fun j hj => ?_⟩
  · match j, hj with
    | 0, _ => kernel_rfl
    | 1, _ => kernel_rfl
    | 2, _ => kernel_rfl
    | 3, _ => kernel_rfl
    | 4, _ => kernel_rfl
    | 5, _ => kernel_rfl
    | 6, _ => kernel_rfl
    | 7, _ => kernel_rfl
    | 8, _ => kernel_rfl
    | 9, _ => kernel_rfl
    | 10, _ => kernel_rfl
    | 11, _ => kernel_rfl
    | 12, _ => kernel_rfl
    | 13, _ => kernel_rfl
    | j + 14, hj => exact absurd hj (by lia)
  · match j, hj with
    | 0, _ => kernel_rfl
    | 1, _ => kernel_rfl
    | 2, _ => kernel_rfl
    | 3, _ => kernel_rfl
    | 4, _ => kernel_rfl
    | 5, _ => kernel_rfl
    | 6, _ => kernel_rfl
    | 7, _ => kernel_rfl
    | 8, _ => kernel_rfl
    | 9, _ => kernel_rfl
    | 10, _ => kernel_rfl
    | 11, _ => kernel_rfl
    | 12, _ => kernel_rfl
    | 13, _ => kernel_rfl
    | j + 14, hj => exact absurd hj (by lia)
theorem join_strs {l : List Str} {c : Nat} (h : ∀ x ∈ l, x.length ≤ c) (hc : c * l.length ≤ 1000) : mthV (.str "") "join" [.lst (l.map .str)] = some (.str (Txt.join "" l)) := by
  have h1 : (l.map V.str).all isStrV = true := List.all_eq_true.mpr fun y hy => by (refine xEA (List.mem_map.mp hy) fun x _ qq0 => ?_; subst qq0); rfl
  have h2 : (l.map V.str).map strOfV = l := by rw [List.map_map]; exact List.map_id l
  have h3 : sumLen (l.map V.str) ≤ c * l.length := by
    unfold sumLen
    rw [h2]
    exact sum_le_const h
  have hsz : sumLen (l.map V.str) + (l.map V.str).length * ("" : Str).length ≤ 16777216 := by
    rw [show ("" : Str).length = 0 from by kernel_rfl]; lia
  show oO (strM "" "join" [.lst (l.map .str)]) none = _
  rw [oO_none]
  unfold strM
  rw [if_neg (by decide), if_neg (by decide), if_pos rfl]
  refine (if_pos ⟨h1, hsz⟩).trans ?_
  rw [h2]

/-- the two tests of the if about the pile's text -/
theorem st23 (k : Nat) (ρ : Rho) {ask hi la : List Nat} (hask : ask = hi) (h1 : ∀ j ∈ la, j < 14) (h2 : la.length ≤ 14) (e1 : ρ "asking" = some (nats ask)) (e2 : ρ "higher" = some (nats hi)) (e3 : ρ "lasting" = some (nats la)) :
    ∃ t1 t2 p1 p2 p3 p4 p5 p6 body, lawB[23]? = some (.If (.BoolOp .Or [t1, .Compare (.Call (.Name "str" p1) [.Name "pile" p2] [] p3) [.NotEq] [t2] p4] p5) body [] p6) ∧ behindInMarks .NotEq t2 = false ∧
      evT (ev (Cx k) 58) lawSc ρ t1 = some false ∧ ev (Cx k) 58 lawSc ρ t2 = some (.str (Txt.join "" ((la.map fun j => (sp j, pct)).map fun p => Txt.join "" [p.1, p.2]))) := by
  subst hask
  refine xEEEEEEEEEEEEEEEEEEE d23 fun t1 t2 p1 p2 p3 p4 p5 p6 b1 b2 b3 b4 b5 k0 q0 elt sc cp body qr0 => xAAAAAAAA qr0 fun h23 m1 m2 m3 m4 n1 n2 n3 qr1 => xA qr1 fun n4 n5 => ?_
  refine ⟨_, _, p1, p2, p3, p4, p5, p6, body, h23, m2, ?_, ?_⟩
  · refine evT_cmp m1 (nm1 n1 k e1) (nm1 n2 k e2) ?_
    have : nats ask = intsV (ask.map fun (i : Nat) => (i : Int)) := by unfold nats intsV; rw [List.map_map]; rfl
    rw [this]; exact ints_ne _
  · have it := (n3 k ρ (la.map fun (i : Nat) => V.int (i : Int))).2
    rw [show form [("lasting", .lst (la.map fun (i : Nat) => V.int (i : Int)))] ρ = ρ from form1 e3] at it
    have c1 : ev (Cx k) 57 lawSc ρ (.ListComp elt [⟨.Name "place" b3, .Name "lasting" b4, [], 0⟩] sc cp) = some (.lst (la.map fun j => V.str (gapS j))) :=
      ev_lc (n3 k ρ []).1 it (by rw [List.length_map]; lia) (evComp_map (inj := fun (i : Nat) => V.int (i : Int)) fun j hj => ⟨_, rfl, n4 k _ j (h1 j hj)⟩)
    have hm : (la.map fun j => V.str (gapS j)) = ((la.map fun j => (sp j, pct)).map fun p => Txt.join "" [p.1, p.2]).map V.str := by rw [List.map_map, List.map_map]; rfl
    rw [hm] at c1
    refine ev_meth ?_ rfl (x := .str "") (by rfl) (evs_cons rfl c1 evs_nil) (join_strs (c := 20) ?_ ?_)
    · show ((true && b2.endLine == b5.line) && decide ((1 : Nat) < 30)) = true
      rw [m3]; simp
    · intro x hx
      rw [List.map_map] at hx
      (refine xEA (List.mem_map.mp hx) fun j hj qq1 => ?_; subst qq1)
      show (gapS j).length ≤ 20
      rw [n5 j (h1 j hj)]
      have := h1 j hj; lia
    · rw [List.length_map, List.length_map]; lia

noncomputable def greyV (d : Nat) : V := (binV .Div (.int d) (.int 16)).getD .none
theorem grey_bin {d : Nat} (h : d < 16) : binW .Div (.int d) (.int 16) = some (greyV d) := by
  match d, h with
  | 0, _ => kernel_rfl
  | 1, _ => kernel_rfl
  | 2, _ => kernel_rfl
  | 3, _ => kernel_rfl
  | 4, _ => kernel_rfl
  | 5, _ => kernel_rfl
  | 6, _ => kernel_rfl
  | 7, _ => kernel_rfl
  | 8, _ => kernel_rfl
  | 9, _ => kernel_rfl
  | 10, _ => kernel_rfl
  | 11, _ => kernel_rfl
  | 12, _ => kernel_rfl
  | 13, _ => kernel_rfl
  | 14, _ => kernel_rfl
  | 15, _ => kernel_rfl
  | d + 16, h => exact absurd h (by lia)
theorem grey_ne {d : Nat} (h : d < 16) : cmpV .NotEq (.tup [.flt 0, greyV d, .flt 0]) (.tup [.int 0, greyV d, .int 0]) = some false := by
  match d, h with
  | 0, _ => kernel_rfl
  | 1, _ => kernel_rfl
  | 2, _ => kernel_rfl
  | 3, _ => kernel_rfl
  | 4, _ => kernel_rfl
  | 5, _ => kernel_rfl
  | 6, _ => kernel_rfl
  | 7, _ => kernel_rfl
  | 8, _ => kernel_rfl
  | 9, _ => kernel_rfl
  | 10, _ => kernel_rfl
  | 11, _ => kernel_rfl
  | 12, _ => kernel_rfl
  | 13, _ => kernel_rfl
  | 14, _ => kernel_rfl
  | 15, _ => kernel_rfl
  | d + 16, h => exact absurd h (by lia)
theorem d24 : ∃ q1 q2 q3 e1 e2, lawB[24]? = some (.Assign [.Name "grey" q1] (.BinOp e1 .Div e2 q2) q3) ∧ kOk lawSc "grey" = true ∧ (∀ k ρ, ev (Cx k) 58 lawSc ρ e2 = some (.int 16)) ∧
    (∀ k ρ f n, okN n → ev (Cx k) 58 lawSc (form [("figures", intsV (tab n f))] ρ) e1 = some (.int (f 0))) := by
  refine ⟨_, _, _, _, _, rfl, by kernel_rfl, fun k ρ => by kernel_rfl, fun k ρ f => ?_⟩
  apply fall0 <;> kernel_rfl
theorem st24 (k : Nat) (ρ : Rho) (ω : Omg) {n : Nat} (hn : okN n) {f : Nat → Int} {d : Nat} (hd : d < 16) (hf : f 0 = d) (h : ρ "figures" = some (intsV (tab n f))) : st k 24 ρ ω = some (.nx (upd ρ "grey" (greyV d)) (era ω "grey")) := by
  refine xEEEEE d24 fun q1 q2 q3 e1 e2 qr2 => xAAA qr2 fun e g1 g2 g3 => ?_
  have g3 := g3 k ρ f n hn
  rw [form1 h, hf] at g3
  exact st_of e (ex_asg g1 rfl rfl (ev_bin g3 (g2 k ρ) (grey_bin hd)))

noncomputable def maxAll (n : Nat) (H : Nat → Int) : Int := (tab (2 * n) fun i => H (i + 1)).foldl maxI (H 0)
namespace C25
noncomputable def rt : T := .s ((lawB[25]?).getD default)
noncomputable def e1 : Expr := tE rt 1056784
noncomputable def es : List Expr := tEs rt 1114384
noncomputable def r : Expr := tE rt 1057040
noncomputable def body : List Stmt := tSs rt 17
theorem h25 : lawB[25]? = some (.If (.BoolOp .Or [.Compare (.Call (.Attribute (.Name "pile" (tP C25.rt 285212688)) "part_count" (tP C25.rt 18874384)) [] [] (tP C25.rt 1245200)) [.NotEq] [e1] (tP C25.rt 77840), .Compare (.Call (.Name "rgb_to_hls" (tP C25.rt 17826064)) es [] (tP C25.rt 1245456)) [.NotEq] [r] (tP C25.rt 78096)] (tP C25.rt 288)) body [] (tP C25.rt 19)) := (by kernel_rfl)
theorem g1 : ((tP C25.rt 18874384).endLine == (tP C25.rt 1245200).line) = true := by kernel_rfl
theorem g2 : behindInMarks .NotEq e1 = false := by kernel_rfl
theorem g3 : behindInMarks .NotEq r = false := by kernel_rfl
theorem g4 : lawSc.lookup ("rgb_to_hls" : Str) = some .globalImplicit := by kernel_rfl
theorem n1 : ∀ k ρ v, evs (ev (Cx k) 57) lawSc (form [("grey", v)] ρ) es = some [v, v, v] := fun k ρ v => by kernel_rfl
theorem n2 : ∀ k ρ v, ev (Cx k) 58 lawSc (form [("grey", v)] ρ) r = some (.tup [.int 0, v, .int 0]) := fun k ρ v => by kernel_rfl
theorem n3 : ∀ k ρ H n, okN n → ev (Cx k) 58 lawSc (form [("heights", intsV (tab (2 * n + 1) H))] ρ) e1 = some (.int (maxAll n H - H (2 * n))) := fun k ρ H => by
    apply fall0 <;> kernel_rfl
end C25
open C25 in
theorem st25 (k : Nat) (ρ : Rho) {n : Nat} (hn : okN n) {H : Nat → Int} {d : Nat} (hd : d < 16) (h1 : ρ "grey" = some (greyV d)) (h2 : ρ "heights" = some (intsV (tab (2 * n + 1) H))) {m : Nat} (hm : (m : Int) = maxAll n H - H (2 * n)) :
    ∃ p1 p2 p3 p4 p5 p6 e1 e2 body, lawB[25]? = some (.If (.BoolOp .Or [.Compare (.Call (.Attribute (.Name "pile" p1) "part_count" p2) [] [] p3) [.NotEq] [e1] p4, e2] p5) body [] p6) ∧ (p2.endLine == p3.line) = true ∧ behindInMarks .NotEq e1 = false ∧
      ev (Cx (k + 1)) 58 lawSc ρ e1 = some (.int m) ∧ evT (ev (Cx (k + 1)) 58) lawSc ρ e2 = some false := by
  have n1 := n1 (k + 1) ρ (greyV d)
  rw [form1 h1] at n1
  have n3 := n3 (k + 1) ρ H n hn
  rw [form1 h2, ← hm] at n3
  have n2 := n2 (k + 1) ρ (greyV d)
  rw [form1 h1] at n2
  exact ⟨(tP C25.rt 285212688), (tP C25.rt 18874384), (tP C25.rt 1245200), (tP C25.rt 77840), (tP C25.rt 288), (tP C25.rt 19), e1, _, body, h25, g1, g2, n3, evT_cmp g3 ((ev_fn g4 n1 (by decide +kernel)).trans (grey_call k d hd)) n2 (grey_ne hd)⟩
end Mine

namespace Mine
open PySem PyProof.Rows PySem.W PySem.SeqAt PySem.Builtin

namespace C26
noncomputable def rt : T := .s ((lawB[26]?).getD default)
noncomputable def t1 : Expr := tE rt 4098
noncomputable def es1 : List Expr := tEs rt 17891586
noncomputable def es2 : List Expr := tEs rt 17895682
noncomputable def es3 : List Expr := tEs rt 69906
noncomputable def ca : List Expr := tEs rt 285220898
noncomputable def tg1 : Expr := tE rt 4296024098
noncomputable def it1 : Expr := tE rt 4564459554
noncomputable def sc1 : Scope := tSc rt 18882594
noncomputable def x1 : Stmt := tS rt 65826
noncomputable def cb : List Expr := tEs rt 285220914
noncomputable def tg2 : Expr := tE rt 4296024114
noncomputable def it2 : Expr := tE rt 4564459570
noncomputable def sc2 : Scope := tSc rt 18882610
noncomputable def x2 : Stmt := tS rt 65842
noncomputable def it3 : Expr := tE rt 17830210
noncomputable def t3 : Expr := tE rt 270537026
noncomputable def sc3 : Scope := tSc rt 74050
noncomputable def c1 : Expr := tE rt 301998162
noncomputable def c2 : Expr := tE rt 270540882
noncomputable def t4 : Expr := tE rt 4538853023031378
noncomputable def sc4 : Scope := tSc rt 1237254676562
noncomputable def x3 : Stmt := tS rt 65874
noncomputable def it0 : Expr := tE rt 17
theorem h26 : lawB[26]? = some (.For (.Name "steps" (tP C26.rt 272)) it0 [.If t1 [.Assign [.Name "ring" (tP C26.rt 285212930)] (.Call (.Name "_law_next" (tP C26.rt 285278466)) es1 [] (tP C26.rt 19988738)) (tP C26.rt 1179906), .Assign [.Name "told" (tP C26.rt 285217026)] (.Call (.Name "_law_told" (tP C26.rt 285282562)) es2 [] (tP C26.rt 19992834)) (tP C26.rt 1184002)] [] (tP C26.rt 4866),
      .Assign [.Name "later" (tP C26.rt 1114130)] (.Call (.Name "_law_later" (tP C26.rt 1114386)) es3 [] (tP C26.rt 78098)) (tP C26.rt 4626),
      .If (.Compare (.Name "ring" (tP C26.rt 1114146)) [.NotEq] [.ListComp (.Call (.Name "_law_colour" (tP C26.rt 4563410978)) ca [] (tP C26.rt 318775330)) [⟨tg1, it1, [], 0⟩] sc1 (tP C26.rt 19931170)] (tP C26.rt 77858)) [x1] [] (tP C26.rt 4898),
      .If (.Compare (.Name "told" (tP C26.rt 1114162)) [.NotEq] [.ListComp (.Call (.Name "_law_due" (tP C26.rt 4563410994)) cb [] (tP C26.rt 318775346)) [⟨tg2, it2, [], 0⟩] sc2 (tP C26.rt 19931186)] (tP C26.rt 77874)) [x2] [] (tP C26.rt 4914),
      .Assign [.Name "unlike" (tP C26.rt 1114178)] (.ListComp (.Name "place" (tP C26.rt 1114434)) [⟨.Name "place" (tP C26.rt 285217090), it3, [t3], 0⟩] sc3 (tP C26.rt 78146)) (tP C26.rt 4674),
      .If (.Compare (.Call (.Name "len" (tP C26.rt 17825874)) [.Name "unlike" (tP C26.rt 285278290)] [] (tP C26.rt 1245266)) [.NotEq] [.BinOp (.BinOp (.BinOp (.Call (.Name "len" (tP C26.rt 1168231112786)) [.Name "rising" (tP C26.rt 18695992647762)] [] (tP C26.rt 81604386898)) .Add (.Call (.Name "len" (tP C26.rt 1168767983698)) [.Name "falling" (tP C26.rt 18696529518674)] [] (tP C26.rt 82141257810)) (tP C26.rt 5100281938)) .FloorDiv c1 (tP C26.rt 318775378)) .Sub (.BinOp c2 .Mult (.Call (.Name "len" (tP C26.rt 73050103890)) [.ListComp (.Name "gap" (tP C26.rt 18692001767506)) [⟨.Name "gap" (tP C26.rt 4785143627653202), .Name "apart" (tP C26.rt 4802735813697618), [t4], 0⟩] sc4 (tP C26.rt 1305974153298)] [] (tP C26.rt 5135933522)) (tP C26.rt 320872530)) (tP C26.rt 19931218)] (tP C26.rt 77906)) [x3] [] (tP C26.rt 4946)] [] (tP C26.rt 20)) := (by kernel_rfl)
theorem b0 : (notSet it0 && (tgtNames (.Name "steps" (tP C26.rt 272))).all (kOk lawSc)) = true := by kernel_rfl
theorem kr : kOk lawSc "ring" = true := by kernel_rfl
theorem kt : kOk lawSc "told" = true := by kernel_rfl
theorem kl : kOk lawSc "later" = true := by kernel_rfl
theorem ku : kOk lawSc "unlike" = true := by kernel_rfl
theorem l1 : lawSc.lookup ("_law_next" : Str) = some .globalImplicit := by kernel_rfl
theorem l2 : lawSc.lookup ("_law_told" : Str) = some .globalImplicit := by kernel_rfl
theorem l3 : lawSc.lookup ("_law_later" : Str) = some .globalImplicit := by kernel_rfl
theorem l4 : lawSc.lookup ("len" : Str) = some .globalImplicit := by kernel_rfl
theorem l5 : (relab (fun y => lawSc.lookup y) sc1.names).lookup ("_law_colour" : Str) = some .globalImplicit := by kernel_rfl
theorem l6 : (relab (fun y => lawSc.lookup y) sc2.names).lookup ("_law_due" : Str) = some .globalImplicit := by kernel_rfl
theorem m1 : behindInMarks .NotEq (.ListComp (.Call (.Name "_law_colour" (tP C26.rt 4563410978)) ca [] (tP C26.rt 318775330)) [⟨tg1, it1, [], 0⟩] sc1 (tP C26.rt 19931170)) = false := by kernel_rfl
theorem m2 : behindInMarks .NotEq (.ListComp (.Call (.Name "_law_due" (tP C26.rt 4563410994)) cb [] (tP C26.rt 318775346)) [⟨tg2, it2, [], 0⟩] sc2 (tP C26.rt 19931186)) = false := by kernel_rfl
theorem m3 : behindInMarks .NotEq (.BinOp (.BinOp (.BinOp (.Call (.Name "len" (tP C26.rt 1168231112786)) [.Name "rising" (tP C26.rt 18695992647762)] [] (tP C26.rt 81604386898)) .Add (.Call (.Name "len" (tP C26.rt 1168767983698)) [.Name "falling" (tP C26.rt 18696529518674)] [] (tP C26.rt 82141257810)) (tP C26.rt 5100281938)) .FloorDiv c1 (tP C26.rt 318775378)) .Sub (.BinOp c2 .Mult (.Call (.Name "len" (tP C26.rt 73050103890)) [.ListComp (.Name "gap" (tP C26.rt 18692001767506)) [⟨.Name "gap" (tP C26.rt 4785143627653202), .Name "apart" (tP C26.rt 4802735813697618), [t4], 0⟩] sc4 (tP C26.rt 1305974153298)] [] (tP C26.rt 5135933522)) (tP C26.rt 320872530)) (tP C26.rt 19931218)) = false := by kernel_rfl
theorem iSteps : ∀ k ρ n, okN n → evIter (ev (Cx k) 59) lawSc (form [("size", .int n)] ρ) (.Name "steps" (tP C26.rt 272)) it0 = some (rangeV 0 ((n / 2 + 2 : Nat) : Int)) := fun k ρ => by apply fall0 <;> kernel_rfl
theorem tPos : ∀ k ρ (t : Nat), evB (ev (Cx k) 58) lawSc (form [("steps", .int t)] ρ) t1 = some (decide ((0 : Int) < t)) := fun k ρ t => by kernel_rfl
theorem aNext : ∀ k ρ a b, evs (ev (Cx k) 56) lawSc (form [("ring", a), ("told", b)] ρ) es1 = some [a, b] := fun k ρ a b => by kernel_rfl
theorem aTold : ∀ k ρ a, evs (ev (Cx k) 56) lawSc (form [("ring", a)] ρ) es2 = some [a] := fun k ρ a => by kernel_rfl
theorem aLater : ∀ k ρ (t : Nat) H n, okN n → evs (ev (Cx k) 57) lawSc (form [("heights", intsV (tab (2 * n + 1) H)), ("size", .int n), ("steps", .int t)] ρ) es3 = some [intsV (tab (n + 1) H), .int t] := fun k ρ t H => by apply fall0 <;> kernel_rfl
theorem nRing : ∀ k ρ v, ev (Cx k) 58 lawSc (form [("ring", v)] ρ) (.Name "ring" (tP C26.rt 1114146)) = some v := fun k ρ v => by kernel_rfl
theorem nTold : ∀ k ρ v, ev (Cx k) 58 lawSc (form [("told", v)] ρ) (.Name "told" (tP C26.rt 1114162)) = some v := fun k ρ v => by kernel_rfl
theorem nsC : ∀ ρ, (namesOk lawSc ρ sc1 tg1 && notSet it1) = true ∧ (namesOk lawSc ρ sc2 tg2 && notSet it2) = true := fun ρ => ⟨by kernel_rfl, by kernel_rfl⟩
theorem itZ : ∀ k ρ a b n, okN n → evIter (ev (Cx k) 57) lawSc (form [("later", intsV (tab n a)), ("shades", intsV (tab n b))] ρ) tg1 it1 = some (tab n fun i => .tup [.int (a i), .int (b i)]) ∧ evIter (ev (Cx k) 57) lawSc (form [("later", intsV (tab n a)), ("shades", intsV (tab n b))] ρ) tg2 it2 = some (tab n fun i => .tup [.int (a i), .int (b i)]) := fun k ρ a b => by apply fall0 <;> exact ⟨by kernel_rfl, by kernel_rfl⟩
theorem bZ : ∀ a b ρ, bindT tg1 (.tup [.int a, .int b]) ρ = some (upd (upd ρ "paint" (.int a)) "shade" (.int b)) ∧ bindT tg2 (.tup [.int a, .int b]) ρ = some (upd (upd ρ "paint" (.int a)) "shade" (.int b)) := fun a b ρ => ⟨(by kernel_rfl), (by kernel_rfl)⟩
theorem aC : ∀ k a b ρ, evs (ev (Cx k) 56) (relab (fun y => lawSc.lookup y) sc1.names) (upd (upd ρ "paint" (.int a)) "shade" (.int b)) ca = some [.int a, .int b] ∧ evs (ev (Cx k) 56) (relab (fun y => lawSc.lookup y) sc2.names) (upd (upd ρ "paint" (.int a)) "shade" (.int b)) cb = some [.int a, .int b] := fun k a b ρ => ⟨by kernel_rfl, by kernel_rfl⟩
theorem nsU : ∀ k ρ a n, okN n → (namesOk lawSc (form [("later", intsV (tab n a)), ("size", .int n)] ρ) sc3 (.Name "place" (tP C26.rt 285217090)) && notSet it3) = true ∧ evIter (ev (Cx k) 58) lawSc (form [("later", intsV (tab n a)), ("size", .int n)] ρ) (.Name "place" (tP C26.rt 285217090)) it3 = some (rangeV 0 (n : Int)) := fun k ρ a => by apply fall0 <;> exact ⟨by kernel_rfl, by kernel_rfl⟩
theorem tU : ∀ k ρ a n, okN n → ∀ j, j < n → evB (ev (Cx k) 58) (relab (fun y => lawSc.lookup y) sc3.names) (upd (inner sc3.names (form [("later", intsV (tab n a)), ("size", .int n)] ρ)) "place" (.int j)) t3 = some (a j != a (if j = 0 then n - 1 else j - 1)) := fun k ρ a => by apply fall1 <;> kernel_rfl
theorem nU : ∀ k ρ (j : Nat), ev (Cx k) 58 (relab (fun y => lawSc.lookup y) sc3.names) (upd ρ "place" (.int j)) (.Name "place" (tP C26.rt 1114434)) = some (.int j) := fun k ρ j => by kernel_rfl
theorem nUl : ∀ k ρ v, ev (Cx k) 57 lawSc (form [("unlike", v)] ρ) (.Name "unlike" (tP C26.rt 285278290)) = some v := fun k ρ v => by kernel_rfl
theorem nRi : ∀ k ρ v, ev (Cx k) 54 lawSc (form [("rising", v)] ρ) (.Name "rising" (tP C26.rt 18695992647762)) = some v := fun k ρ v => by kernel_rfl
theorem nFa : ∀ k ρ v, ev (Cx k) 54 lawSc (form [("falling", v)] ρ) (.Name "falling" (tP C26.rt 18696529518674)) = some v := fun k ρ v => by kernel_rfl
theorem cTwo : ∀ k ρ, ev (Cx k) 56 lawSc ρ c1 = some (.int 2) ∧ ev (Cx k) 56 lawSc ρ c2 = some (.int 2) := fun k ρ => ⟨by kernel_rfl, by kernel_rfl⟩
theorem nsG : ∀ k ρ l s, (namesOk lawSc (form [("apart", .lst l), ("steps", s)] ρ) sc4 (.Name "gap" (tP C26.rt 4785143627653202)) && notSet (.Name "apart" (tP C26.rt 4802735813697618))) = true ∧ evIter (ev (Cx k) 54) lawSc (form [("apart", .lst l), ("steps", s)] ρ) (.Name "gap" (tP C26.rt 4785143627653202)) (.Name "apart" (tP C26.rt 4802735813697618)) = some l := fun k ρ l s => ⟨by kernel_rfl, by kernel_rfl⟩
theorem tG : ∀ k ρ l (t : Nat) (x : Int), evB (ev (Cx k) 54) (relab (fun y => lawSc.lookup y) sc4.names) (upd (inner sc4.names (form [("apart", .lst l), ("steps", .int t)] ρ)) "gap" (.int x)) t4 = some (decide (x ≤ 2 * (t : Int))) := fun k ρ l t x => by kernel_rfl
theorem nGg : ∀ k ρ (x : Int), ev (Cx k) 54 (relab (fun y => lawSc.lookup y) sc4.names) (upd ρ "gap" (.int x)) (.Name "gap" (tP C26.rt 18692001767506)) = some (.int x) := fun k ρ x => by kernel_rfl
end C26
end Mine

namespace Mine
open PySem PyProof.Rows PySem.W PySem.SeqAt PySem.Builtin
set_option maxHeartbeats 1000000

theorem ev_len {c : Ct} {m : Nat} {sc : Sc} {ρ : Rho} {e : Expr} {p pos : Pos} {l : List V} (hl : sc.lookup ("len" : Str) = some .globalImplicit) (he : isStar e = false) (h : ev c m sc ρ e = some (.lst l)) (hz : l.length ≤ 100000) : ev c (m + 1) sc ρ (.Call (.Name "len" p) [e] [] pos) = some (.int l.length) := by
  rw [evq_call, oO_none]
  unfold evCall
  rw [if_pos hl]
  exact oB_of (evs_cons he h evs_nil) ((if_pos (by decide +kernel)).trans ((if_pos rfl).trans (oO_l (if_pos hz))))
theorem ex_lc {c : Ct} {m : Nat} {sc : Sc} {ρ : Rho} {ω : Omg} {top : Bool} {x : Str} {p cp pos : Pos} {elt target iter : Expr} {ifs : List Expr} {scope : Scope} {l ys : List V} (hk : kOk sc x = true)
    (h1 : (namesOk sc ρ scope target && notSet iter) = true) (h2 : evIter (ev c m) sc ρ target iter = some l) (hl : l.length ≤ 100000)
    (h3 : evComp (ev c m) (relab (fun y => sc.lookup y) scope.names) (inner scope.names ρ) target elt ifs l = some ys) : ex c (m + 1) sc ρ ω top (.Assign [.Name x p] (.ListComp elt [⟨target, iter, ifs, 0⟩] scope cp) pos) = some (.nx (upd ρ x (.lst ys)) (era ω x)) := by
  rw [exq_asg, if_pos hk, exAq_comp, if_pos rfl]
  refine oB_of (a := ys) ?_ rfl
  unfold evList
  rw [if_pos h1]
  exact oB_of h2 ((if_pos hl).trans h3)
theorem form3 {x y z : Str} {v u w : V} {ρ : Rho} (h : ρ x = some v) (h' : ρ y = some u) (h'' : ρ z = some w) : form [(x, v), (y, u), (z, w)] ρ = ρ := form_eq (by
  intro q hq
  simp only [List.mem_cons, List.not_mem_nil, or_false] at hq
  rcases hq with rfl | rfl | rfl
  · exact h
  · exact h'
  · exact h'')
theorem later_ok (n t : Nat) (H : Nat → Int) (i : Nat) : okP (laterAt n t H i) := by
  unfold laterAt okP
  generalize List.foldl maxI _ _ = x
  have h1 := Int.fmod_nonneg_of_pos x (show (0 : Int) < 3 by decide)
  have h2 := Int.fmod_lt_of_pos x (show (0 : Int) < 3 by decide)
  lia
theorem tab_congr {α : Type} {n : Nat} {f g : Nat → α} (h : ∀ i, i < n → f i = g i) : tab n f = tab n g := List.map_congr_left fun i hi => h i (List.mem_range.mp hi)
theorem exs_app1 {ex' : Rho → Omg → Bool → Stmt → Option Out} {ρ ρ1 : Rho} {ω ω1 : Omg} {st : Stmt} {rest : List Stmt} {o : Option Out} (h : exs ex' ρ ω false [st] = some (.nx ρ1 ω1)) (hr : exs ex' ρ1 ω1 false rest = o) : exs ex' ρ ω false (st :: rest) = o := by
  have h : oB (ex' ρ ω false st) (fun o => oNx o (fun ρ1 ω1 => cond (false && isFor st) (exs ex' (frz ownNames ρ1 ω1).1 (frz ownNames ρ1 ω1).2 false []) (exs ex' ρ1 ω1 false [])) (some o)) = some (.nx ρ1 ω1) := h
  refine oBE h fun o1 h1 h => ?_
  cases o1 with
  | rt x => injection h with h; injection h
  | nx ρ2 ω2 =>
    have h : some (Out.nx ρ2 ω2) = some (.nx ρ1 ω1) := h
    injection h with h
    injection h with e1 e2
    subst e1 e2
    exact oB_of (x := ex' ρ ω false st) h1 hr
noncomputable def unlikeL (n : Nat) (a : Nat → Int) : List Nat := (List.range n).filter fun j => a j != a (if j = 0 then n - 1 else j - 1)
noncomputable def stNames : List Str := ["steps", "ring", "told", "later", "unlike"]
/-- what is asked of the steps, in plain words -/
structure Steps (n : Nat) (p H : Nat → Int) (ri fa : List Nat) (ap : List Int) : Prop where
  zero : ∀ i, i < n → laterAt n 0 H i = p i
  next : ∀ t, t + 1 < n / 2 + 2 → ∀ i, i < n → nextP n (laterAt n t H) i = laterAt n (t + 1) H i
  unl : ∀ t, t < n / 2 + 2 → ((unlikeL n (laterAt n t H)).length : Int) = ((ri.length : Int) + fa.length).fdiv 2 - 2 * ((ap.filter fun x => decide (x ≤ 2 * (t : Int))).length : Int)

open C26 in
theorem st26 (k : Nat) {n : Nat} (hn : okN n) {p s H : Nat → Int} (hs : ∀ i, okS (s i)) (hp : ∀ i, okP (p i)) {ri fa : List Nat} {ap : List Int} (hri : ri.length ≤ 1000) (hfa : fa.length ≤ 1000) (hap : ap.length ≤ 1000) (hS : Steps n p H ri fa ap) {ρ : Rho} {ω : Omg} (hω : ∀ x ∈ stNames, ω x = none)
    (e1 : ρ "ring" = some (.lst (tab n fun i => colV (p i) (s i)))) (e2 : ρ "told" = some (.lst (tab n fun i => dueV (p i) (s i)))) (e3 : ρ "heights" = some (intsV (tab (2 * n + 1) H))) (e4 : ρ "size" = some (.int n)) (e5 : ρ "shades" = some (intsV (tab n s)))
    (e6 : ρ "rising" = some (nats ri)) (e7 : ρ "falling" = some (nats fa)) (e8 : ρ "apart" = some (intsV ap)) : ∃ ρ', st (k + 3) 26 ρ ω = some (.nx ρ' ω) := by
  have hn7 := pow_le hn
  have hl0 : ∀ (f : Nat → V), (tab n f).length ≤ 100000 := fun f => by rw [tab_len]; lia
  let L : Nat → Nat → Int := fun t => laterAt n t H
  have hL : ∀ t i, okP (L t i) := fun t i => later_ok n t H i
  have hera : ∀ x ∈ stNames, era ω x = ω := fun x hx => era_none (hω x hx)
  have cols : ∀ (ρ : Rho) (a : Nat → Int), (∀ i, okP (a i)) → ρ "later" = some (intsV (tab n a)) → ρ "shades" = some (intsV (tab n s)) → ev (Cx (k + 3)) 58 lawSc ρ (.ListComp (.Call (.Name "_law_colour" (tP C26.rt 4563410978)) ca [] (tP C26.rt 318775330)) [⟨tg1, it1, [], 0⟩] sc1 (tP C26.rt 19931170)) = some (.lst (tab n fun i => colV (a i) (s i))) := fun ρ a ha h1 h2 => by
    have it := (itZ (k + 3) ρ a s n hn).1
    rw [form2 h1 h2] at it
    exact ev_lc (nsC ρ).1 it (hl0 _) (evComp_map (l := List.range n) (inj := fun i => .tup [.int (a i), .int (s i)]) fun i _ => ⟨_, (bZ _ _ _).1, (ev_fn l5 (aC (k + 3) _ _ _).1 (by decide +kernel)).trans (col_call (k + 1) (ha i) (hs i))⟩)
  have dues : ∀ (ρ : Rho) (a : Nat → Int), (∀ i, okP (a i)) → ρ "later" = some (intsV (tab n a)) → ρ "shades" = some (intsV (tab n s)) → ev (Cx (k + 3)) 58 lawSc ρ (.ListComp (.Call (.Name "_law_due" (tP C26.rt 4563410994)) cb [] (tP C26.rt 318775346)) [⟨tg2, it2, [], 0⟩] sc2 (tP C26.rt 19931186)) = some (.lst (tab n fun i => dueV (a i) (s i))) := fun ρ a ha h1 h2 => by
    have it := (itZ (k + 3) ρ a s n hn).2
    rw [form2 h1 h2] at it
    exact ev_lc (nsC ρ).2 it (hl0 _) (evComp_map (l := List.range n) (inj := fun i => .tup [.int (a i), .int (s i)]) fun i _ => ⟨_, (bZ _ _ _).2, (ev_fn l6 (aC (k + 3) _ _ _).2 (by decide +kernel)).trans (due_call (k + 2) (ha i) (hs i))⟩)
  have body := exFor_inv (ex' := ex (Cx (k + 3)) 59 lawSc) (target := .Name "steps" (tP C26.rt 272)) (body := [.If t1 [.Assign [.Name "ring" (tP C26.rt 285212930)] (.Call (.Name "_law_next" (tP C26.rt 285278466)) es1 [] (tP C26.rt 19988738)) (tP C26.rt 1179906), .Assign [.Name "told" (tP C26.rt 285217026)] (.Call (.Name "_law_told" (tP C26.rt 285282562)) es2 [] (tP C26.rt 19992834)) (tP C26.rt 1184002)] [] (tP C26.rt 4866), .Assign [.Name "later" (tP C26.rt 1114130)] (.Call (.Name "_law_later" (tP C26.rt 1114386)) es3 [] (tP C26.rt 78098)) (tP C26.rt 4626), .If (.Compare (.Name "ring" (tP C26.rt 1114146)) [.NotEq] [.ListComp (.Call (.Name "_law_colour" (tP C26.rt 4563410978)) ca [] (tP C26.rt 318775330)) [⟨tg1, it1, [], 0⟩] sc1 (tP C26.rt 19931170)] (tP C26.rt 77858)) [x1] [] (tP C26.rt 4898), .If (.Compare (.Name "told" (tP C26.rt 1114162)) [.NotEq] [.ListComp (.Call (.Name "_law_due" (tP C26.rt 4563410994)) cb [] (tP C26.rt 318775346)) [⟨tg2, it2, [], 0⟩] sc2 (tP C26.rt 19931186)] (tP C26.rt 77874)) [x2] [] (tP C26.rt 4914), .Assign [.Name "unlike" (tP C26.rt 1114178)] (.ListComp (.Name "place" (tP C26.rt 1114434)) [⟨.Name "place" (tP C26.rt 285217090), it3, [t3], 0⟩] sc3 (tP C26.rt 78146)) (tP C26.rt 4674), .If (.Compare (.Call (.Name "len" (tP C26.rt 17825874)) [.Name "unlike" (tP C26.rt 285278290)] [] (tP C26.rt 1245266)) [.NotEq] [.BinOp (.BinOp (.BinOp (.Call (.Name "len" (tP C26.rt 1168231112786)) [.Name "rising" (tP C26.rt 18695992647762)] [] (tP C26.rt 81604386898)) .Add (.Call (.Name "len" (tP C26.rt 1168767983698)) [.Name "falling" (tP C26.rt 18696529518674)] [] (tP C26.rt 82141257810)) (tP C26.rt 5100281938)) .FloorDiv c1 (tP C26.rt 318775378)) .Sub (.BinOp c2 .Mult (.Call (.Name "len" (tP C26.rt 73050103890)) [.ListComp (.Name "gap" (tP C26.rt 18692001767506)) [⟨.Name "gap" (tP C26.rt 4785143627653202), .Name "apart" (tP C26.rt 4802735813697618), [t4], 0⟩] sc4 (tP C26.rt 1305974153298)] [] (tP C26.rt 5135933522)) (tP C26.rt 320872530)) (tP C26.rt 19931218)] (tP C26.rt 77906)) [x3] [] (tP C26.rt 4946)])
    (fun t ρ1 ω1 => ω1 = ω ∧ ρ1 "ring" = some (.lst (tab n fun i => colV ((if t = 0 then p else L (t - 1)) i) (s i))) ∧ ρ1 "told" = some (.lst (tab n fun i => dueV ((if t = 0 then p else L (t - 1)) i) (s i))) ∧ ∀ y, y ∉ stNames → ρ1 y = ρ y)
    (rangeV 0 ((n / 2 + 2 : Nat) : Int)) 0 ρ ω ⟨rfl, e1, e2, fun _ _ => rfl⟩ ?_
  · (refine xEEA body ?_; clear body; intro ρ' ω' x i)
    obtain ⟨rfl, -, -, -⟩ := i
    have hit := iSteps (k + 3) ρ n hn
    rw [form1 e4] at hit
    exact ⟨ρ', st_of h26 (ex_for b0 hit x)⟩
  · intro t x ρ1 ω1 hx hi
    rw [Nat.zero_add] at hi ⊢
    (refine xAAA hi ?_; clear hi; intro qq1 i1 i2 i3; subst qq1)
    rw [rangeV_nats, List.getElem?_map] at hx
    (refine xEA (Option.map_eq_some_iff.mp hx) fun t' ht' qq2 => ?_; subst qq2)
    have htt : t' = t ∧ t < n / 2 + 2 := by
      have := List.getElem?_eq_some_iff.mp ht'
      (refine xE this ?_; clear this; intro h1 h2)
      rw [List.getElem_range] at h2
      rw [List.length_range] at h1
      exact ⟨h2.symm, h1⟩
    (refine xA htt ?_; clear htt; intro qq3 htn; subst qq3)
    have hS1 := tPos (k + 3) (upd ρ1 "steps" (.int (t' : Nat))) t'
    rw [form1 upd_eq] at hS1
    -- the ring's step
    have first : ∃ ρb, exs (ex (Cx (k + 3)) 59 lawSc) (upd ρ1 "steps" (.int (t' : Nat))) ω1 false [.If t1 [.Assign [.Name "ring" (tP C26.rt 285212930)] (.Call (.Name "_law_next" (tP C26.rt 285278466)) es1 [] (tP C26.rt 19988738)) (tP C26.rt 1179906), .Assign [.Name "told" (tP C26.rt 285217026)] (.Call (.Name "_law_told" (tP C26.rt 285282562)) es2 [] (tP C26.rt 19992834)) (tP C26.rt 1184002)] [] (tP C26.rt 4866)] = some (.nx ρb ω1) ∧ ρb "ring" = some (.lst (tab n fun i => colV (L t' i) (s i))) ∧ ρb "told" = some (.lst (tab n fun i => dueV (L t' i) (s i))) ∧ ρb "steps" = some (.int (t' : Nat)) ∧ ∀ y, y ∉ stNames → ρb y = ρ y := by
      by_cases h0 : t' = 0
      · subst h0
        rw [decide_eq_false (by decide)] at hS1
        have z1 : (tab n fun i => colV (L 0 i) (s i)) = tab n fun i => colV (p i) (s i) := tab_congr fun i hi => by rw [show L 0 i = p i from hS.zero i hi]
        have z2 : (tab n fun i => dueV (L 0 i) (s i)) = tab n fun i => dueV (p i) (s i) := tab_congr fun i hi => by rw [show L 0 i = p i from hS.zero i hi]
        rw [if_pos rfl] at i1 i2
        exact ⟨_, exs_cons (ex_if hS1 rfl) rfl exs_nil, (upd_ne (by decide)).trans (by rw [z1]; exact i1), (upd_ne (by decide)).trans (by rw [z2]; exact i2), upd_eq, fun y hy => (upd_ne (fun q => hy (by rw [q]; decide))).trans (i3 y hy)⟩
      · rw [decide_eq_true (by lia)] at hS1
        rw [if_neg h0] at i1 i2
        have hnx := next_call k hn (p := L (t' - 1)) (s := s) (hL _) hs
        have hst := hS.next (t' - 1) (by lia)
        rw [show t' - 1 + 1 = t' from by lia] at hst
        have z1 : (tab n fun i => colV (nextP n (L (t' - 1)) i) (s i)) = tab n fun i => colV (L t' i) (s i) := tab_congr fun i hi => by rw [show nextP n (L (t' - 1)) i = L t' i from hst i hi]
        rw [z1] at hnx
        have a1 := aNext (k + 3) (upd ρ1 "steps" (.int (t' : Nat))) (.lst (tab n fun i => colV (L (t' - 1) i) (s i))) (.lst (tab n fun i => dueV (L (t' - 1) i) (s i)))
        rw [form2 ((upd_ne (by decide)).trans i1) ((upd_ne (by decide)).trans i2)] at a1
        have a2 := aTold (k + 3) (upd (upd ρ1 "steps" (.int (t' : Nat))) "ring" (.lst (tab n fun i => colV (L t' i) (s i)))) (.lst (tab n fun i => colV (L t' i) (s i)))
        rw [form1 upd_eq] at a2
        have s1 := ex_asg (ω := ω1) (top := false) (p := (tP C26.rt 285212930)) (pos := (tP C26.rt 1179906)) kr rfl rfl ((ev_fn (p := (tP C26.rt 285278466)) (pos := (tP C26.rt 19988738)) l1 a1 (by decide +kernel)).trans hnx)
        have s2 := ex_asg (ω := ω1) (top := false) (p := (tP C26.rt 285217026)) (pos := (tP C26.rt 1184002)) kt rfl rfl ((ev_fn (p := (tP C26.rt 285282562)) (pos := (tP C26.rt 19992834)) l2 a2 (by decide +kernel)).trans (told_tab (k + 1) hn (hL t') hs))
        rw [hera _ (by decide)] at s1 s2
        exact ⟨_, exs_cons (ex_if hS1 (exs_cons s1 rfl (exs_cons s2 rfl exs_nil))) rfl exs_nil, (upd_ne (by decide)).trans upd_eq, upd_eq, (upd_ne (by decide)).trans ((upd_ne (by decide)).trans upd_eq),
          fun y hy => (upd_ne (fun q => hy (by rw [q]; decide))).trans ((upd_ne (fun q => hy (by rw [q]; decide))).trans ((upd_ne (fun q => hy (by rw [q]; decide))).trans (i3 y hy)))⟩
    (refine xEAAA first ?_; clear first; intro ρb x0 f1 f2 qr0; refine xA qr0 ?_; clear qr0; intro f3 f4)
    have ne_st : ∀ {x y : Str}, x ∈ stNames → y ∉ stNames → y ≠ x := fun hx hy q => hy (by rw [q]; exact hx)
    -- later
    have a3 := aLater (k + 3) ρb t' H n hn
    rw [form3 ((f4 _ (by decide)).trans e3) ((f4 _ (by decide)).trans e4) f3] at a3
    have s3 := ex_asg (ω := ω1) (top := false) (p := (tP C26.rt 1114130)) (pos := (tP C26.rt 4626)) kl rfl rfl ((ev_fn (p := (tP C26.rt 1114386)) (pos := (tP C26.rt 78098)) l3 a3 (by decide +kernel)).trans (later_call (k + 2) hn t' htn H))
    rw [hera _ (by decide)] at s3
    let ρc : Rho := upd ρb "later" (intsV (tab n (L t')))
    have c1 : ρc "ring" = some (.lst (tab n fun i => colV (L t' i) (s i))) := (upd_ne (by decide)).trans f1
    have c2 : ρc "told" = some (.lst (tab n fun i => dueV (L t' i) (s i))) := (upd_ne (by decide)).trans f2
    have c3 : ρc "later" = some (intsV (tab n (L t'))) := upd_eq
    have c4 : ∀ y, y ∉ stNames → ρc y = ρ y := fun y hy => (upd_ne (ne_st (by decide) hy)).trans (f4 y hy)
    have c5 : ρc "steps" = some (.int (t' : Nat)) := (upd_ne (by decide)).trans f3
    have c6 : ρc "shades" = some (intsV (tab n s)) := (c4 _ (by decide)).trans e5
    have t1' := evT_cmp (pos := (tP C26.rt 77858)) m1 (nm1 nRing (k + 3) c1) (cols ρc (L t') (hL t') c3 c6) (cols_ne (hL t') hs)
    have t2' := evT_cmp (pos := (tP C26.rt 77874)) m2 (nm1 nTold (k + 3) c2) (dues ρc (L t') (hL t') c3 c6) (dues_ne (hL t') hs)
    -- unlike
    refine xA (nsU (k + 3) ρc (L t') n hn) fun u1 u2 => ?_
    have u3 := tU (k + 3) ρc (L t') n hn
    rw [form2 c3 ((c4 _ (by decide)).trans e4)] at u1 u2 u3
    rw [rangeV_nats] at u2
    have s5 := ex_lc (ω := ω1) (top := false) (p := (tP C26.rt 1114178)) (cp := (tP C26.rt 78146)) (pos := (tP C26.rt 4674)) ku u1 u2 (by rw [List.length_map, List.length_range]; lia) (evComp_filter (inj := fun (i : Nat) => V.int (i : Int)) (out := fun (i : Nat) => V.int (i : Int)) fun j hj => ⟨_, rfl, evTests_one (u3 j (List.mem_range.mp hj)), fun _ => nU (k + 3) _ j⟩)
    rw [hera _ (by decide)] at s5
    have ulen : ((unlikeL n (L t')).map fun (i : Nat) => V.int (i : Int)).length ≤ 100000 := by
      rw [List.length_map]
      refine Nat.le_trans (List.length_filter_le _ _) ?_
      rw [List.length_range]; lia
    let ρd : Rho := upd ρc "unlike" (nats (unlikeL n (L t')))
    have d4 : ∀ y, y ∉ stNames → ρd y = ρ y := fun y hy => (upd_ne (ne_st (by decide) hy)).trans (c4 y hy)
    have d5 : ρd "steps" = some (.int (t' : Nat)) := (upd_ne (by decide)).trans c5
    have vU := ev_len (p := (tP C26.rt 17825874)) (pos := (tP C26.rt 1245266)) l4 rfl (nm1 nUl (k + 3) (ρ := ρd) (v := nats (unlikeL n (L t'))) upd_eq) ulen
    have vR := ev_len (p := (tP C26.rt 1168231112786)) (pos := (tP C26.rt 81604386898)) l4 rfl (nm1 nRi (k + 3) (ρ := ρd) (v := nats ri) ((d4 _ (by decide)).trans e6)) (by rw [List.length_map]; lia)
    have vF := ev_len (p := (tP C26.rt 1168767983698)) (pos := (tP C26.rt 82141257810)) l4 rfl (nm1 nFa (k + 3) (ρ := ρd) (v := nats fa) ((d4 _ (by decide)).trans e7)) (by rw [List.length_map]; lia)
    refine xA (nsG (k + 3) ρd (ap.map .int) (.int (t' : Nat))) fun g1 g2 => ?_
    have g3 := tG (k + 3) ρd (ap.map .int) t'
    rw [show form [("apart", .lst (ap.map .int)), ("steps", .int (t' : Nat))] ρd = ρd from form2 ((d4 _ (by decide)).trans e8) d5] at g1 g2 g3
    have vG := ev_len (p := (tP C26.rt 73050103890)) (pos := (tP C26.rt 5135933522)) l4 rfl (ev_lc (pos := (tP C26.rt 1305974153298)) g1 g2 (by rw [List.length_map]; lia) (evComp_filter (inj := fun (x : Int) => V.int x) (out := fun (x : Int) => V.int x) fun x hx => ⟨_, rfl, evTests_one (g3 x), fun _ => nGg (k + 3) _ x⟩)) (by rw [List.length_map]; exact Nat.le_trans (List.length_filter_le _ _) (by lia))
    rw [List.length_map] at vU vR vF vG
    have vA := ev_bin (op := .Add) (p := (tP C26.rt 5100281938)) vR vF (x := .int ((ri.length : Int) + fa.length)) rfl
    have vD := ev_bin (op := .FloorDiv) (p := (tP C26.rt 318775378)) vA (cTwo (k + 3) ρd).1 (x := .int (((ri.length : Int) + fa.length).fdiv 2)) (by kernel_rfl)
    have vM := ev_bin (op := .Mult) (p := (tP C26.rt 320872530)) (cTwo (k + 3) ρd).2 vG (x := .int (2 * ((ap.filter fun x => decide (x ≤ 2 * (t' : Int))).length : Int))) (by kernel_rfl)
    have vS := ev_bin (op := .Sub) (p := (tP C26.rt 19931218)) vD vM (x := .int (((ri.length : Int) + fa.length).fdiv 2 - 2 * ((ap.filter fun x => decide (x ≤ 2 * (t' : Int))).length : Int))) rfl
    have t3' := evT_cmp (pos := (tP C26.rt 77906)) (x := false) m3 vU vS (by
      show some (((unlikeL n (L t')).length : Int) != _) = some false
      rw [show ((unlikeL n (L t')).length : Int) = _ from hS.unl t' htn, bne_self_eq_false])
    refine ⟨_, ρd, ω1, rfl, ?_, ?_, rfl, ?_, ?_, d4⟩
    · show ((ω1 "steps").isNone && true) = true
      rw [hω _ (by decide)]; rfl
    · exact exs_app1 x0 (exs_cons s3 rfl (exs_cons (ex_if (evB_cmp t1') rfl) rfl (exs_cons (ex_if (evB_cmp t2') rfl) rfl (exs_cons s5 rfl (exs_cons (ex_if (evB_cmp t3') rfl) rfl exs_nil)))))
    · rw [if_neg (Nat.succ_ne_zero t'), Nat.add_sub_cancel]
      exact (upd_ne (by decide)).trans c1
    · rw [if_neg (Nat.succ_ne_zero t'), Nat.add_sub_cancel]
      exact (upd_ne (by decide)).trans c2
end Mine

namespace Mine
open PySem PyProof.Rows PySem.W PySem.SeqAt PySem.Builtin

theorem ev_sum {c : Ct} {m : Nat} {sc : Sc} {ρ : Rho} {e : Expr} {p pos : Pos} {l : List V} (hl : sc.lookup ("sum" : Str) = some .globalImplicit) (he : isStar e = false) (h : ev c m sc ρ e = some (.lst l)) (hz : l.all isInt = true) : ev c (m + 1) sc ρ (.Call (.Name "sum" p) [e] [] pos) = some (.int (sumV l)) := by
  rw [evq_call, oO_none]
  unfold evCall
  rw [if_pos hl]
  exact oB_of (evs_cons he h evs_nil) ((if_pos (by decide +kernel)).trans ((if_neg (by decide)).trans ((if_pos rfl).trans (if_pos hz))))
theorem pick_ints {l : List V} (h : l.all isInt = true) (lo hi st : Option Int) : (pickL l lo hi st).all isInt = true := List.all_eq_true.mpr fun x hx => by
  unfold pickL at hx
  refine xEA (List.mem_filterMap.mp hx) fun i _ hi => ?_
  exact List.all_eq_true.mp h x (List.mem_of_getElem? hi)
namespace CCe
noncomputable def fd : Fd := (dsP.find? (fun fd => fd.name == ("_law_cells" : Str))).get (by kernel_rfl)
noncomputable def rt : T := .ss fd.body
noncomputable def elt1 : Expr := tE rt 1048576
noncomputable def tg : Expr := tE rt 16781312
noncomputable def it : Expr := tE rt 17829888
noncomputable def scope : Scope := tSc rt 73728
noncomputable def e1 : Expr := tE rt 1099781242880
noncomputable def e2 : Expr := tE rt 1108371177472
theorem h1 : dsP.find? (fun fd => fd.name == ("_law_cells" : Str)) = some fd := (by kernel_rfl)
theorem h2 : fdOk fd 2 = true := by kernel_rfl
theorem h3 : pnames fd.params = [("script" : Str), ("firsts" : Str)] := by kernel_rfl
theorem h4 : fd.body = [.Return (some (.ListComp (.BinOp elt1 .Add (.Call (.Name "sum" (tP CCe.rt 285343744)) [.Subscript (.Name "script" (tP CCe.rt 73015623680)) (.Slice (some e1) none (some e2) (tP CCe.rt 81873993728)) (tP CCe.rt 4833017856)] [] (tP CCe.rt 20054016)) (tP CCe.rt 1245184)) [⟨tg, it, [], 0⟩] scope (tP CCe.rt 77824))) (tP CCe.rt 272)] := (by kernel_rfl)
theorem h5 : ∀ l, (namesOk fd.scope.names (rho ["script", "firsts"] [.lst l, .lst [.int 3, .int 4632308]]) scope tg && notSet it) = true := fun l => by kernel_rfl
theorem h6 : ∀ k l, evIter (ev (Cx k) 58) fd.scope.names (rho ["script", "firsts"] [.lst l, .lst [.int 3, .int 4632308]]) tg it = some [.tup [.int 0, .int 3], .tup [.int 1, .int 4632308]] := fun k l => by kernel_rfl
theorem h7 : (relab (fun y => fd.scope.names.lookup y) scope.names).lookup ("sum" : Str) = some .globalImplicit := by kernel_rfl
theorem h8 : ∀ a b ρ, bindT tg (.tup [.int a, .int b]) ρ = some (upd (upd ρ "place" (.int a)) "first" (.int b)) := fun a b ρ => (by kernel_rfl)
theorem h9 : ∀ k l a b, ev (Cx k) 57 (relab (fun y => fd.scope.names.lookup y) scope.names) (upd (upd (inner scope.names (rho ["script", "firsts"] [.lst l, .lst [.int 3, .int 4632308]])) "place" (.int a)) "first" (.int b)) elt1 = some (.int b) ∧
      ev (Cx k) 55 (relab (fun y => fd.scope.names.lookup y) scope.names) (upd (upd (inner scope.names (rho ["script", "firsts"] [.lst l, .lst [.int 3, .int 4632308]])) "place" (.int a)) "first" (.int b)) (.Name "script" (tP CCe.rt 73015623680)) = some (.lst l) ∧
      ev (Cx k) 55 (relab (fun y => fd.scope.names.lookup y) scope.names) (upd (upd (inner scope.names (rho ["script", "firsts"] [.lst l, .lst [.int 3, .int 4632308]])) "place" (.int a)) "first" (.int b)) e1 = some (.int a) ∧
      ev (Cx k) 55 (relab (fun y => fd.scope.names.lookup y) scope.names) (upd (upd (inner scope.names (rho ["script", "firsts"] [.lst l, .lst [.int 3, .int 4632308]])) "place" (.int a)) "first" (.int b)) e2 = some (.int 2) := fun k l a b => ⟨by kernel_rfl, by kernel_rfl, by kernel_rfl, by kernel_rfl⟩
end CCe
open CCe in
theorem cells_call (k : Nat) {ns : List Int} (hl : ns.length ≤ 1000) : ∃ a b, cF (k + 1) "_law_cells" [intsV ns, .lst [.int 3, .int 4632308]] = some (.lst [.int a, .int b]) := by
  have hall := ints_all ns
  have turn : ∀ (a b : Int), ∃ c, ev (Cx k) 58 (relab (fun y => fd.scope.names.lookup y) scope.names) (upd (upd (inner scope.names (rho ["script", "firsts"] [intsV ns, .lst [.int 3, .int 4632308]])) "place" (.int a)) "first" (.int b)) (.BinOp elt1 .Add (.Call (.Name "sum" (tP CCe.rt 285343744)) [.Subscript (.Name "script" (tP CCe.rt 73015623680)) (.Slice (some e1) none (some e2) (tP CCe.rt 81873993728)) (tP CCe.rt 4833017856)] [] (tP CCe.rt 20054016)) (tP CCe.rt 1245184)) = some (.int c) := by
    intro a b
    refine xAAA (h9 k (ns.map .int) a b) fun t1 t2 t3 t4 => ?_
    refine ⟨_, ev_bin t1 (ev_sum h7 rfl (ev_slice (r := .lst (pickL (ns.map .int) (some a) none (some 2))) t2 (evP_some t3) rfl (evP_some t4) ?_) (pick_ints hall _ _ _)) rfl⟩
    exact oO_l (if_pos ⟨by rw [List.length_map]; exact hl, by decide⟩)
  refine xE (turn 0 3) fun c hc => ?_
  refine xE (turn 1 4632308) fun d hd => ?_
  refine ⟨c, d, callF_body h1 h2 ?_⟩
  rw [h3, h4]
  refine exs_ret (ev_lc (h5 _) (h6 k _) (by show (2 : Nat) ≤ 100000; decide) ?_)
  exact oB_of (h8 _ _ _) (oB_of (a := true) rfl (oB_of hc (oB_of (oB_of (h8 _ _ _) (oB_of (a := true) rfl (oB_of hd (oB_of (a := []) rfl rfl)))) rfl)))
theorem d0 : ∃ elts kk tp q1 es q2 q3, lawB[0]? = some (.Assign [.Tuple elts kk tp] (.Call (.Name "_law_cells" q1) es [] q2) q3) ∧ lawSc.lookup ("_law_cells" : Str) = some .globalImplicit ∧
    ((tgtNames (.Tuple elts kk tp)).all fun n => kOk lawSc n && (omg0 n).isNone) = true ∧ (∀ ρ x y, bindT (.Tuple elts kk tp) (.lst [x, y]) ρ = some (upd (upd ρ "first" x) "second" y)) ∧
    (∀ k v, evs (ev (Cx k) 58) lawSc (rho ["script"] [v]) es = some [v, .lst [.int 3, .int 4632308]]) :=
  ⟨_, _, _, _, _, _, _, rfl, by kernel_rfl, by kernel_rfl, fun ρ x y => rfl, fun k v => by kernel_rfl⟩
theorem st0 (k : Nat) {ns : List Int} (hl : ns.length ≤ 1000) : ∃ a b, st (k + 1) 0 (rho ["script"] [intsV ns]) omg0 = some (.nx (upd (upd (rho ["script"] [intsV ns]) "first" (.int a)) "second" (.int b)) omg0) := by
  refine xEEEEEEE d0 fun elts kk tp q1 es q2 q3 qr0 => xAAAA qr0 fun e g1 g2 g3 g4 => ?_
  refine xEE (cells_call k hl) fun a b h => ?_
  exact ⟨a, b, st_of e (ex_asgT rfl g2 ((ev_fn g1 (g4 (k + 1) _) (by decide +kernel)).trans h) (g3 _ _ _))⟩
end Mine

namespace Mine
/-! the plain law: the highest place within so many steps -/
theorem foldl_max : ∀ (l : List Int) (a : Int), a ≤ l.foldl maxI a ∧ (∀ x ∈ l, x ≤ l.foldl maxI a) ∧ (l.foldl maxI a = a ∨ l.foldl maxI a ∈ l)
  | [], a => ⟨Int.le_refl _, fun _ h => (nM h), .inl rfl⟩
  | x :: l, a => by
    refine xAA (foldl_max l (maxI a x)) fun h1 h2 h3 => ?_
    rw [List.foldl_cons]
    have hm : a ≤ maxI a x ∧ x ≤ maxI a x ∧ (maxI a x = a ∨ maxI a x = x) := by unfold maxI; split <;> lia
    refine ⟨by lia, fun y hy => ?_, ?_⟩
    · rcases List.mem_cons.mp hy with rfl | hy
      · lia
      · exact h2 y hy
    · rcases h3 with h3 | h3
      · rcases hm.2.2 with h | h
        · exact .inl (by lia)
        · exact .inr (by rw [h3, h]; exact List.mem_cons_self)
      · exact .inr (List.mem_cons_of_mem _ h3)
noncomputable def win (f : Int → Int) (t : Nat) (i : Int) : Int := (tab (2 * t) fun j => f (i - t + (j + 1 : Nat))).foldl maxI (f (i - t))
structure IsMax (f : Int → Int) (a b m : Int) : Prop where
  up : ∀ k, a ≤ k → k ≤ b → f k ≤ m
  at_ : ∃ k, a ≤ k ∧ k ≤ b ∧ f k = m
theorem IsMax.uniq {f : Int → Int} {a b m m' : Int} (h : IsMax f a b m) (h' : IsMax f a b m') : m = m' := by
  refine xEAA h.at_ fun k h1 h2 h3 => ?_
  refine xEAA h'.at_ fun k' h1' h2' h3' => ?_
  have := h.up k' h1' h2'
  have := h'.up k h1 h2
  lia
theorem win_max (f : Int → Int) (t : Nat) (i : Int) : IsMax f (i - t) (i + t) (win f t i) := by
  refine xAA (foldl_max (tab (2 * t) fun j => f (i - t + (j + 1 : Nat))) (f (i - t))) fun h1 h2 h3 => ?_
  constructor
  · intro k ha hb
    by_cases hk : k = i - t
    · subst hk; exact h1
    · refine h2 _ (List.mem_map.mpr ⟨(k - (i - t) - 1).toNat, List.mem_range.mpr (by lia), ?_⟩)
      congr 1; lia
  · rcases h3 with h3 | h3
    · exact ⟨i - t, by lia, by lia, h3.symm⟩
    · refine xEA (List.mem_map.mp h3) fun j hj e => ?_
      have := List.mem_range.mp hj
      exact ⟨i - t + (j + 1 : Nat), by lia, by lia, e⟩
noncomputable def max3 (a b c : Int) : Int := maxI a (maxI b c)
theorem max3_spec (a b c : Int) : a ≤ max3 a b c ∧ b ≤ max3 a b c ∧ c ≤ max3 a b c ∧ (max3 a b c = a ∨ max3 a b c = b ∨ max3 a b c = c) := by
  unfold max3 maxI; split <;> split <;> lia
theorem win_succ (f : Int → Int) (t : Nat) (i : Int) : win f (t + 1) i = max3 (win f t (i - 1)) (win f t i) (win f t (i + 1)) := by
  refine (win_max f (t + 1) i).uniq ?_
  have a := win_max f t (i - 1)
  have b := win_max f t i
  have c := win_max f t (i + 1)
  refine xAAA (max3_spec (win f t (i - 1)) (win f t i) (win f t (i + 1))) fun m1 m2 m3 m4 => ?_
  constructor
  · intro k h1 h2
    by_cases ha : k ≤ i - 1 + t
    · have := a.up k (by lia) ha; lia
    · by_cases hb : k ≤ i + t
      · have := b.up k (by lia) hb; lia
      · have := c.up k (by lia) (by lia); lia
  · rcases m4 with h | h | h
    · refine xEAA a.at_ fun k h1 h2 h3 => ?_; exact ⟨k, by lia, by lia, by lia⟩
    · refine xEAA b.at_ fun k h1 h2 h3 => ?_; exact ⟨k, by lia, by lia, by lia⟩
    · refine xEAA c.at_ fun k h1 h2 h3 => ?_; exact ⟨k, by lia, by lia, by lia⟩
theorem win_near {f : Int → Int} (hf : ∀ k, f (k + 1) - f k ≤ 1 ∧ f k - f (k + 1) ≤ 1) (t : Nat) (i : Int) : win f t (i + 1) - win f t i ≤ 1 ∧ win f t i - win f t (i + 1) ≤ 1 := by
  have b := win_max f t i
  have c := win_max f t (i + 1)
  refine xEAA b.at_ fun k h1 h2 h3 => ?_
  refine xEAA c.at_ fun k' h1' h2' h3' => ?_
  have e1 := b.up (k' - 1) (by lia) (by lia)
  have e2 := c.up (k + 1) (by lia) (by lia)
  have f1 := hf (k' - 1)
  have f2 := hf k
  rw [show k' - 1 + 1 = k' from by lia] at f1
  lia
theorem win_shift {f : Int → Int} {n R : Int} (hf : ∀ k, f (k + n) = f k + R) (t : Nat) (i : Int) : win f t (i + n) = win f t i + R := by
  refine (win_max f t (i + n)).uniq ?_
  have b := win_max f t i
  constructor
  · intro k h1 h2
    have := b.up (k - n) (by lia) (by lia)
    have e := hf (k - n)
    rw [show k - n + n = k from by lia] at e
    lia
  · refine xEAA b.at_ fun k h1 h2 h3 => ?_
    exact ⟨k + n, by lia, by lia, by rw [hf]; lia⟩
theorem win_zero (f : Int → Int) (i : Int) : win f 0 i = f i := by
  show f (i - ((0 : Nat) : Int)) = f i
  congr 1; lia
theorem later_win (n t : Nat) (H : Nat → Int) (i : Nat) : laterAt n t H i = (win (liftAt n H) t i) % 3 := by
  rw [← Int.fmod_eq_emod_of_nonneg _ (by decide)]
  rfl

section
variable {n : Nat} {H : Nat → Int} (hn : 0 < n)
include hn
theorem lift_eq (q r : Int) (h0 : 0 ≤ r) (h1 : r < n) : liftAt n H (n * q + r) = H r.toNat + q * (H n - H 0) := by
  unfold liftAt
  have hnn : (0 : Int) ≤ n := by lia
  rw [Int.fmod_eq_emod_of_nonneg _ hnn, Int.fdiv_eq_ediv_of_nonneg _ hnn]
  have e1 : (n * q + r) % n = r := by rw [Int.mul_add_emod_self_left]; exact Int.emod_eq_of_lt h0 h1
  have e2 : (n * q + r) / n = q := by
    rw [Int.add_comm, Int.add_mul_ediv_left _ _ (by lia), Int.ediv_eq_zero_of_lt h0 h1]; lia
  rw [e1, e2]
theorem lift_at (i : Nat) (h : i < n) : liftAt n H i = H i := by
  have := lift_eq (H := H) hn 0 i (by lia) (by lia)
  rw [Int.mul_zero, Int.zero_add, Int.zero_mul, Int.add_zero] at this
  exact this
theorem lift_shift (k : Int) : liftAt n H (k + n) = liftAt n H k + (H n - H 0) := by
  have hk : (n : Int) * (k / n) + k % n = k := by rw [Int.mul_comm]; exact Int.ediv_mul_add_emod k n
  have h0 : 0 ≤ k % n := Int.emod_nonneg _ (by lia)
  have h1 : k % n < n := Int.emod_lt_of_pos _ (by lia)
  have a := lift_eq (H := H) hn (k / n) (k % n) h0 h1
  have b := lift_eq (H := H) hn (k / n + 1) (k % n) h0 h1
  rw [hk] at a
  rw [Int.mul_add, Int.mul_one, show (n : Int) * (k / n) + n + k % n = k + n from by lia, Int.add_mul, Int.one_mul] at b
  rw [a, b]; lia
theorem lift_near (hH : ∀ j, j < n → H (j + 1) - H j ≤ 1 ∧ H j - H (j + 1) ≤ 1) (k : Int) : liftAt n H (k + 1) - liftAt n H k ≤ 1 ∧ liftAt n H k - liftAt n H (k + 1) ≤ 1 := by
  have hk : (n : Int) * (k / n) + k % n = k := by rw [Int.mul_comm]; exact Int.ediv_mul_add_emod k n
  have h0 : 0 ≤ k % n := Int.emod_nonneg _ (by lia)
  have h1 : k % n < n := Int.emod_lt_of_pos _ (by lia)
  have a := lift_eq (H := H) hn (k / n) (k % n) h0 h1
  rw [hk] at a
  have hj := hH (k % n).toNat (by lia)
  by_cases hr : k % n + 1 < n
  · have b := lift_eq (H := H) hn (k / n) (k % n + 1) (by lia) hr
    rw [show (n : Int) * (k / n) + (k % n + 1) = k + 1 from by lia, show (k % n + 1).toNat = (k % n).toNat + 1 from by lia] at b
    rw [a, b]; lia
  · have b := lift_eq (H := H) hn (k / n + 1) 0 (by lia) (by lia)
    rw [Int.mul_add, Int.mul_one, show (n : Int) * (k / n) + n + 0 = k + 1 from by lia, Int.add_mul, Int.one_mul] at b
    rw [show (k % n).toNat + 1 = n from by lia] at hj
    rw [a, b]
    show _ ∧ _
    have : H (0 : Int).toNat = H 0 := rfl
    rw [this]
    lia
end

/-- the heights fit the paints -/
structure Fit (n : Nat) (p H : Nat → Int) : Prop where
  pos : 0 < n
  near : ∀ j, j < n → H (j + 1) - H j ≤ 1 ∧ H j - H (j + 1) ≤ 1
  round : (H n - H 0) % 3 = 0
  paint : ∀ i, i < n → H i % 3 = p i

theorem steps_zero {n : Nat} {p H : Nat → Int} (F : Fit n p H) (i : Nat) (hi : i < n) : laterAt n 0 H i = p i := by
  rw [later_win, win_zero, lift_at F.pos i hi, F.paint i hi]
theorem ix_lt {n : Nat} {b : Int} (h0 : 0 ≤ b) (h1 : b < n) : ix n b = b.toNat := by
  unfold ix
  rw [Int.fmod_eq_emod_of_nonneg _ (by lia), Int.emod_eq_of_lt h0 h1]
theorem ix_neg {n : Nat} {b : Int} (h0 : b < 0) (h1 : -(n : Int) ≤ b) : ix n b = (b + n).toNat := by
  unfold ix
  rw [Int.fmod_eq_emod_of_nonneg _ (by lia)]
  have : b % n = b + n := by
    have e : (b + n * 1) % n = b % n := Int.add_mul_emod_self_left b n 1
    rw [Int.mul_one] at e
    rw [← e]; exact Int.emod_eq_of_lt (by lia) (by lia)
  rw [this]
theorem mod_add3 {x R : Int} (h : R % 3 = 0) : (x + R) % 3 = x % 3 := by lia
theorem up_mod {x b : Int} (h : b - x ≤ 1 ∧ x - b ≤ 1) : (x % 3 - b % 3) % 3 = 1 ↔ x = b + 1 := by lia
theorem pick_max {a b c M : Int} (m1 : a ≤ M) (m2 : b ≤ M) (m3 : c ≤ M) (m4 : M = a ∨ M = b ∨ M = c) (n1 : a - b ≤ 1) (n2 : c - b ≤ 1) : M = if c = b + 1 then c else if a = b + 1 then a else b := by
  split
  · lia
  · split <;> lia
theorem pick_mod {a b c M : Int} (h : M = if c = b + 1 then c else if a = b + 1 then a else b) (n1 : b - a ≤ 1 ∧ a - b ≤ 1) (n2 : b - c ≤ 1 ∧ c - b ≤ 1) :
    (if ((c % 3 - b % 3).fmod 3 == 1) = true then c % 3 else if ((a % 3 - b % 3).fmod 3 == 1) = true then a % 3 else b % 3) = M % 3 := by
  rw [Int.fmod_eq_emod_of_nonneg _ (by decide), Int.fmod_eq_emod_of_nonneg _ (by decide)]
  simp only [beq_iff_eq, up_mod n1, up_mod n2]
  rw [h]
  split
  · rfl
  · split <;> rfl
theorem steps_next {n : Nat} {p H : Nat → Int} (F : Fit n p H) (t i : Nat) (hi : i < n) : nextP n (laterAt n t H) i = laterAt n (t + 1) H i := by
  have hn := F.pos
  have near := fun k => win_near (lift_near hn F.near) t k
  have shift := fun k => win_shift (lift_shift (H := H) hn) t k
  have e1 : laterAt n t H (ix n ((i : Int) - 1)) = win (liftAt n H) t ((i : Int) - 1) % 3 := by
    rw [later_win]
    by_cases h : i = 0
    · subst h
      rw [ix_neg (by lia) (by lia), show ((((0 : Nat) : Int) - 1 + n).toNat : Int) = (((0 : Nat) : Int) - 1) + n from by lia, shift, mod_add3 F.round]
    · rw [ix_lt (by lia) (by lia), show (((i : Int) - 1).toNat : Int) = (i : Int) - 1 from by lia]
  have e2 : laterAt n t H (ix n ((i : Int) + 1 - n)) = win (liftAt n H) t ((i : Int) + 1) % 3 := by
    rw [later_win]
    by_cases h : i + 1 = n
    · rw [ix_lt (by lia) (by lia), show (((i : Int) + 1 - n).toNat : Int) = 0 from by lia]
      have := shift 0
      rw [show (0 : Int) + n = i + 1 from by lia] at this
      rw [this, mod_add3 F.round]
    · rw [ix_neg (by lia) (by lia), show (((i : Int) + 1 - n + n).toNat : Int) = (i : Int) + 1 from by lia]
  have n1 := near ((i : Int) - 1)
  rw [show (i : Int) - 1 + 1 = i from by lia] at n1
  have n2 := near (i : Int)
  refine xAAA (max3_spec (win (liftAt n H) t ((i : Int) - 1)) (win (liftAt n H) t i) (win (liftAt n H) t ((i : Int) + 1))) fun m1 m2 m3 m4 => ?_
  unfold nextP pickP
  rw [e1, e2, later_win n t H i, later_win n (t + 1) H i, win_succ]
  exact pick_mod (pick_max m1 m2 m3 m4 n1.2 n2.1) n1 ⟨n2.2, n2.1⟩
end Mine

namespace Mine
/-! the plain law in natural numbers, made to be reckoned -/
noncomputable def fzN (m : Nat) (k : Nat → Bool) : Bool := match m with
  | 0 => k 0
  | m + 1 => k (m + 1)
noncomputable def fzNL : List Nat → (List Nat → Bool) → Bool
  | [], k => k []
  | x :: r, k => fzN x fun x => fzNL r fun r => k (x :: r)
theorem fzN_eq (m : Nat) (k : Nat → Bool) : fzN m k = k m := by cases m <;> rfl
theorem fzNL_eq : ∀ (l : List Nat) (k : List Nat → Bool), fzNL l k = k l
  | [], k => rfl
  | x :: r, k => by unfold fzNL; rw [fzN_eq, fzNL_eq r]
noncomputable def mx (a b : Nat) : Nat := bif Nat.ble a b then b else a
noncomputable def eqNL : List Nat → List Nat → Bool
  | [], [] => true
  | a :: l, b :: r => Nat.beq a b && eqNL l r
  | _, _ => false
theorem eqNL_eq : ∀ {l r : List Nat}, eqNL l r = true → l = r
  | [], [], _ => rfl
  | a :: l, b :: r, h => by
    unfold eqNL at h
    rw [Bool.and_eq_true] at h
    rw [Nat.eq_of_beq_eq_true h.1, eqNL_eq h.2]
  | [], _ :: _, h => by cases h
  | _ :: _, [], h => by cases h
noncomputable def eqSL : List Sg → List Sg → Bool
  | [], [] => true
  | some a :: l, some b :: r => Nat.beq a b && eqSL l r
  | none :: l, none :: r => eqSL l r
  | _, _ => false
theorem eqSL_eq : ∀ {l r : List Sg}, eqSL l r = true → l = r
  | [], [], _ => rfl
  | some a :: l, some b :: r, h => by
    unfold eqSL at h
    rw [Bool.and_eq_true] at h
    rw [Nat.eq_of_beq_eq_true h.1, eqSL_eq h.2]
  | none :: l, none :: r, h => by rw [eqSL_eq (l := l) (r := r) h]
  | [], _ :: _, h => by cases h
  | some _ :: _, [], h => by cases h
  | none :: _, [], h => by cases h
  | some _ :: _, none :: _, h => by cases h
  | none :: _, some _ :: _, h => by cases h

/-- the list's part at a place -/
noncomputable def nth (l : List Nat) : Nat → Nat := List.rec (fun _ => 0) (fun a _ ih i => Nat.rec a (fun i _ => ih i) i) l
theorem nth_zero (a : Nat) (l : List Nat) : nth (a :: l) 0 = a := rfl
theorem nth_succ (a : Nat) (l : List Nat) (i : Nat) : nth (a :: l) (i + 1) = nth l i := rfl
noncomputable def filt (p : Nat → Bool) (l : List Nat) : List Nat := List.rec [] (fun a _ ih => Bool.rec ih (a :: ih) (p a)) l
theorem filt_eq (p : Nat → Bool) : ∀ l, filt p l = l.filter p
  | [] => rfl
  | a :: l => by
    rw [List.filter_cons, ← filt_eq p l]
    show @Bool.rec (fun _ => List Nat) (filt p l) (a :: filt p l) (p a) = _
    cases p a <;> rfl
/-- heights from steps (0, 1, 2 for down, level, up) -/
noncomputable def scan (l : List Nat) : Nat → List Nat := List.rec (fun a => [a]) (fun e _ ih a => a :: ih (a + e - 1)) l
noncomputable def mxN (h : Nat → Nat) (a c : Nat) : Nat := Nat.rec (h a) (fun i m => mx m (h (a + 1 + i))) c
noncomputable def upN (h : Nat → Nat) (j : Nat) : Bool := Nat.blt (h j) (h (j + 1))
noncomputable def dnN (h : Nat → Nat) (j : Nat) : Bool := Nat.blt (h (j + 1)) (h j)
noncomputable def risN (m : Nat) (h : Nat → Nat) : List Nat := filt (upN h) (List.range m)
noncomputable def falN (m : Nat) (h : Nat → Nat) : List Nat := filt (dnN h) (List.range m)
noncomputable def hiN (h : Nat → Nat) (ri : List Nat) : List Nat := filt (fun j => Nat.blt (mxN h 0 j) (h (j + 1))) ri
noncomputable def laN (m : Nat) (h : Nat → Nat) (fa : List Nat) : List Nat := filt (fun j => Nat.blt (mxN h (j + 1) (m - j - 1)) (h j)) fa
noncomputable def tkN (h : Nat → Nat) (j : Nat) : List Sg := bif dnN h j then [none] else bif upN h j then [some (j % 3)] else []
noncomputable def tksN (m : Nat) (h : Nat → Nat) : List Sg := (List.range m).flatMap (tkN h)
structure PlN where
  st : List Nat
  ask : List Nat
  ap : List Nat
noncomputable def plStepN (n : Nat) (h : Nat → Nat) (j : Nat) (x : PlN) : PlN :=
  bif dnN h j then ⟨x.st ++ [j], x.ask, x.ap⟩
  else bif upN h j then (match x.st.getLast? with
    | none => ⟨x.st, x.ask ++ [j], x.ap⟩
    | some p => ⟨x.st.dropLast, x.ask, bif Nat.ble n j then x.ap ++ [j - p] else x.ap⟩)
  else x
noncomputable def plN (n : Nat) (h : Nat → Nat) : Nat → PlN
  | 0 => ⟨[], [], []⟩
  | j + 1 => plStepN n h j (plN n h j)
noncomputable def max3L : List Nat → List Nat
  | a :: b :: c :: r => mx a (mx b c) :: max3L (b :: c :: r)
  | _ => []
noncomputable def cntN : Nat → List Nat → Nat
  | 0, _ => 0
  | n + 1, a :: b :: r => (bif Nat.beq a b then 0 else 1) + cntN n (b :: r)
  | _, _ => 0
noncomputable def leN (ap : List Nat) (t : Nat) : Nat := (filt (fun x => Nat.ble x t) ap).length
noncomputable def liftL (n T : Nat) (h : Nat → Nat) : List Nat := (List.range (n + 2 * T)).map fun j => bif Nat.blt j T then h (n + j - T) + h 0 - h n else h (j - T)
noncomputable def unlGo (n c : Nat) (ap : List Nat) : Nat → Nat → List Nat → Bool
  | 0, _, _ => true
  | f + 1, t, w => Nat.beq (cntN n (w.drop f) + 2 * leN ap (2 * t)) c && fzNL (max3L w) fun w' => unlGo n c ap f (t + 1) w'
noncomputable def chk (n : Nat) (hl : List Nat) : Bool :=
  fzNL (risN (2 * n) (nth hl)) fun ri => fzNL (falN (2 * n) (nth hl)) fun fa => fzNL (hiN (nth hl) ri) fun hi => fzNL (laN (2 * n) (nth hl) fa) fun la =>
    eqNL (meltN (2 * n) ([], tksN (2 * n) (nth hl))).1 ((ri.filter fun j => !hi.contains j).map (· % 3)) && (eqSL (meltN (2 * n) ([], tksN (2 * n) (nth hl))).2 (leftSg hi la) &&
    (eqNL (plN n (nth hl) (2 * n)).ask hi && (eqNL (plN n (nth hl) (2 * n)).st la && (Nat.beq (la.length + nth hl (2 * n)) (mxN (nth hl) 0 (2 * n)) &&
    fzNL (plN n (nth hl) (2 * n)).ap fun ap => fzNL (liftL n (n / 2 + 2) (nth hl)) fun w => unlGo n ((ri.length + fa.length) / 2) ap (n / 2 + 2) 0 w))))
noncomputable def qs : Nat → List (List Nat)
  | 0 => [[]]
  | n + 1 => (qs n).flatMap fun l => [0 :: l, 1 :: l, 2 :: l]
noncomputable def chkAll (m : Nat) : Bool := (qs m).all fun l => fzN ((m + 1 + 2 * l.foldl (· + ·) 0) % 3) fun e => fzNL (scan (e :: l ++ (e :: l)) 20) fun hl => chk (m + 1) hl
end Mine

namespace Mine
theorem chk4 : chkAll 3 = true := by decide +kernel
theorem chk5 : chkAll 4 = true := by decide +kernel
theorem chk6 : chkAll 5 = true := by decide +kernel
theorem chk7 : chkAll 6 = true := by decide +kernel
end Mine

namespace Mine
theorem mx_link (x y : Nat) (c : Int) : maxI ((x : Int) - c) ((y : Int) - c) = (mx x y : Int) - c := by
  unfold maxI mx
  cases h : Nat.ble x y with
  | true =>
    have := Nat.le_of_ble_eq_true h
    show _ = (y : Int) - c
    split <;> lia
  | false =>
    have : ¬ x ≤ y := fun q => by rw [Nat.ble_eq_true_of_le q] at h; injection h
    show _ = (x : Int) - c
    split <;> lia
theorem blt_link (x y : Nat) (c : Int) : decide ((x : Int) - c < (y : Int) - c) = Nat.blt x y := by
  rw [Bool.eq_iff_iff, decide_eq_true_iff, Nat.blt_eq]; lia

section
variable {n : Nat} {H E : Nat → Int} {h : Nat → Nat} {c : Int} (hh : ∀ j, j ≤ 2 * n → H j = (h j : Int) - c)
include hh
theorem up_link {j : Nat} (hj : j < 2 * n) : upB H j = upN h j := by
  unfold upB upN; rw [hh j (by lia), hh (j + 1) (by lia), blt_link]
theorem dn_link {j : Nat} (hj : j < 2 * n) : downB H j = dnN h j := by
  unfold downB dnN; rw [hh j (by lia), hh (j + 1) (by lia), blt_link]
theorem ris_link : risingL n H = risN (2 * n) h := by
  unfold risingL risN; rw [filt_eq]
  exact List.filter_congr fun j hj => up_link hh (List.mem_range.mp hj)
theorem fal_link : fallingL n H = falN (2 * n) h := by
  unfold fallingL falN; rw [filt_eq]
  exact List.filter_congr fun j hj => dn_link hh (List.mem_range.mp hj)
omit hh in
theorem fold_link (F : Nat → Int) (a : Nat) (X : Int) (hX : X = (h a : Int) - c) : ∀ k, (∀ i, i < k → F i = (h (a + 1 + i) : Int) - c) → (tab k F).foldl maxI X = (mxN h a k : Int) - c
  | 0, _ => hX
  | k + 1, hF => by
    rw [tab_succ, List.foldl_append, fold_link F a X hX k fun i hi => hF i (by lia), List.foldl_cons, List.foldl_nil, hF k (by lia), mx_link]
    rfl
theorem high_link {j : Nat} (hj : j < 2 * n) : highB H j = Nat.blt (mxN h 0 j) (h (j + 1)) := by
  unfold highB maxPre
  rw [fold_link (h := h) (c := c) (fun i => H (i + 1)) 0 (H 0) (hh 0 (by lia)) j fun i hi => by rw [hh (i + 1) (by lia), show 0 + 1 + i = i + 1 from by lia], hh (j + 1) (by lia), blt_link]
theorem last_link {j : Nat} (hj : j < 2 * n) : lastB (2 * n) H j = Nat.blt (mxN h (j + 1) (2 * n - j - 1)) (h j) := by
  unfold lastB maxPost
  rw [fold_link (h := h) (c := c) (fun i => H (j + 2 + i)) (j + 1) (H (j + 1)) (hh _ (by lia)) (2 * n - j - 1) fun i hi => by rw [hh (j + 2 + i) (by lia)], hh j (by lia), blt_link]
theorem hi_link : higherL n H = hiN h (risN (2 * n) h) := by
  unfold higherL hiN
  rw [filt_eq, ← ris_link hh]
  exact List.filter_congr fun j hj => high_link hh (mem_lt hj)
theorem la_link : lastingL n H = laN (2 * n) h (falN (2 * n) h) := by
  unfold lastingL laN
  rw [filt_eq, ← fal_link hh]
  exact List.filter_congr fun j hj => last_link hh (mem_lt hj)
theorem max_link : maxAll n H = (mxN h 0 (2 * n) : Int) - c := by
  unfold maxAll
  exact fold_link (h := h) (c := c) (fun i => H (i + 1)) 0 (H 0) (hh 0 (by lia)) (2 * n) fun i hi => by rw [hh (i + 1) (by lia), show 0 + 1 + i = i + 1 from by lia]
variable (hE : ∀ j, j < 2 * n → E j = H (j + 1) - H j)
include hE
theorem dn_E {j : Nat} (hj : j < 2 * n) : dnN h j = decide (E j < 0) := by
  rw [← dn_link hh hj, hE j hj]; unfold downB; congr 1; apply propext; lia
theorem up_E {j : Nat} (hj : j < 2 * n) : upN h j = decide (0 < E j) := by
  rw [← up_link hh hj, hE j hj]; unfold upB; congr 1; apply propext; lia
theorem tok_link {j : Nat} (hj : j < 2 * n) : tokAt (E j) j = tkN h j := by
  unfold tokAt tkN
  rw [dn_E hh hE hj, up_E hh hE hj]
  by_cases h0 : E j < 0
  · rw [if_pos h0, decide_eq_true h0]; rfl
  · rw [if_neg h0, decide_eq_false h0]
    by_cases h1 : 0 < E j
    · rw [if_pos h1, decide_eq_true h1]; rfl
    · rw [if_neg h1, decide_eq_false h1]; rfl
theorem toks_link : ∀ m, m ≤ 2 * n → toksOf E m = tksN m h
  | 0, _ => rfl
  | m + 1, hm => by
    rw [toksOf_succ, toks_link m (by lia), tok_link hh hE (by lia)]
    unfold tksN
    rw [List.range_succ, List.flatMap_append]; simp
theorem pl_link : ∀ j, j ≤ 2 * n → (plAt n E j).st = (plN n h j).st ∧ (plAt n E j).ask = (plN n h j).ask ∧ (plAt n E j).ap = (plN n h j).ap.map Int.ofNat
  | 0, _ => ⟨rfl, rfl, rfl⟩
  | j + 1, hj => by
    refine xAA (pl_link j (by lia)) fun h1 h2 h3 => ?_
    have hb := (plAt_ok n E j).1
    show (plStep n (E j) j (plAt n E j)).st = (plStepN n h j (plN n h j)).st ∧ (plStep n (E j) j (plAt n E j)).ask = (plStepN n h j (plN n h j)).ask ∧ (plStep n (E j) j (plAt n E j)).ap = (plStepN n h j (plN n h j)).ap.map Int.ofNat
    unfold plStep plStepN
    rw [dn_E hh hE (by lia), up_E hh hE (by lia)]
    generalize plAt n E j = x at *
    generalize plN n h j = y at *
    obtain ⟨st, ask, ap⟩ := x
    obtain ⟨st', ask', ap'⟩ := y
    simp only at h1 h2 h3 hb
    subst h1 h2 h3
    by_cases h0 : E j < 0
    · rw [if_pos h0, decide_eq_true h0]; exact ⟨rfl, rfl, rfl⟩
    · rw [if_neg h0, decide_eq_false h0]
      by_cases h9 : 0 < E j
      · rw [if_pos h9, decide_eq_true h9]
        simp only [cond_true, cond_false]
        cases hl : st.getLast? with
        | none => exact ⟨rfl, rfl, rfl⟩
        | some p =>
          refine ⟨rfl, rfl, ?_⟩
          have hp := hb p (List.mem_of_getLast? hl)
          simp only
          by_cases hnj : n ≤ j
          · rw [if_pos hnj, Nat.ble_eq_true_of_le hnj]
            simp only [cond_true, List.map_append, List.map_cons, List.map_nil]
            congr 2
            show (j : Int) - p = ((j - p : Nat) : Int)
            lia
          · have : Nat.ble n j = false := Bool.eq_false_iff.mpr fun q => hnj (Nat.le_of_ble_eq_true q)
            rw [if_neg hnj, this]
            rfl
      · rw [if_neg h9, decide_eq_false h9]; exact ⟨rfl, rfl, rfl⟩
end
end Mine

namespace Mine
/-- a list of naturals tells a row of heights -/
noncomputable def Row (c : Int) (g : Nat → Int) (m : Nat) (w : List Nat) : Prop := ∀ j, j < m → ∃ x : Nat, w[j]? = some x ∧ (x : Int) - c = g j
theorem Row.congr {c : Int} {g g' : Nat → Int} {m : Nat} {w : List Nat} (h : Row c g m w) (e : ∀ j, j < m → g j = g' j) : Row c g' m w := fun j hj => by
  refine xEA (h j hj) fun x h1 h2 => ?_
  exact ⟨x, h1, h2.trans (e j hj)⟩
theorem Row.tail {c : Int} {g : Nat → Int} {m : Nat} {a : Nat} {w : List Nat} (h : Row c g (m + 1) (a :: w)) : Row c (fun j => g (j + 1)) m w := fun j hj => by
  refine xEA (h (j + 1) (by lia)) fun x h1 h2 => ?_
  exact ⟨x, by simpa using h1, h2⟩
theorem Row.drop {c : Int} {g : Nat → Int} {m k : Nat} {w : List Nat} (h : Row c g (m + k) w) : Row c (fun j => g (k + j)) m (w.drop k) := fun j hj => by
  refine xEA (h (k + j) (by lia)) fun x h1 h2 => ?_
  exact ⟨x, by rw [List.getElem?_drop]; exact h1, h2⟩
theorem Row.head {c : Int} {g : Nat → Int} {m : Nat} {w : List Nat} (h : Row c g (m + 1) w) : ∃ a r, w = a :: r ∧ (a : Int) - c = g 0 := by
  refine xEA (h 0 (by lia)) fun x h1 h2 => ?_
  cases w with
  | nil => cases h1
  | cons a r =>
    have e : a = x := by simpa using h1
    subst e
    exact ⟨a, r, rfl, h2⟩
theorem max3_link (x y z : Nat) (c : Int) : max3 ((x : Int) - c) ((y : Int) - c) ((z : Int) - c) = (mx x (mx y z) : Int) - c := by
  unfold max3; rw [mx_link, mx_link]
theorem Row.max3 {c : Int} : ∀ {m : Nat} {g : Nat → Int} {w : List Nat}, Row c g (m + 2) w → Row c (fun j => max3 (g j) (g (j + 1)) (g (j + 2))) m (max3L w)
  | 0, _, _, _ => fun j hj => absurd hj (Nat.not_lt_zero _)
  | m + 1, g, w, h => by
    (refine xEEA h.head fun a r qq0 ha => ?_; subst qq0)
    (refine xEEA h.tail.head fun b r qq1 hb => ?_; subst qq1)
    (refine xEEA h.tail.tail.head fun d r qq2 hd => ?_; subst qq2)
    have ih := Row.max3 (m := m) h.tail
    intro j hj
    cases j with
    | zero => exact ⟨mx a (mx b d), rfl, by rw [← max3_link, ha, hb, hd]⟩
    | succ j =>
      refine xEA (ih j (by lia)) fun x h1 h2 => ?_
      exact ⟨x, by show (mx a (mx b d) :: max3L (b :: d :: r))[j + 1]? = _; simpa using h1, h2⟩
theorem cnt_link {c : Int} : ∀ {n : Nat} {g : Nat → Int} {w : List Nat}, Row c g (n + 1) w → cntN n w = ((List.range n).filter fun j => g j != g (j + 1)).length
  | 0, _, _, _ => rfl
  | n + 1, g, w, h => by
    (refine xEEA h.head fun a r qq3 ha => ?_; subst qq3)
    (refine xEEA h.tail.head fun b r qq4 hb => ?_; subst qq4)
    have ih := cnt_link (n := n) h.tail
    rw [List.range_succ_eq_map, List.filter_cons]
    show (bif Nat.beq a b then 0 else 1) + cntN n (b :: r) = _
    rw [ih]
    have e : ((List.range n).map Nat.succ).filter (fun j => g j != g (j + 1)) = ((List.range n).filter fun j => g (j + 1) != g (j + 1 + 1)).map Nat.succ := by rw [List.filter_map]; rfl
    rw [e]
    by_cases hab : a = b
    · subst hab
      have : (g 0 != g (0 + 1)) = false := by rw [← ha, ← hb]; simp
      rw [this, if_neg (by decide), Nat.beq_refl, List.length_map]
      show 0 + _ = _
      lia
    · have h1 : Nat.beq a b = false := Bool.eq_false_iff.mpr fun q => hab (Nat.eq_of_beq_eq_true q)
      have : (g 0 != g (0 + 1)) = true := by rw [← ha, ← hb]; simp; lia
      rw [this, if_pos rfl, h1, List.length_cons, List.length_map]
      show 1 + _ = _
      lia

section
variable {n : Nat} {p H : Nat → Int} {h : Nat → Nat} {c : Int} (F : Fit n p H) (hh : ∀ j, j ≤ 2 * n → H j = (h j : Int) - c) (hb : ∀ j, j ≤ n → 20 ≤ h j + j ∧ h j ≤ 20 + j) (tw : ∀ r, r ≤ n → H (n + r) = H r + (H n - H 0))
include F hh hb tw
theorem lift_row (hn : n ≤ 7) {T : Nat} (hT : T ≤ n) : Row c (fun j => win (liftAt n H) 0 ((j : Int) - T)) (n + 2 * T) (liftL n T h) := fun j hj => by
  have hpos := F.pos
  unfold liftL
  rw [List.getElem?_map, List.getElem?_range hj]
  refine ⟨_, rfl, ?_⟩
  show _ = win (liftAt n H) 0 ((j : Int) - T)
  rw [win_zero]
  dsimp only
  by_cases hjT : j < T
  · rw [show Nat.blt j T = true from by rw [Nat.blt_eq]; exact hjT]
    show ((h (n + j - T) + h 0 - h n : Nat) : Int) - c = _
    have e := lift_shift (H := H) hpos ((j : Int) - T)
    rw [show (j : Int) - T + n = ((n + j - T : Nat) : Int) from by lia, lift_at hpos _ (by lia)] at e
    have e1 := hh (n + j - T) (by lia)
    have e2 := hh n (by lia)
    have e3 := hh 0 (by lia)
    have b1 := hb (n + j - T) (by lia)
    have b2 := hb n (by lia)
    have b3 := hb 0 (by lia)
    lia
  · have : Nat.blt j T = false := Bool.eq_false_iff.mpr fun q => hjT (by rw [Nat.blt_eq] at q; exact q)
    rw [this]
    show ((h (j - T) : Nat) : Int) - c = _
    rw [← hh (j - T) (by lia)]
    by_cases hjn : j - T < n
    · rw [show (j : Int) - T = ((j - T : Nat) : Int) from by lia, lift_at hpos _ hjn]
    · have e := lift_shift (H := H) hpos ((j - T - n : Nat) : Int)
      rw [show ((j - T - n : Nat) : Int) + n = (j : Int) - T from by lia, lift_at hpos _ (by lia)] at e
      have t := tw (j - T - n) (by lia)
      rw [show n + (j - T - n) = j - T from by lia] at t
      lia
omit hb tw hh in
theorem unl_eq (t : Nat) : (unlikeL n (laterAt n t H)).length = ((List.range n).filter fun j : Nat => win (liftAt n H) t ((j : Int) - 1) != win (liftAt n H) t (j : Int)).length := by
  have hpos := F.pos
  unfold unlikeL
  congr 1
  refine List.filter_congr fun j hj => ?_
  have hj := List.mem_range.mp hj
  have near := win_near (lift_near hpos F.near) t ((j : Int) - 1)
  rw [show (j : Int) - 1 + 1 = j from by lia] at near
  have key : ∀ x, x = win (liftAt n H) t ((j : Int) - 1) % 3 → ((win (liftAt n H) t (j : Int) % 3 != x) = (win (liftAt n H) t ((j : Int) - 1) != win (liftAt n H) t j)) := by
    rintro x rfl
    rw [Bool.eq_iff_iff]
    simp only [bne_iff_ne, ne_eq]
    lia
  show (laterAt n t H j != laterAt n t H _) = _
  rw [later_win, later_win]
  refine key _ ?_
  by_cases h0 : j = 0
  · rw [if_pos h0]
    have sh := win_shift (lift_shift (H := H) hpos) t ((j : Int) - 1)
    rw [show (j : Int) - 1 + n = ((n - 1 : Nat) : Int) from by lia] at sh
    rw [sh]
    have := F.round
    lia
  · rw [if_neg h0, show ((j - 1 : Nat) : Int) = (j : Int) - 1 from by lia]
omit hb tw hh in
theorem unl_go {cc : Nat} {ap : List Nat} : ∀ (f t : Nat) (w : List Nat), Row c (fun j => win (liftAt n H) t ((j : Int) - f)) (n + 2 * f) w → unlGo n cc ap f t w = true → ∀ s, s < f → (unlikeL n (laterAt n (t + s) H)).length + 2 * leN ap (2 * (t + s)) = cc
  | 0, _, _, _, _, _, hs => absurd hs (Nat.not_lt_zero _)
  | f + 1, t, w, hw, hg, s, hs => by
    rw [show unlGo n cc ap (f + 1) t w = (Nat.beq (cntN n (w.drop f) + 2 * leN ap (2 * t)) cc && fzNL (max3L w) fun w' => unlGo n cc ap f (t + 1) w') from rfl, Bool.and_eq_true, fzNL_eq] at hg
    cases s with
    | zero =>
      have r : Row c (fun j => win (liftAt n H) t ((j : Int) - 1)) (n + 1) (w.drop f) := by
        have r0 : Row c (fun j => win (liftAt n H) t ((j : Int) - (f + 1 : Nat))) ((n + 1) + f) w := fun j hj => hw j (by lia)
        exact r0.drop.congr fun j hj => by
          show win _ _ (((f + j : Nat) : Int) - (f + 1 : Nat)) = _
          congr 1; lia
      have e := cnt_link r
      have e2 : ((List.range n).filter fun j : Nat => win (liftAt n H) t ((j : Int) - 1) != win (liftAt n H) t (((j + 1 : Nat) : Int) - 1)) = (List.range n).filter fun j : Nat => win (liftAt n H) t ((j : Int) - 1) != win (liftAt n H) t j := List.filter_congr fun j _ => by rw [show ((j + 1 : Nat) : Int) - 1 = j from by lia]
      rw [e2, ← unl_eq F t] at e
      rw [Nat.add_zero, ← e]
      exact Nat.eq_of_beq_eq_true hg.1
    | succ s =>
      have r : Row c (fun j => win (liftAt n H) (t + 1) ((j : Int) - f)) (n + 2 * f) (max3L w) := by
        have r0 : Row c (fun j => win (liftAt n H) t ((j : Int) - (f + 1 : Nat))) ((n + 2 * f) + 2) w := fun j hj => hw j (by lia)
        refine r0.max3.congr fun j hj => ?_
        rw [win_succ]
        show max3 (win _ _ ((j : Int) - (f + 1 : Nat))) (win _ _ (((j + 1 : Nat) : Int) - (f + 1 : Nat))) (win _ _ (((j + 2 : Nat) : Int) - (f + 1 : Nat))) = _
        rw [show (j : Int) - (f + 1 : Nat) = (j : Int) - f - 1 from by lia, show ((j + 1 : Nat) : Int) - (f + 1 : Nat) = (j : Int) - f from by lia, show ((j + 2 : Nat) : Int) - (f + 1 : Nat) = (j : Int) - f + 1 from by lia]
      have := unl_go f (t + 1) (max3L w) r hg.2 s (by lia)
      rw [show t + 1 + s = t + (s + 1) from by lia] at this
      exact this
theorem plain (hn : n ≤ 7) (hT : n / 2 + 2 ≤ n) {E : Nat → Int} (hE : ∀ j, j < 2 * n → E j = H (j + 1) - H j) {hl : List Nat} (hnth : h = nth hl) (hc : chk n hl = true) :
    (meltN (2 * n) ([], toksOf E (2 * n))).1 = ((risingL n H).filter fun j => !(higherL n H).contains j).map (· % 3) ∧ (meltN (2 * n) ([], toksOf E (2 * n))).2 = leftSg (higherL n H) (lastingL n H) ∧
    (plAt n E (2 * n)).ask = higherL n H ∧ (plAt n E (2 * n)).st = lastingL n H ∧ ((lastingL n H).length : Int) = maxAll n H - H (2 * n) ∧ Steps n p H (risingL n H) (fallingL n H) (plAt n E (2 * n)).ap := by
  subst hnth
  unfold chk at hc
  rw [fzNL_eq, fzNL_eq, fzNL_eq, fzNL_eq, Bool.and_eq_true, Bool.and_eq_true, Bool.and_eq_true, Bool.and_eq_true, Bool.and_eq_true, fzNL_eq, fzNL_eq] at hc
  (refine xAAAAA hc ?_; clear hc; intro c1 c2 c3 c4 c5 c6)
  refine xAA (pl_link hh hE (2 * n) (Nat.le_refl _)) fun p1 p2 p3 => ?_
  rw [toks_link hh hE (2 * n) (Nat.le_refl _), p1, p2, p3, hi_link hh, la_link hh, ris_link hh, fal_link hh, max_link hh, hh (2 * n) (Nat.le_refl _)]
  refine ⟨eqNL_eq c1, eqSL_eq c2, eqNL_eq c3, eqNL_eq c4, ?_, fun i hi => steps_zero F i hi, fun t _ i hi => steps_next F t i hi, fun t ht => ?_⟩
  · have := Nat.eq_of_beq_eq_true c5
    lia
  · have r := lift_row F hh hb tw hn hT
    have := unl_go F (n / 2 + 2) 0 _ r c6 t ht
    rw [Nat.zero_add] at this
    have e : (((plN n (nth hl) (2 * n)).ap.map Int.ofNat).filter fun x => decide (x ≤ 2 * (t : Int))).length = leN (plN n (nth hl) (2 * n)).ap (2 * t) := by
      unfold leN
      rw [filt_eq, List.filter_map, List.length_map]
      congr 1
      refine List.filter_congr fun x _ => ?_
      rw [Bool.eq_iff_iff]
      show decide ((x : Int) ≤ 2 * (t : Int)) = true ↔ _
      rw [decide_eq_true_iff]
      constructor
      · intro q; exact Nat.ble_eq_true_of_le (by lia)
      · intro q; have := Nat.le_of_ble_eq_true q; lia
    rw [e, Int.fdiv_eq_ediv_of_nonneg _ (by decide)]
    lia
end
end Mine

namespace Mine
/-- the steps of paints: 0, 1, 2 for down, level, up -/
noncomputable def nxt (n i : Nat) : Nat := if i + 1 = n then 0 else i + 1
noncomputable def esAt (n : Nat) (q : Nat → Nat) (i : Nat) : Nat := (q (nxt n i) + 4 - q i) % 3
theorem step_es {n : Nat} {q : Nat → Nat} (hq : ∀ i, q i < 3) (i : Nat) : stepAt n (fun i => (q i : Int)) i = (esAt n q i : Int) - 1 := by
  unfold stepAt esAt nxt
  rw [Int.fmod_eq_emod_of_nonneg _ (by decide)]
  have h1 := hq i
  have h2 := hq (if i + 1 = n then 0 else i + 1)
  dsimp only
  lia
theorem nth_get : ∀ (l : List Nat) (i : Nat), nth l i = l.getD i 0
  | [], i => by simp [nth]
  | a :: l, 0 => rfl
  | a :: l, i + 1 => by rw [nth_succ, nth_get l i]; simp
theorem scan_zero (l : List Nat) (a : Nat) : nth (scan l a) 0 = a := by cases l <;> rfl
theorem scan_succ : ∀ (l : List Nat) (a i : Nat), i < l.length → nth (scan l a) (i + 1) = nth (scan l a) i + nth l i - 1
  | [], _, _, h => absurd h (Nat.not_lt_zero _)
  | e :: l, a, 0, _ => scan_zero l _
  | e :: l, a, i + 1, h => by
    show nth (scan l (a + e - 1)) (i + 1) = nth (scan l (a + e - 1)) i + nth l i - 1
    exact scan_succ l _ i (by simpa using h)

section
variable {n : Nat} {q : Nat → Nat} (hq : ∀ i, q i < 3) (hn : 0 < n)
noncomputable abbrev pOf (q : Nat → Nat) : Nat → Int := fun i => (q i : Int)
theorem edge_diff (i : Nat) : edgeAt n (pOf q) i = hAt n (pOf q) (i + 1) - hAt n (pOf q) i := by
  show _ = hAt n (pOf q) i + edgeAt n (pOf q) i - hAt n (pOf q) i
  lia
include hq
theorem hAt_succ (i : Nat) : hAt n (pOf q) (i + 1) = hAt n (pOf q) i + ((esAt n q (if i < n then i else i - n) : Int) - 1) := by
  show hAt n (pOf q) i + stepAt n (pOf q) (if i < n then i else i - n) = _
  rw [step_es hq]
theorem hAt_mod : ∀ i, i ≤ n → hAt n (pOf q) i % 3 = q (if i = n then 0 else i)
  | 0, _ => by
    show (q 0 : Int) % 3 = _
    have := hq 0
    by_cases h : 0 = n
    · rw [if_pos h]; lia
    · rw [if_neg h]; lia
  | i + 1, h => by
    have ih := hAt_mod i (by lia)
    rw [if_neg (by lia)] at ih
    rw [hAt_succ hq, if_pos (by lia)]
    unfold esAt nxt
    have h1 := hq i
    have h2 := hq (if i + 1 = n then 0 else i + 1)
    generalize q (if i + 1 = n then 0 else i + 1) = y at *
    lia
include hn
theorem hAt_fit : Fit n (pOf q) (hAt n (pOf q)) := by
  refine ⟨hn, fun j hj => ?_, ?_, fun i hi => ?_⟩
  · rw [hAt_succ hq]
    unfold esAt
    lia
  · have e := hAt_mod hq n (Nat.le_refl n)
    rw [if_pos rfl] at e
    have e0 := hAt_mod (n := n) hq 0 (by lia)
    rw [if_neg (by lia)] at e0
    lia
  · have e := hAt_mod (n := n) hq i (by lia)
    rw [if_neg (by lia)] at e
    exact e
theorem hAt_twice : ∀ r, r ≤ n → hAt n (pOf q) (n + r) = hAt n (pOf q) r + (hAt n (pOf q) n - hAt n (pOf q) 0)
  | 0, _ => by rw [Nat.add_zero]; lia
  | r + 1, h => by
    have ih := hAt_twice r (by lia)
    rw [show n + (r + 1) = (n + r) + 1 from rfl, hAt_succ hq, hAt_succ hq r, ih, if_neg (by lia), if_pos (by lia), show n + r - n = r from by lia]
    lia
omit hn
theorem scan_link {es : List Nat} (hes : ∀ i, i < n → es.getD i 0 = esAt n q i) (hl : es.length = n) : ∀ j, j ≤ 2 * n → (j ≤ 19 → 20 ≤ nth (scan (es ++ es) 20) j + j ∧ nth (scan (es ++ es) 20) j ≤ 20 + j) ∧ (j ≤ 19 → hAt n (pOf q) j = (nth (scan (es ++ es) 20) j : Int) - (20 - (q 0 : Int)))
  | 0, _ => by
    rw [scan_zero]
    refine ⟨fun _ => by lia, fun _ => ?_⟩
    show (q 0 : Int) = _
    lia
  | j + 1, hj => by
    refine xA (scan_link hes hl j (by lia)) fun h1 h2 => ?_
    rw [scan_succ _ _ _ (by rw [List.length_append]; lia), hAt_succ hq]
    have e : nth (es ++ es) j = esAt n q (if j < n then j else j - n) := by
      rw [nth_get]
      by_cases h : j < n
      · rw [if_pos h, ← hes j h, List.getD_eq_getElem?_getD, List.getD_eq_getElem?_getD, List.getElem?_append_left (by lia)]
      · rw [if_neg h, ← hes (j - n) (by lia), List.getD_eq_getElem?_getD, List.getD_eq_getElem?_getD, List.getElem?_append_right (by lia), hl]
    rw [e]
    have hlt : esAt n q (if j < n then j else j - n) < 3 := Nat.mod_lt _ (by decide)
    generalize esAt n q (if j < n then j else j - n) = x at *
    refine ⟨fun hj => ?_, fun hj => ?_⟩
    · have := h1 (by lia); lia
    · have a := h1 (by lia); have b := h2 (by lia); lia
end

theorem mem_qs : ∀ (l : List Nat), (∀ x ∈ l, x < 3) → l ∈ qs l.length
  | [], _ => List.mem_singleton.mpr rfl
  | x :: l, h => by
    refine List.mem_flatMap.mpr ⟨l, mem_qs l fun y hy => h y (List.mem_cons_of_mem _ hy), ?_⟩
    have := h x List.mem_cons_self
    match x, this with
    | 0, _ => simp
    | 1, _ => simp
    | 2, _ => simp
    | x + 3, h => exact absurd h (by lia)
theorem chk_of {m : Nat} (h : chkAll m = true) {l : List Nat} {e : Nat} (hl : l.length = m) (h3 : ∀ x ∈ l, x < 3) (he : e = (m + 1 + 2 * l.foldl (· + ·) 0) % 3) : chk (m + 1) (scan (e :: l ++ (e :: l)) 20) = true := by
  have := List.all_eq_true.mp h l (by rw [← hl]; exact mem_qs l h3)
  rw [fzN_eq, fzNL_eq, ← he] at this
  exact this

theorem es_get (n : Nat) (f : Nat → Nat) {i : Nat} (hi : i < n) : (tab n f).getD i 0 = f i := by
  unfold tab
  rw [List.getD_eq_getElem?_getD, List.getElem?_map, List.getElem?_range hi]; rfl
theorem tele {a b d x s : Nat} {k : Int} (h : ∃ m : Int, (s : Int) = b - a + k + 3 * m) (hx : x = (d + 4 - b) % 3) (hb : b < 3) : ∃ m : Int, ((s + x : Nat) : Int) = d - a + (k + 1) + 3 * m := by
  (refine xE h ?_; clear h; intro m e)
  refine ⟨m + 1 - ((d + 4 - b) / 3 : Nat), ?_⟩
  lia
theorem tele0 (a : Nat) : ∃ m : Int, ((0 : Nat) : Int) = (a : Int) - a + 0 + 3 * m := ⟨0, by lia⟩
theorem tele_end {a b s n : Nat} {k m : Int} (h : (s : Int) = b - a + k + 3 * m) (hk : k = (n : Int) - 1) (hb : b < 3) : (a + 4 - b) % 3 = (n + 2 * s) % 3 := by lia
theorem chk_es {n : Nat} (hn : okN n) {q : Nat → Nat} (hq : ∀ i, q i < 3) : chk n (scan (tab n (esAt n q) ++ tab n (esAt n q)) 20) = true := by
  have lt : ∀ i, esAt n q i < 3 := fun i => Nat.mod_lt _ (by decide)
  have h3 : ∀ (k : Nat), ∀ x ∈ tab k (fun i => esAt n q (i + 1)), x < 3 := fun k x hx => by
    (refine xEA (mem_tab hx) fun i _ qq0 => ?_; subst qq0); exact lt _
  have q0 := hq 0; have q1 := hq 1; have q2 := hq 2; have q3 := hq 3; have q4 := hq 4; have q5 := hq 5; have q6 := hq 6
  rcases hn with rfl | rfl | rfl | rfl
  · exact chk_of chk4 (l := tab 3 fun i => esAt 4 q (i + 1)) (e := esAt 4 q 0) rfl (h3 3) (by
      have h := tele (d := q 0) (tele (d := q 3) (tele (d := q 2) (tele0 (q 1)) rfl q1) rfl q2) rfl q3
      (refine xE h ?_; clear h; intro m h)
      show (q 1 + 4 - q 0) % 3 = (4 + 2 * (0 + (q 2 + 4 - q 1) % 3 + (q 3 + 4 - q 2) % 3 + (q 0 + 4 - q 3) % 3)) % 3
      exact tele_end h rfl q0)
  · exact chk_of chk5 (l := tab 4 fun i => esAt 5 q (i + 1)) (e := esAt 5 q 0) rfl (h3 4) (by
      have h := tele (d := q 0) (tele (d := q 4) (tele (d := q 3) (tele (d := q 2) (tele0 (q 1)) rfl q1) rfl q2) rfl q3) rfl q4
      (refine xE h ?_; clear h; intro m h)
      show (q 1 + 4 - q 0) % 3 = (5 + 2 * (0 + (q 2 + 4 - q 1) % 3 + (q 3 + 4 - q 2) % 3 + (q 4 + 4 - q 3) % 3 + (q 0 + 4 - q 4) % 3)) % 3
      exact tele_end h rfl q0)
  · exact chk_of chk6 (l := tab 5 fun i => esAt 6 q (i + 1)) (e := esAt 6 q 0) rfl (h3 5) (by
      have h := tele (d := q 0) (tele (d := q 5) (tele (d := q 4) (tele (d := q 3) (tele (d := q 2) (tele0 (q 1)) rfl q1) rfl q2) rfl q3) rfl q4) rfl q5
      (refine xE h ?_; clear h; intro m h)
      show (q 1 + 4 - q 0) % 3 = (6 + 2 * (0 + (q 2 + 4 - q 1) % 3 + (q 3 + 4 - q 2) % 3 + (q 4 + 4 - q 3) % 3 + (q 5 + 4 - q 4) % 3 + (q 0 + 4 - q 5) % 3)) % 3
      exact tele_end h rfl q0)
  · exact chk_of chk7 (l := tab 6 fun i => esAt 7 q (i + 1)) (e := esAt 7 q 0) rfl (h3 6) (by
      have h := tele (d := q 0) (tele (d := q 6) (tele (d := q 5) (tele (d := q 4) (tele (d := q 3) (tele (d := q 2) (tele0 (q 1)) rfl q1) rfl q2) rfl q3) rfl q4) rfl q5) rfl q6
      (refine xE h ?_; clear h; intro m h)
      show (q 1 + 4 - q 0) % 3 = (7 + 2 * (0 + (q 2 + 4 - q 1) % 3 + (q 3 + 4 - q 2) % 3 + (q 4 + 4 - q 3) % 3 + (q 5 + 4 - q 4) % 3 + (q 6 + 4 - q 5) % 3 + (q 0 + 4 - q 6) % 3)) % 3
      exact tele_end h rfl q0)
/-- the plain law -/
theorem plain_law {n : Nat} (hn : okN n) {q : Nat → Nat} (hq : ∀ i, q i < 3) :
    (meltN (2 * n) ([], toksOf (edgeAt n (pOf q)) (2 * n))).1 = ((risingL n (hAt n (pOf q))).filter fun j => !(higherL n (hAt n (pOf q))).contains j).map (· % 3) ∧ (meltN (2 * n) ([], toksOf (edgeAt n (pOf q)) (2 * n))).2 = leftSg (higherL n (hAt n (pOf q))) (lastingL n (hAt n (pOf q))) ∧
    (plAt n (edgeAt n (pOf q)) (2 * n)).ask = higherL n (hAt n (pOf q)) ∧ (plAt n (edgeAt n (pOf q)) (2 * n)).st = lastingL n (hAt n (pOf q)) ∧ ((lastingL n (hAt n (pOf q))).length : Int) = maxAll n (hAt n (pOf q)) - hAt n (pOf q) (2 * n) ∧
    Steps n (pOf q) (hAt n (pOf q)) (risingL n (hAt n (pOf q))) (fallingL n (hAt n (pOf q))) (plAt n (edgeAt n (pOf q)) (2 * n)).ap := by
  have h0 : 0 < n := by rcases hn with rfl | rfl | rfl | rfl <;> decide
  have h7 := pow_le hn
  have hT : n / 2 + 2 ≤ n := by rcases hn with rfl | rfl | rfl | rfl <;> decide
  have sl := scan_link (n := n) hq (es := tab n (esAt n q)) (fun i hi => es_get n _ hi) tab_len
  exact plain (hAt_fit hq h0) (fun j hj => (sl j hj).2 (by lia)) (fun j hj => (sl j (by lia)).1 (by lia)) (hAt_twice hq h0) h7 hT (fun j _ => edge_diff j) rfl (chk_es hn hq)
end Mine

namespace Mine
open PySem PyProof.Rows PySem.W PySem.SeqAt PySem.Builtin

/-- what is known of the names -/
noncomputable def Has (ρ : Rho) (L : List (Str × V)) : Prop := ∀ p ∈ L, ρ p.1 = some p.2
theorem Has.get {ρ : Rho} {L : List (Str × V)} (h : Has ρ L) {x : Str} {v : V} (e : L.lookup x = some v) : ρ x = some v := h _ (mem_look e)
theorem Has.upd {ρ : Rho} {L : List (Str × V)} (h : Has ρ L) {x : Str} {v : V} (hx : (L.all fun p => p.1 != x) = true) : Has (upd ρ x v) ((x, v) :: L) := fun p hp => by
  rcases List.mem_cons.mp hp with rfl | hp
  · exact upd_eq
  · have := List.all_eq_true.mp hx p hp
    exact (upd_ne (by simpa using this)).trans (h p hp)
theorem Has.keep {ρ ρ' : Rho} {L : List (Str × V)} (h : Has ρ L) {ns : List Str} (e : ∀ y, y ∉ ns → ρ' y = ρ y) (hx : (L.all fun p => !ns.contains p.1) = true) : Has ρ' L := fun p hp => by
  have := List.all_eq_true.mp hx p hp
  rw [e p.1 (by simpa using this)]
  exact h p hp

section
variable {g : Gl} {K : Nat} {env : Env} {A : Around} {E : Value → Shared → Prop} {Q : Flow → Shared → Prop} {g0 : Gd} {Fg F : Fz} {s : Shared} {ρ : Rho} {ω : Omg} {i : Nat}
theorem drop_at {st : Stmt} (h : lawB[i]? = some st) : lawB.drop i = st :: lawB.drop (i + 1) := by
  obtain ⟨h1, h2⟩ := List.getElem?_eq_some_iff.mp h
  rw [List.drop_eq_getElem_cons h1, h2]
/-- one statement run -/
theorem cex {st : Stmt} (hst : lawB[i]? = some st) (rm : Room K A) {ρ1 : Rho} {ω1 : Omg} (h : Ex g dsP K env ρ ω st (.nx ρ1 ω1)) (y : Fs g dsP g0 Fg env ρ ω F s)
    (nx : ∀ F' s', Fs g dsP g0 Fg env ρ1 ω1 F' s' → wpAny (model g.prog g.w) A (execs (lawB.drop (i + 1)) env) Q E s') : wpAny (model g.prog g.w) A (execs (lawB.drop i) env) Q E s := by
  rw [drop_at hst]
  exact wpAny_execs_cons (wpAny_mono (h A E g0 Fg F s rm y) (fun fl s' hx => by (refine xAE hx ?_; clear hx; intro qq0 F' x'; subst qq0); exact nx F' s' x') fun _ _ h => h)
theorem cst (W : Wf g dsP (Cx K) K) (hE : EnvX env lawSc) (rm : Room K A) {ρ1 : Rho} {ω1 : Omg} (h : st K i ρ ω = some (.nx ρ1 ω1)) (y : Fs g dsP g0 Fg env ρ ω F s)
    (nx : ∀ F' s', Fs g dsP g0 Fg env ρ1 ω1 F' s' → wpAny (model g.prog g.w) A (execs (lawB.drop (i + 1)) env) Q E s') : wpAny (model g.prog g.w) A (execs (lawB.drop i) env) Q E s := by
  unfold st at h
  cases hs : lawB[i]? with
  | none => rw [hs] at h; cases h
  | some stm =>
    rw [hs, Option.bind_some] at h
    exact cex hs rm (ex_sound W hE 60 _ _ _ _ _ h) y nx
theorem casg (W : Wf g dsP (Cx K) K) (hE : EnvX env lawSc) (rm : Room K A) {x : Str} {v : V} {L : List (Str × V)} (h : st K i ρ ω = some (.nx (upd ρ x v) (era ω x))) (hω : ω x = none) (hL : Has ρ L) (hx : (L.all fun p => p.1 != x) = true) (y : Fs g dsP g0 Fg env ρ ω F s)
    (nx : ∀ ρ1 F' s', Has ρ1 ((x, v) :: L) → Fs g dsP g0 Fg env ρ1 ω F' s' → wpAny (model g.prog g.w) A (execs (lawB.drop (i + 1)) env) Q E s') : wpAny (model g.prog g.w) A (execs (lawB.drop i) env) Q E s := by
  rw [era_none hω] at h
  exact cst W hE rm h y fun F' s' y' => nx _ F' s' (hL.upd hx) y'
end

theorem stf {k i : Nat} {ρ : Rho} {ω : Omg} {xs : List (Str × V)} {x : Str} {v : V} (h : st k i (form xs ρ) ω = some (.nx (upd (form xs ρ) x v) (era ω x))) (hf : ∀ p ∈ xs, ρ p.1 = some p.2) : st k i ρ ω = some (.nx (upd ρ x v) (era ω x)) := by
  rwa [form_eq hf] at h

/-- the law's numbers -/
noncomputable def szOf (a : Int) : Nat := 4 + (a.fmod 4).toNat
theorem szOf_ok (a : Int) : okN (szOf a) ∧ (4 + a.fmod 4) = (szOf a : Int) := by
  have h1 := Int.fmod_nonneg_of_pos a (show (0 : Int) < 4 by decide)
  have h2 := Int.fmod_lt_of_pos a (show (0 : Int) < 4 by decide)
  unfold szOf okN
  lia
noncomputable def grOf (a : Int) : Int := (a.fdiv 4).fmod 2
theorem grOf_ok (a : Int) : okG (grOf a) := by
  have h1 := Int.fmod_nonneg_of_pos (a.fdiv 4) (show (0 : Int) < 2 by decide)
  have h2 := Int.fmod_lt_of_pos (a.fdiv 4) (show (0 : Int) < 2 by decide)
  unfold grOf okG
  lia
noncomputable def nuOf (n : Nat) (b : Int) : Nat := (b.fmod ((16 : Int) ^ n)).toNat
theorem nuOf_ok (n : Nat) (b : Int) : nuOf n b < 16 ^ n ∧ b.fmod ((16 : Int) ^ n) = (nuOf n b : Int) := by
  have hp : (0 : Int) < (16 : Int) ^ n := Int.pow_pos (by decide)
  have h1 := Int.fmod_nonneg_of_pos b hp
  have h2 := Int.fmod_lt_of_pos b hp
  have e : ((16 ^ n : Nat) : Int) = (16 : Int) ^ n := by rw [Int.natCast_pow]; rfl
  unfold nuOf
  lia
noncomputable def figF (n N i : Nat) : Nat := (digs n N).getD i 0
theorem figF_eq {n N i : Nat} (hi : i < n) : figF n N i = figN n N i := by unfold figF; rw [digs_tab, es_get n _ hi]
theorem figF_lt (n N i : Nat) : figF n N i < 16 := by
  unfold figF
  rw [List.getD_eq_getElem?_getD]
  cases h : (digs n N)[i]? with
  | none => simp
  | some d => exact digs_lt n N d (List.mem_of_getElem? h)
noncomputable def figI (n N : Nat) : Nat → Int := fun i => (figF n N i : Int)
noncomputable def qOf (n N : Nat) : Nat → Nat := fun i => figF n N i % 3
noncomputable def shI (n N : Nat) : Nat → Int := fun i => ((figF n N i / 3 : Nat) : Int)
theorem qOf_lt (n N i : Nat) : qOf n N i < 3 := Nat.mod_lt _ (by decide)
theorem paint_eq (n N : Nat) : paintAt (figI n N) = pOf (qOf n N) := by
  funext i
  show ((figF n N i : Int)).fmod 3 = ((figF n N i % 3 : Nat) : Int)
  rw [Int.fmod_eq_emod_of_nonneg _ (by decide)]; lia
theorem shade_eq (n N : Nat) : (fun i => (figI n N i).fdiv 3) = shI n N := by
  funext i
  show ((figF n N i : Int)).fdiv 3 = ((figF n N i / 3 : Nat) : Int)
  rw [Int.fdiv_eq_ediv_of_nonneg _ (by decide)]; lia
theorem figs_eq (n N : Nat) : tab n (figAt n (N : Int)) = tab n (figI n N) := tab_congr fun i hi => by
  rw [figAt_nat]; show _ = (figF n N i : Int); rw [figF_eq hi]
theorem shI_ok (n N i : Nat) : okS (shI n N i) := okS_div (figF_lt n N i)
theorem pOf_ok (n N i : Nat) : okP (pOf (qOf n N) i) := okP_mod _
theorem ringV_eq (n N : Nat) : ringV n N = tab n fun i => colV (pOf (qOf n N) i) (shI n N i) := by
  unfold ringV
  rw [digs_tab, tab_map]
  refine tab_congr fun i hi => ?_
  rw [← figF_eq hi]; rfl

theorem st7' (k : Nat) {n N : Nat} (hn : okN n) {ρ : Rho} (hf : ρ "figures" = some (intsV (tab n (figI n N)))) : ∃ ρ' ω', st (k + 1) 7 (updO ρ "heights" none) (ownTo omg0 "heights" (.lst [.int ((figI n N 0).fmod 3)])) = some (.nx ρ' ω') ∧
    (∀ y, y ∉ (["step", "heights"] : List Str) → ρ' y = ρ y) ∧ ω' "heights" = some (.lst ((tab (2 * n + 1) (hAt n (pOf (qOf n N)))).map .int)) ∧ ∀ y : Str, y ≠ "heights" → ω' y = none := by
  have h := st7 k ρ (figI n N) hn
  have hform : form [("figures", intsV (tab n (figI n N)))] (updO ρ "heights" none) = updO ρ "heights" none := form1 ((if_neg (by decide)).trans hf)
  rw [hform, paint_eq] at h
  refine ⟨_, _, h, fun y hy => ?_, ?_, fun y hy => ?_⟩
  · have h1 : y ≠ ("step" : Str) := fun q => hy (by rw [q]; decide)
    have h2 : y ≠ ("heights" : Str) := fun q => hy (by rw [q]; decide)
    exact (updL_ne h1).trans (if_neg h2)
  · have h0 : 0 < n := by rcases hn with rfl | rfl | rfl | rfl <;> decide
    obtain ⟨m, hm⟩ : ∃ m, 2 * n = m + 1 := ⟨2 * n - 1, by lia⟩
    rw [hm, tab_succ]
    exact ownL_last
  · exact (ownL_ne hy).trans (if_neg hy)
theorem omg0_of {ω : Omg} {x : Str} (h : ∀ y, y ≠ x → ω y = none) : era ω x = omg0 := by
  funext y
  show (if y = x then none else ω y) = none
  split
  · rfl
  · rename_i hy; exact h y hy
end Mine

namespace Mine
set_option maxHeartbeats 1000000
open PySem PyProof.Rows PySem.W PySem.SeqAt PySem.Builtin

theorem all2 {x y : Str} {v u : V} {ρ : Rho} (h : ρ x = some v) (h' : ρ y = some u) : ∀ p ∈ [(x, v), (y, u)], ρ p.1 = some p.2 := by
  intro q hq
  simp only [List.mem_cons, List.not_mem_nil, or_false] at hq
  rcases hq with rfl | rfl
  · exact h
  · exact h'
theorem all1 {x : Str} {v : V} {ρ : Rho} (h : ρ x = some v) : ∀ p ∈ [(x, v)], ρ p.1 = some p.2 := by
  intro q hq
  rw [List.mem_singleton.mp hq]; exact h

section
variable {g : Gl} {K : Nat} {env : Env} {A : Around} {E : Value → Shared → Prop} {Q : Flow → Shared → Prop} {g0 : Gd} {Fg F : Fz} {s : Shared}
/-- up to the test of the names -/
theorem run_a (W : Wf g dsP (Cx (K + 10)) (K + 10)) (hE : EnvX env lawSc) (rm : Room (K + 10) A) {ns : List Int} (hl : ns.length ≤ 1000) (y : Fs g dsP g0 Fg env (rho ["script"] [intsV ns]) omg0 F s)
    (nx : ∀ (n N : Nat) (gr : Int) ρ F s, okN n → okG gr → Has ρ [("edges", intsV (tab (2 * n) (edgeAt n (pOf (qOf n N))))), ("told", .lst (tab n fun i => dueV (pOf (qOf n N) i) (shI n N i))), ("ring", .lst (tab n fun i => colV (pOf (qOf n N) i) (shI n N i))),
      ("lasting", nats (lastingL n (hAt n (pOf (qOf n N))))), ("higher", nats (higherL n (hAt n (pOf (qOf n N))))), ("falling", nats (fallingL n (hAt n (pOf (qOf n N))))), ("rising", nats (risingL n (hAt n (pOf (qOf n N))))), ("heights", intsV (tab (2 * n + 1) (hAt n (pOf (qOf n N))))),
      ("shades", intsV (tab n (shI n N))), ("figures", intsV (tab n (figI n N))), ("great", .int gr), ("size", .int n)] → Fs g dsP g0 Fg env ρ omg0 F s → wpAny (model g.prog g.w) A (execs (lawB.drop 16) env) Q E s) :
    wpAny (model g.prog g.w) A (execs lawB env) Q E s := by
  refine xEE (st0 (K + 9) hl) fun a b h0 => ?_
  have e0 : lawB = lawB.drop 0 := rfl
  rw [e0]
  refine cst W hE rm h0 y fun F s y => ?_
  refine xA (szOf_ok a) fun hn en => ?_
  have hg := grOf_ok a
  generalize hgr : grOf a = gr at hg
  generalize hnn : szOf a = n at hn en
  refine xA (nuOf_ok n b) fun hN eN => ?_
  generalize hNN : nuOf n b = N at hN eN
  have L0 : Has (upd (upd (rho ["script"] [intsV ns]) "first" (.int a)) "second" (.int b)) [("second", .int b), ("first", .int a)] := all2 upd_eq ((upd_ne (by decide)).trans upd_eq)
  generalize upd (upd (rho ["script"] [intsV ns]) "first" (.int a)) "second" (.int b) = ρ at L0 y
  have h1 := stf (st1 (K + 10) ρ omg0 a) (all1 (L0.get (by kernel_rfl)))
  rw [en] at h1
  refine casg W hE rm h1 rfl L0 (by kernel_rfl) y fun ρ F s L1 y => ?_
  have h2 := stf (st2 (K + 10) ρ omg0 a) (all1 (L1.get (by kernel_rfl)))
  rw [show (a.fdiv 4).fmod 2 = gr from hgr] at h2
  refine casg W hE rm h2 rfl L1 (by kernel_rfl) y fun ρ F s L2 y => ?_
  have h3 := stf (st3 (K + 10) ρ omg0 b hn) (all2 (L2.get (by kernel_rfl)) (L2.get (by kernel_rfl)))
  rw [eN] at h3
  refine casg W hE rm h3 rfl L2 (by kernel_rfl) y fun ρ F s L3 y => ?_
  have h4 := stf (st4 (K + 10) ρ omg0 (N : Int) hn) (all2 (L3.get (by kernel_rfl)) (L3.get (by kernel_rfl)))
  rw [figs_eq] at h4
  refine casg W hE rm h4 rfl L3 (by kernel_rfl) y fun ρ F s L4 y => ?_
  have h5 := stf (st5 (K + 10) ρ omg0 (figI n N) hn) (all1 (L4.get (by kernel_rfl)))
  rw [shade_eq] at h5
  refine casg W hE rm h5 rfl L4 (by kernel_rfl) y fun ρ F s L5 y => ?_
  have h6 := st6 (K + 10) ρ omg0 (figI n N) hn
  rw [form1 (L5.get (by kernel_rfl))] at h6
  refine cst W hE rm h6 y fun F s y => ?_
  refine xEEAAA (st7' (K + 9) (N := N) hn (ρ := ρ) (L5.get (by kernel_rfl))) fun ρ7 ω7 h7 k7 o7 n7 => ?_
  refine cst W hE rm h7 y fun F s y => ?_
  have L6 := L5.keep k7 (by kernel_rfl)
  obtain ⟨F, -, y⟩ := y.freeze o7
  rw [omg0_of n7] at y
  have L7 : Has (upd ρ7 "heights" (intsV (tab (2 * n + 1) (hAt n (pOf (qOf n N)))))) _ := L6.upd (x := "heights") (by kernel_rfl)
  change Fs g dsP g0 Fg env (upd ρ7 "heights" (intsV (tab (2 * n + 1) (hAt n (pOf (qOf n N)))))) omg0 F s at y
  generalize upd ρ7 "heights" (intsV (tab (2 * n + 1) (hAt n (pOf (qOf n N))))) = ρ at L7 y
  have h8 := stf (st8 (K + 10) ρ omg0 (hAt n (pOf (qOf n N))) hn) (all2 (L7.get (by kernel_rfl)) (L7.get (by kernel_rfl)))
  refine casg W hE rm h8 rfl L7 (by kernel_rfl) y fun ρ F s L8 y => ?_
  have h9 := stf (st9 (K + 10) ρ omg0 (hAt n (pOf (qOf n N))) hn) (all2 (L8.get (by kernel_rfl)) (L8.get (by kernel_rfl)))
  refine casg W hE rm h9 rfl L8 (by kernel_rfl) y fun ρ F s L9 y => ?_
  have h10 := stf (st10 (K + 10) ρ omg0 (hAt n (pOf (qOf n N))) hn) (all2 (L9.get (by kernel_rfl)) (L9.get (by kernel_rfl)))
  refine casg W hE rm h10 rfl L9 (by kernel_rfl) y fun ρ F s L10 y => ?_
  have h11 := stf (st11 (K + 10) ρ omg0 (hAt n (pOf (qOf n N))) hn) (all2 (L10.get (by kernel_rfl)) (L10.get (by kernel_rfl)))
  refine casg W hE rm h11 rfl L10 (by kernel_rfl) y fun ρ F s L11 y => ?_
  refine cst W hE rm (st12 (K + 10) ρ) y fun F s y => ?_
  have L12 : Has (updO ρ "ring" none) _ := L11.keep (ns := ["ring"]) (fun y hy => if_neg fun q => hy (by rw [q]; decide)) (by kernel_rfl)
  refine xEA (st13 (K + 8) (updO ρ "ring" none) hn hN (L12.get (by kernel_rfl)) (L12.get (by kernel_rfl))) fun ρ13 h13 k13 => ?_
  refine cst W hE rm h13 y fun F s y => ?_
  have L13 := L12.keep (ρ' := ρ13) (ns := ["letter"]) (fun y hy => k13 y fun q => hy (by rw [q]; decide)) (by kernel_rfl)
  obtain ⟨F, -, y⟩ := y.freeze (n := "ring") (if_pos rfl)
  rw [omg0_of (x := "ring") (ω := ownTo omg0 "ring" (.lst (ringV n N))) (fun y hy => if_neg hy), ringV_eq] at y
  have L14 := L13.upd (x := "ring") (v := .lst (tab n fun i => colV (pOf (qOf n N) i) (shI n N i))) (by kernel_rfl)
  generalize upd ρ13 "ring" (.lst (tab n fun i => colV (pOf (qOf n N) i) (shI n N i))) = ρ at L14 y
  have h14 := st14 (K + 8) ρ omg0 hn (pOf_ok n N) (shI_ok n N) (L14.get (by kernel_rfl))
  refine casg W hE rm h14 rfl L14 (by kernel_rfl) y fun ρ F s L15 y => ?_
  have h15 := st15 (K + 8) ρ omg0 hn (pOf_ok n N) (shI_ok n N) (L15.get (by kernel_rfl))
  refine casg W hE rm h15 rfl L15 (by kernel_rfl) y fun ρ F s L16 y => ?_
  refine nx n N gr ρ F s hn hg (fun p hp => ?_) y
  simp only [List.mem_cons, List.not_mem_nil, or_false] at hp
  rcases hp with rfl | rfl | rfl | rfl | rfl | rfl | rfl | rfl | rfl | rfl | rfl | rfl <;> exact L16.get (by kernel_rfl)
end
end Mine

namespace Mine
set_option maxHeartbeats 1000000
open PySem PyProof.Rows PySem.W PySem.SeqAt PySem.Builtin

theorem high_lt {n : Nat} (hn : okN n) (H : Nat → Int) : (∀ j ∈ higherL n H, j < 14) ∧ (higherL n H).length ≤ 14 := by
  have h14 := okN_14 hn
  refine ⟨fun j hj => ?_, ?_⟩
  · have := mem_lt (List.mem_filter.mp hj).1; lia
  · refine Nat.le_trans (List.length_filter_le _ _) (Nat.le_trans (List.length_filter_le _ _) ?_)
    rw [List.length_range]; lia
theorem last_lt {n : Nat} (hn : okN n) (H : Nat → Int) : (∀ j ∈ lastingL n H, j < 14) ∧ (lastingL n H).length ≤ 14 := by
  have h14 := okN_14 hn
  refine ⟨fun j hj => ?_, ?_⟩
  · have := mem_lt (List.mem_filter.mp hj).1; lia
  · refine Nat.le_trans (List.length_filter_le _ _) (Nat.le_trans (List.length_filter_le _ _) ?_)
    rw [List.length_range]; lia
theorem ris_lt {n : Nat} (hn : okN n) (H : Nat → Int) : (∀ j ∈ risingL n H, j < 14) ∧ (risingL n H).length ≤ 14 := by
  have h14 := okN_14 hn
  refine ⟨fun j hj => ?_, ?_⟩
  · have := mem_lt hj; lia
  · refine Nat.le_trans (List.length_filter_le _ _) ?_
    rw [List.length_range]; lia
theorem fal_len {n : Nat} (hn : okN n) (H : Nat → Int) : (fallingL n H).length ≤ 14 := by
  have h14 := okN_14 hn
  refine Nat.le_trans (List.length_filter_le _ _) ?_
  rw [List.length_range]; lia

theorem d19 : ∃ p p1 p2 pos, lawB[19]? = some (.Assign [.Name "pile" p] (.Call (.Name "_Accumulator" p1) [] [] p2) pos) ∧ lawSc.lookup ("pile" : Str) = some .local ∧ lawSc.lookup ("_Accumulator" : Str) = some .globalImplicit := ⟨_, _, _, _, rfl, by kernel_rfl, by kernel_rfl⟩
theorem st20 (k : Nat) (ρ : Rho) (ω : Omg) : st k 20 ρ ω = some (.nx (updO ρ "asking" none) (ownTo ω "asking" (.lst []))) := by kernel_rfl
theorem st21 (k : Nat) (ρ : Rho) (ω : Omg) : st k 21 ρ ω = some (.nx (updO ρ "apart" none) (ownTo ω "apart" (.lst []))) := by kernel_rfl
theorem st27 (k : Nat) (ρ : Rho) (ω : Omg) : st k 27 ρ ω = some (.rt (.bool true)) := by kernel_rfl
theorem len28 : lawB.drop 28 = [] := by kernel_rfl

section
variable {g : Gl} {K : Nat} {env : Env} {A : Around} {E : Value → Shared → Prop} {Q : Flow → Shared → Prop} {g0 : Gd} {Fg F : Fz} {s : Shared}
/-- from the names' test up to the pile's text -/
theorem run_b (G : GlP g) (B : Base g dsP gvP) (hE : EnvX env lawSc) (hK : 110 ≤ K + 10) (rm : Room (K + 10) A) {n N : Nat} {gr : Int} {ρ : Rho} (hn : okN n) (hg : okG gr) (h : Has ρ [("edges", intsV (tab (2 * n) (edgeAt n (pOf (qOf n N))))), ("told", .lst (tab n fun i => dueV (pOf (qOf n N) i) (shI n N i))), ("ring", .lst (tab n fun i => colV (pOf (qOf n N) i) (shI n N i))),
      ("lasting", nats (lastingL n (hAt n (pOf (qOf n N))))), ("higher", nats (higherL n (hAt n (pOf (qOf n N))))), ("falling", nats (fallingL n (hAt n (pOf (qOf n N))))), ("rising", nats (risingL n (hAt n (pOf (qOf n N))))), ("heights", intsV (tab (2 * n + 1) (hAt n (pOf (qOf n N))))),
      ("shades", intsV (tab n (shI n N))), ("figures", intsV (tab n (figI n N))), ("great", .int gr), ("size", .int n)]) (y : Fs g dsP g0 Fg env ρ omg0 F s)
    (nx : ∀ ρ ω F s, Has ρ (("apart", intsV (plAt n (edgeAt n (pOf (qOf n N))) (2 * n)).ap) :: ("asking", nats (plAt n (edgeAt n (pOf (qOf n N))) (2 * n)).ask) :: [("edges", intsV (tab (2 * n) (edgeAt n (pOf (qOf n N))))), ("told", .lst (tab n fun i => dueV (pOf (qOf n N) i) (shI n N i))), ("ring", .lst (tab n fun i => colV (pOf (qOf n N) i) (shI n N i))), ("lasting", nats (lastingL n (hAt n (pOf (qOf n N))))), ("higher", nats (higherL n (hAt n (pOf (qOf n N))))), ("falling", nats (fallingL n (hAt n (pOf (qOf n N))))), ("rising", nats (risingL n (hAt n (pOf (qOf n N))))), ("heights", intsV (tab (2 * n + 1) (hAt n (pOf (qOf n N))))), ("shades", intsV (tab n (shI n N))), ("figures", intsV (tab n (figI n N))), ("great", .int gr), ("size", .int n)]) → ω "pile" = some (.acc 158 ((plAt n (edgeAt n (pOf (qOf n N))) (2 * n)).st.map tupOf)) → (∀ x : Str, x ≠ "pile" → ω x = none) → Fs g dsP g0 Fg env ρ ω F s → wpAny (model g.prog g.w) A (execs (lawB.drop 23) env) Q E s) :
    wpAny (model g.prog g.w) A (execs (lawB.drop 16) env) Q E s := by
  have W := B.wf (K + 10)
  obtain ⟨pl1, pl2, -, -, -, -⟩ := plain_law hn (qOf_lt n N)
  generalize hH : hAt n (pOf (qOf n N)) = H at *
  generalize hEd : edgeAt n (pOf (qOf n N)) = Ed at *
  refine xA (ris_lt hn H) fun r1 r2 => ?_
  refine xA (high_lt hn H) fun i1 i2 => ?_
  refine xA (last_lt hn H) fun a1 a2 => ?_
  have h16 := st16 (K + 8) ρ hn Ed hg (h.get (by kernel_rfl)) (h.get (by kernel_rfl))
  refine cst W hE rm h16 y fun F s y => ?_
  have L1 := (h.upd (x := "names") (v := .lst ((meltN (2 * n) ([], toksOf Ed (2 * n))).1.map nameOf)) (by kernel_rfl)).upd (x := "text") (v := .str (strS (baseOf gr) (meltN (2 * n) ([], toksOf Ed (2 * n))).2)) (by kernel_rfl)
  generalize upd (upd ρ "names" (.lst ((meltN (2 * n) ([], toksOf Ed (2 * n))).1.map nameOf))) "text" (.str (strS (baseOf gr) (meltN (2 * n) ([], toksOf Ed (2 * n))).2)) = ρ at L1 y
  have h17 := st17 (K + 10) ρ omg0 (hi := higherL n H) (la := lastingL n H) i1 i2 a2 (L1.get (by kernel_rfl)) (L1.get (by kernel_rfl))
  refine casg W hE rm h17 rfl L1 (by kernel_rfl) y fun ρ F s L2 y => ?_
  have h18 := st18 (K + 10) ρ omg0 hg r1 r2 i2 a2 pl1 pl2 (L2.get (by kernel_rfl)) (L2.get (by kernel_rfl)) (L2.get (by kernel_rfl)) (L2.get (by kernel_rfl)) (L2.get (by kernel_rfl)) (L2.get (by kernel_rfl))
  refine cst W hE rm h18 y fun F s y => ?_
  refine xEEEEAA d19 fun p p1 p2 pos h19 k1 k2 => ?_
  refine cex h19 rm (Ex.pileNew G (by lia) (.inl (by rw [hE.toEnvS.kindOf, k1])) (by rw [hE.toEnvS.kindOf, k2])) y fun F s y => ?_
  refine cst W hE rm (st20 (K + 10) _ _) y fun F s y => ?_
  refine cst W hE rm (st21 (K + 10) _ _) y fun F s y => ?_
  have L3 : Has (updO (updO (updO ρ "pile" none) "asking" none) "apart" none) _ := L2.keep (ns := ["pile", "asking", "apart"]) (fun y hy => (if_neg fun q => hy (by rw [q]; decide)).trans ((if_neg fun q => hy (by rw [q]; decide)).trans (if_neg fun q => hy (by rw [q]; decide)))) (by kernel_rfl)
  have hO : PlO ⟨[], [], []⟩ (ownTo (ownTo (ownTo omg0 "pile" (.acc 158 [])) "asking" (.lst [])) "apart" (.lst [])) :=
    ⟨(if_neg (by decide)).trans ((if_neg (by decide)).trans (if_pos rfl)), (if_neg (by decide)).trans (if_pos rfl), if_pos rfl, fun y h1 h2 h3 => (if_neg h3).trans ((if_neg h2).trans (if_neg h1))⟩
  generalize updO (updO (updO ρ "pile" none) "asking" none) "apart" none = ρ at L3 y
  generalize ownTo (ownTo (ownTo omg0 "pile" (.acc 158 [])) "asking" (.lst [])) "apart" (.lst []) = ω at hO y
  refine xEEEAAA (st22 G B hE hK hn Ed (L3.get (by kernel_rfl)) (L3.get (by kernel_rfl)) hO) fun stm ρ' ω' h22 hx hO' hk' => ?_
  refine cex h22 rm hx y fun F s y => ?_
  have L4 := L3.keep (ρ' := ρ') (ns := plNames) hk' (by kernel_rfl)
  obtain ⟨F, -, y⟩ := y.freeze hO'.ask
  have L5 := L4.upd (x := "asking") (v := nats (plAt n Ed (2 * n)).ask) (by kernel_rfl)
  obtain ⟨F, -, y⟩ := y.freeze (n := "apart") (l := (plAt n Ed (2 * n)).ap.map .int) ((if_neg (by decide)).trans hO'.ap)
  have L6 := L5.upd (x := "apart") (v := intsV (plAt n Ed (2 * n)).ap) (by kernel_rfl)
  refine nx _ _ _ _ (fun p hp => ?_) ((if_neg (by decide)).trans ((if_neg (by decide)).trans hO'.pile)) (fun x hx => ?_) y
  · simp only [List.mem_cons, List.not_mem_nil, or_false] at hp
    rcases hp with rfl | rfl | rfl | rfl | rfl | rfl | rfl | rfl | rfl | rfl | rfl | rfl | rfl | rfl <;> exact L6.get (by kernel_rfl)
  · show (if x = "apart" then none else if x = "asking" then none else ω' x) = none
    split
    · rfl
    · split
      · rfl
      · rename_i h1 h2; exact hO'.no x hx h2 h1
/-- from the pile's text to the end -/
theorem run_c (G : GlP g) (B : Base g dsP gvP) (hE : EnvX env lawSc) (hK : 110 ≤ K + 10) (rm : Room (K + 10) A) (bm : ∀ h, Sub Fg h → ∃ bm ob, BMod h mainGlobals g.mg bm ob) (hG : g0.G 127 = some tab0) (hF : Fg 127 = none) (hstr : g.mg "str" = none)
    {n N : Nat} {gr : Int} {ρ : Rho} {ω : Omg} (hn : okN n) (h : Has ρ [("apart", intsV (plAt n (edgeAt n (pOf (qOf n N))) (2 * n)).ap), ("asking", nats (plAt n (edgeAt n (pOf (qOf n N))) (2 * n)).ask), ("edges", intsV (tab (2 * n) (edgeAt n (pOf (qOf n N))))), ("told", .lst (tab n fun i => dueV (pOf (qOf n N) i) (shI n N i))), ("ring", .lst (tab n fun i => colV (pOf (qOf n N) i) (shI n N i))),
      ("lasting", nats (lastingL n (hAt n (pOf (qOf n N))))), ("higher", nats (higherL n (hAt n (pOf (qOf n N))))), ("falling", nats (fallingL n (hAt n (pOf (qOf n N))))), ("rising", nats (risingL n (hAt n (pOf (qOf n N))))), ("heights", intsV (tab (2 * n + 1) (hAt n (pOf (qOf n N))))),
      ("shades", intsV (tab n (shI n N))), ("figures", intsV (tab n (figI n N))), ("great", .int gr), ("size", .int n)])
    (hω : ω "pile" = some (.acc 158 ((plAt n (edgeAt n (pOf (qOf n N))) (2 * n)).st.map tupOf))) (hno : ∀ x : Str, x ≠ "pile" → ω x = none) (y : Fs g dsP g0 Fg env ρ ω F s) :
    wpAny (model g.prog g.w) A (execs (lawB.drop 23) env) (fun fl s' => ∃ more F', fl = .ret (.bool true) ∧ Mg Fg (tabG g0 (some { cls := .none, data := .fields more })) F' s') E s := by
  have W := B.wf (K + 10)
  have hs := hE.toEnvS
  have H : ∀ m, Sound g dsP (K + 10) (ev (Cx (K + 10)) m) := fun m => ev_sound W m
  obtain ⟨-, -, pl3, pl4, pl5, pl6⟩ := plain_law hn (qOf_lt n N)
  have apl := (plAt_ok n (edgeAt n (pOf (qOf n N))) (2 * n)).2.2.2
  have h14 := okN_14 hn
  refine xA (last_lt hn (hAt n (pOf (qOf n N)))) fun a1 a2 => ?_
  refine xEEEEEEEEE (st23 (K + 10) ρ pl3 a1 a2 (h.get (by kernel_rfl)) (h.get (by kernel_rfl)) (h.get (by kernel_rfl))) fun t1 t2 p1 p2 p3 p4 p5 p6 body qr0 => xAAA qr0 fun h23 m2 c1 c2 => ?_
  rw [drop_at h23]
  rw [pl4] at hω
  have hω2 : ω "pile" = some (.acc 158 (((lastingL n (hAt n (pOf (qOf n N)))).map fun j => (sp j, pct)).map fun p => V.tup [.str p.1, .str p.2])) := by rw [hω, List.map_map]; rfl
  refine wpAny_execs_cons (wpAny_mono (strIf G (fun h hh => bm h fun b o e => hh b o (y.mv.up b o e)) rm hK y hω2 (by rw [List.length_map]; lia) (fun p hp => ?_) hG hF (by decide) hstr (by rw [hs.kindOf]; kernel_rfl) m2 (evT_sound (H 58) hs c1) (H 58 _ _ _ _ _ c2 hs)) (fun fl s' hx => ?_) fun _ _ e => e)
  · (refine xEA (List.mem_map.mp hp) fun j hj qq0 => ?_; subst qq0)
    show (sp j).cps.size + 1 ≤ 1000
    unfold sp
    rw [List.size_toArray, List.length_replicate]
    have := a1 j hj; lia
  (refine xAEEA hx ?_; clear hx; intro qq1 F' o y' qr1; refine xE qr1 ?_; clear qr1; intro more qq2; subst qq1; subst qq2)
  show wpAny _ A (execs (lawB.drop 24) env) _ E s'
  have h24 := st24 (K + 10) ρ ω hn (f := figI n N) (d := figF n N 0) (figF_lt n N 0) rfl (h.get (by kernel_rfl))
  refine casg W hE rm h24 (hno _ (by decide)) h (by kernel_rfl) y' fun ρ F s L1 y => ?_
  refine xEEEEEEEEE (st25 (K + 9) ρ hn (figF_lt n N 0) (L1.get (by kernel_rfl)) (L1.get (by kernel_rfl)) pl5) fun p1 p2 p3 p4 p5 p6 e1 e2 body qr2 => xAAAA qr2 fun h25 g1 g2 g3 g4 => ?_
  have h25' := Ex.pcIf (g := g) (defs := dsP) (d := K + 10) (env := env) (p5 := p5) (p6 := p6) (body := body) (p4 := p4) (p1 := p1) G hK hω (by decide) g1 g2 (H 58 _ _ _ _ _ (by rw [List.length_map]; exact g3) hs) (evT_sound (H 58) hs g4)
  refine cex h25 rm h25' y fun F s y => ?_
  (refine xE (st26 (K + 7) hn (shI_ok n N) (pOf_ok n N) (Nat.le_trans (ris_lt hn _).2 (by decide)) (Nat.le_trans (fal_len hn _) (by decide)) (by lia) pl6 (ρ := ρ) (ω := ω) (fun x hx => hno x (fun q => by rw [q] at hx; revert hx; decide)) (L1.get (by kernel_rfl)) (L1.get (by kernel_rfl)) (L1.get (by kernel_rfl)) (L1.get (by kernel_rfl)) (L1.get (by kernel_rfl)) (L1.get (by kernel_rfl)) (L1.get (by kernel_rfl)) (L1.get (by kernel_rfl))) fun ρ' h26 => ?_)
  refine cst W hE rm h26 y fun F s y => ?_
  have h27 := st27 (K + 10) ρ' ω
  unfold st at h27
  cases hq : lawB[27]? with
  | none => rw [hq] at h27; cases h27
  | some stm =>
    rw [hq, Option.bind_some] at h27
    rw [drop_at hq]
    refine wpAny_execs_cons (wpAny_mono (ex_sound W hE 60 _ _ _ _ _ h27 A E _ Fg F s rm y) (fun fl s' hx => ?_) fun _ _ e => e)
    (refine xEEAA hx ?_; clear hx; intro v F' qq3 m r; subst qq3)
    cases r
    exact ⟨more, F', rfl, m⟩
end
end Mine

namespace Mine
set_option maxHeartbeats 1000000
open PySem PyProof.Rows PySem.W PySem.SeqAt PySem.Builtin

theorem law_at : ∃ fd, dsP[15]? = some fd ∧ fd.name = ("law" : Str) ∧ pnames fd.params = [("script" : Str)] ∧ fd.scope.names.lookup ("script" : Str) = some .local ∧ fd.scope.isCoroutine = false ∧ fd.scope.isGenerator = false ∧ isFunc fd.scope.kind = true :=
  ⟨_, rfl, by kernel_rfl, by kernel_rfl, by kernel_rfl, by kernel_rfl, by kernel_rfl, by kernel_rfl⟩
theorem ints_rd {F : Fz} {vs : List Value} {ns : List Int} (h : IntsAre vs ns) : RdL F vs (ns.map .int) := by
  induction h with
  | nil => exact .nil
  | cons n t r ih => exact .cons .int ih
theorem join {w : World} {mg mb : Str → Option Value} {s₁ : Shared} {fa x : Addr} {vs : List Value} {ns : List Int} {cl : Str → Option Addr} {mean : ExcName → Option Value} {args : List WData} {c : ClaimW} (G : Grd w mg mb s₁.heap) (hg : s₁.gens = #[]) (hmg : mg "law" = some (.ref fa))
    (hL : s₁.heap.IsList x vs.toArray) (hI : IntsAre vs ns) (hn : ns.length ≤ 63) (hr : ∀ cls, c.raises args cls = false) (hp : c.post args (.bool true) args = true) :
    codeAny (model PySem.Challenge.rw_xr0004_01.row.prog w) callerA (.call (.ref fa) ⟨[.ref x], []⟩) (GoodWG c cl mean args s₁) s₁ := by
  refine xEAAA law_at fun fd hfd f1 f2 qr0 => xAAA qr0 fun f3 f4 f5 f6 => ?_
  have hm : fd ∈ dsP := List.mem_of_getElem? hfd
  have hB : lawB = fd.body := by unfold lawB; rw [hfd]; rfl
  have hS : lawSc = fd.scope.names := by unfold lawSc; rw [hfd]; rfl
  refine xEEEEE (G.fn fd hm) fun a o pm code doc qr1 => xAAA qr1 fun h1 h2 h3 h4 => ?_
  rw [f1, hmg] at h1
  (injection h1 with h1; injection h1 with h1; subst h1)
  have hk := isFunc_eq f6
  have hrd : Rd (hid s₁.heap) (.ref x) (intsV ns) := by
    (refine xEAA hL ?_; clear hL; intro o ho hc qr2; refine xE qr2 ?_; clear qr2; intro k hd)
    exact .lst (hid_of (G.ne ho fun vs q => by rw [hd] at q; injection q) ho) hc hd (by rw [List.toList_toArray]; exact ints_rd hI)
  refine enter_def (g := lawG w mg mb) (defs := dsP) (d := 200) (n := "script") (y0 := intsV ns) (F := hid s₁.heap) (fd := fd) (E := fun _ _ => False) (fun v pm code doc => ?_) f3 f4 f5 hk ?_ G.pg (hid_sub _) G.lim hrd h2 h3 h4 (fun s fs rm => ?_)
  · have := bindOk fd hm [v] pm code doc (by rw [f2]; rfl)
    rw [f2] at this
    exact this
  · exact ⟨rfl, by decide +kernel, by decide +kernel, ⟨_, rfl⟩⟩
  have hE : EnvX (callEnvC (Calls.docDef fd.name fd.params fd.body fd.scope pm code doc) s₁.heap.objs.size fa) lawSc := by rw [hS]; exact callEnv_X hk
  rw [← hB]
  refine wpAny_mono (run_a (K := 190) (G.base.wf 200) hE rm (by lia) fs fun n N gr ρ F s hn hg h y => run_b (K := 190) G.glp G.base hE (by decide) rm hn hg h y fun ρ ω F s h hω hno y =>
    run_c (K := 190) G.glp G.base hE (by decide) rm (fun h hh => ?_) G.tab rfl (G.mgn (by kernel_rfl)) hn h hω hno y) (fun fl s' hx => ?_) fun _ _ e => e
  · refine xEE G.bm fun bm ob M => ?_
    refine ⟨bm, ob, (G.ns G.gl).ns hh, M.name, M.ne, hh _ _ (hid_of (G.ne M.obj fun vs q => by rw [M.data] at q; injection q) M.obj), M.cls, M.dict, M.data⟩
  · (refine xEEA hx ?_; clear hx; intro more F' qq0 m; subst qq0)
    have kp := m.kp
    have tab := G.tab
    have ht : s'.heap.get? 127 = some { cls := .none, data := .fields more } := kp 127 _ rfl
    have old : ∀ b o, b ≠ 127 → s₁.heap.get? b = some o → s'.heap.get? b = some o := fun b o hb e => kp b o ((if_neg hb).trans e)
    refine ⟨.inl ⟨.bool true, .bool true, [], rfl, hr, .bool true, hp, fun _ => ⟨List.nodup_nil, fun _ h => nM h⟩⟩, ⟨fun b o e => ?_, fun b o e => ?_⟩, m.eq.1, m.eq.2 (by show AllBare s₁.gens; rw [hg]; exact AllBare.empty)⟩
    · by_cases hb : b = 127
      · subst hb
        rw [tab] at e
        (injection e with e; subst e)
        exact .inr (.inl ⟨(code131 w.params s₁.heap G.kk #[] tab True.intro).2.isCodeTable, rfl, #[], more, rfl, by simpa using ht⟩)
      · exact .inl (old b o hb e)
    · by_cases hb : b = 127
      · exact ⟨_, by rw [hb]; exact ht⟩
      · exact ⟨o, old b o hb e⟩
noncomputable abbrev toFd (r : DefRec) : Fd := ⟨r.name, r.params, r.body, r.scope⟩
theorem fn_of {p : Program} {loose : List Str} {mean : ExcName → Option Value} {mg mb : Str → Option Value} {h : Heap} (T : Top p loose mean mg mb h) (e : dsP = ((recsOf p).map toFd).drop 1) :
    ∀ d ∈ dsP, ∃ a o pm code doc, mg d.name = some (.ref a) ∧ h.get? a = some o ∧ o.data = .func (Calls.docDef d.name d.params d.body d.scope pm code doc) ∧ h.CodeRec code d.name := fun d hd => by
  rw [e] at hd
  (refine xEA (List.mem_map.mp (List.mem_of_mem_drop hd)) fun r hr qq1 => ?_; subst qq1)
  exact T.fn r hr
end Mine

open PySem PySem.W PyProof.Rows
theorem Mine.post_true (ns : List Int) : Challenge.rw_xr0004_01.row.claim.post [ofPy (PyData.list (List.map PyData.int ns))] (WData.bool true) [ofPy (PyData.list (List.map PyData.int ns))] = true := by kernel_rfl
set_option maxHeartbeats 8000000 in
theorem PySem.Challenge.cw_xr0004_01_holds : PySem.Challenge.rw_xr0004_01.Holds := by
  w_on; o_law; o_head (kHook Mine.K2 Mine.as2 (fun _ => by kernel_rfl))
  case hw => w_witness2
  intro w s₀ s₁ mg mb G Y fa o pm cd doc dV kV ho hd hcd hD hmg hg args vals as hpre hlay hrd hwl hlo
  have KX := kIn_of Y
  refine Ground.open G ?_
  intro T B D TE TW
  obtain ⟨_, _, M⟩ := bmod_of_top T
  wrow_args hpre hlay hrd hwl hlo
  first | refine callC_kw (enter_call ?_) | refine enter_call ?_ | refine callC_kw (enter_callW ?_) | refine enter_callW ?_ | w_how
  have GR : Mine.Grd w mg mb s₁.heap := ⟨KX, T.g, T.b, T.builtins, T.nolimit, Mine.fn_of T (by kernel_rfl), ⟨_, _, M⟩⟩
  clear Y ho hd hcd hD T B D TE TW
  have hmg' : mg "law" = some (.ref fa) := hmg
  clear hmg
  refine Mine.join GR hg hmg' (by assumption) (by assumption) (by omega) (fun cls => ?_) ?_
  · rfl
  · exact Mine.post_true _
