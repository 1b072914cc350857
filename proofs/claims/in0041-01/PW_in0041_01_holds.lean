import PyProof.Rows.All
import Wide.All
import OpenK.AllK
import Wide.FinOn
import PyProof.StationsW
import PyProof.ListIndexOut
import KE.KNestM
import Lean
import PySem.Challenge.RW_in0041_01
open PySem PySem.W PyProof.Rows
set_option Elab.async false
set_option linter.all false
set_option compiler.extract_closed false
namespace Mine
open PySem PySem.W PyProof.Rows PySem.Calls PySem.Spec PySem.Builtin.Str
-- EW
section
set_option genSizeOf false in
set_option genInjectivity false in
inductive LP
  | h (l r : Nat.Internal.Linear.Expr) (p : LP)
  | e (l r : Nat.Internal.Linear.Expr) (p : LP)
  | d (l r : Nat.Internal.Linear.Expr) (p : LP)
  | g (l r : Nat.Internal.Linear.Expr)
  | f
noncomputable def LP.den (c : Nat.Internal.Linear.Context) (p : LP) : Prop :=
  LP.rec (fun l r _ q => l.denote c ≤ r.denote c → q) (fun l r _ q => l.denote c = r.denote c → q) (fun l r _ q => l.denote c = r.denote c → q) (fun l r => l.denote c ≤ r.denote c) False p
noncomputable def LP.chk (p : LP) : Nat.Internal.Linear.Expr → Nat.Internal.Linear.Expr → Bool :=
  LP.rec (fun l r _ q x y => q (.add l x) (.add r y)) (fun l r _ q x y => q (.add l x) (.add r y)) (fun l r _ q x y => q (.add r x) (.add l y))
    (fun l r x y => (Nat.Internal.Linear.ExprCnstr.mk false (.add (.add r (.num 1)) x) (.add l y)).toNormPoly.isUnsat) (fun x y => (Nat.Internal.Linear.ExprCnstr.mk false x y).toNormPoly.isUnsat) p
theorem LP.ok (c : Nat.Internal.Linear.Context) (p : LP) : ∀ x y, x.denote c ≤ y.denote c → p.chk x y = true → p.den c :=
  LP.rec (fun l r _ q x y a b k => q (.add l x) (.add r y) (Nat.add_le_add k a) b) (fun l r _ q x y a b k => q (.add l x) (.add r y) (Nat.add_le_add (Nat.le_of_eq k) a) b) (fun l r _ q x y a b k => q (.add r x) (.add l y) (Nat.add_le_add (Nat.le_of_eq k.symm) a) b)
    (fun _ _ _ _ a b => Nat.ge_of_not_lt fun k => cast (Nat.Internal.Linear.ExprCnstr.eq_false_of_isUnsat c _ b) (Nat.add_le_add k a)) (fun _ _ a b => cast (Nat.Internal.Linear.ExprCnstr.eq_false_of_isUnsat c _ b) a) p
theorem lc (c : Nat.Internal.Linear.Context) (p : LP) (b : p.chk (.num 0) (.num 0) = true) : p.den c := p.ok c _ _ (Nat.le_refl _) b
theorem lT : true = true := rfl
theorem lU (a b : Nat) : a ≤ a - b + b := Nat.sub_le_iff_le_add.mp (Nat.le_refl _)
theorem l63 {a : Nat} (h : a < 9223372036854775808) : (a : Int) < 2 ^ 63 := Int.ofNat_lt.mpr h
noncomputable abbrev lR1 (a0 : Nat) : Nat.Internal.Linear.Context := .leaf a0
noncomputable abbrev lR2 (a0 a1 : Nat) : Nat.Internal.Linear.Context := .branch 1 (.leaf a0) (.leaf a1)
noncomputable abbrev lR3 (a0 a1 a2 : Nat) : Nat.Internal.Linear.Context := .branch 1 (.leaf a0) (.branch 2 (.leaf a1) (.leaf a2))
noncomputable abbrev lR4 (a0 a1 a2 a3 : Nat) : Nat.Internal.Linear.Context := .branch 1 (.leaf a0) (.branch 2 (.leaf a1) (.branch 3 (.leaf a2) (.leaf a3)))
noncomputable abbrev lR5 (a0 a1 a2 a3 a4 : Nat) : Nat.Internal.Linear.Context := .branch 1 (.leaf a0) (.branch 2 (.leaf a1) (.branch 3 (.leaf a2) (.branch 4 (.leaf a3) (.leaf a4))))
noncomputable abbrev lR6 (a0 a1 a2 a3 a4 a5 : Nat) : Nat.Internal.Linear.Context := .branch 1 (.leaf a0) (.branch 2 (.leaf a1) (.branch 3 (.leaf a2) (.branch 4 (.leaf a3) (.branch 5 (.leaf a4) (.leaf a5)))))
noncomputable abbrev lR7 (a0 a1 a2 a3 a4 a5 a6 : Nat) : Nat.Internal.Linear.Context := .branch 1 (.leaf a0) (.branch 2 (.leaf a1) (.branch 3 (.leaf a2) (.branch 4 (.leaf a3) (.branch 5 (.leaf a4) (.branch 6 (.leaf a5) (.leaf a6))))))
noncomputable abbrev lR8 (a0 a1 a2 a3 a4 a5 a6 a7 : Nat) : Nat.Internal.Linear.Context := .branch 1 (.leaf a0) (.branch 2 (.leaf a1) (.branch 3 (.leaf a2) (.branch 4 (.leaf a3) (.branch 5 (.leaf a4) (.branch 6 (.leaf a5) (.branch 7 (.leaf a6) (.leaf a7)))))))
noncomputable abbrev lR9 (a0 a1 a2 a3 a4 a5 a6 a7 a8 : Nat) : Nat.Internal.Linear.Context := .branch 1 (.leaf a0) (.branch 2 (.leaf a1) (.branch 3 (.leaf a2) (.branch 4 (.leaf a3) (.branch 5 (.leaf a4) (.branch 6 (.leaf a5) (.branch 7 (.leaf a6) (.branch 8 (.leaf a7) (.leaf a8))))))))
noncomputable abbrev lR10 (a0 a1 a2 a3 a4 a5 a6 a7 a8 a9 : Nat) : Nat.Internal.Linear.Context := .branch 1 (.leaf a0) (.branch 2 (.leaf a1) (.branch 3 (.leaf a2) (.branch 4 (.leaf a3) (.branch 5 (.leaf a4) (.branch 6 (.leaf a5) (.branch 7 (.leaf a6) (.branch 8 (.leaf a7) (.branch 9 (.leaf a8) (.leaf a9)))))))))
noncomputable abbrev lA (x y : Nat.Internal.Linear.Expr) := Nat.Internal.Linear.Expr.add x y
noncomputable abbrev lM (x : Nat) (y : Nat.Internal.Linear.Expr) := Nat.Internal.Linear.Expr.mulL x y
noncomputable abbrev lN (x : Nat) := Nat.Internal.Linear.Expr.num x
noncomputable abbrev lV (x : Nat) := Nat.Internal.Linear.Expr.var x
noncomputable abbrev z0 := Nat.Internal.Linear.Expr.var 0
noncomputable abbrev z1 := Nat.Internal.Linear.Expr.var 1
noncomputable abbrev z2 := Nat.Internal.Linear.Expr.var 2
noncomputable abbrev z3 := Nat.Internal.Linear.Expr.var 3
noncomputable abbrev z4 := Nat.Internal.Linear.Expr.var 4
noncomputable abbrev z5 := Nat.Internal.Linear.Expr.var 5
noncomputable abbrev lS (x : Nat.Internal.Linear.Expr) := Nat.Internal.Linear.Expr.add x (.num 1)
def nms (s : String) : Array Lean.Term := (s.splitOn " ").toArray.map fun n => ⟨Lean.mkIdent n.toName⟩
def aR : Lean.Syntax := Lean.Unhygienic.run `(tacticSeq| intros; first | with_reducible assumption | rfl | with_unfolding_all rfl | decide | decide +kernel | lia)
end
local macro_rules | `(tactic| k_call_by "rf" [$x]) => do
  let ts := nms (x.raw.isStrLit?.getD "")
  `(tactic| with_reducible first $[| refine $ts ?_]*)
-- EX
section
inductive And3 (p0 p1 p2 : Prop) : Prop
  | mk (h0 : p0) (h1 : p1) (h2 : p2) : And3 p0 p1 p2
inductive And4 (p0 p1 p2 p3 : Prop) : Prop
  | mk (h0 : p0) (h1 : p1) (h2 : p2) (h3 : p3) : And4 p0 p1 p2 p3
inductive And5 (p0 p1 p2 p3 p4 : Prop) : Prop
  | mk (h0 : p0) (h1 : p1) (h2 : p2) (h3 : p3) (h4 : p4) : And5 p0 p1 p2 p3 p4
inductive And6 (p0 p1 p2 p3 p4 p5 : Prop) : Prop
  | mk (h0 : p0) (h1 : p1) (h2 : p2) (h3 : p3) (h4 : p4) (h5 : p5) : And6 p0 p1 p2 p3 p4 p5
inductive And7 (p0 p1 p2 p3 p4 p5 p6 : Prop) : Prop
  | mk (h0 : p0) (h1 : p1) (h2 : p2) (h3 : p3) (h4 : p4) (h5 : p5) (h6 : p6) : And7 p0 p1 p2 p3 p4 p5 p6
inductive And8 (p0 p1 p2 p3 p4 p5 p6 p7 : Prop) : Prop
  | mk (h0 : p0) (h1 : p1) (h2 : p2) (h3 : p3) (h4 : p4) (h5 : p5) (h6 : p6) (h7 : p7) : And8 p0 p1 p2 p3 p4 p5 p6 p7
inductive And9 (p0 p1 p2 p3 p4 p5 p6 p7 p8 : Prop) : Prop
  | mk (h0 : p0) (h1 : p1) (h2 : p2) (h3 : p3) (h4 : p4) (h5 : p5) (h6 : p6) (h7 : p7) (h8 : p8) : And9 p0 p1 p2 p3 p4 p5 p6 p7 p8
inductive And12 (p0 p1 p2 p3 p4 p5 p6 p7 p8 p9 p10 p11 : Prop) : Prop
  | mk (h0 : p0) (h1 : p1) (h2 : p2) (h3 : p3) (h4 : p4) (h5 : p5) (h6 : p6) (h7 : p7) (h8 : p8) (h9 : p9) (h10 : p10) (h11 : p11) : And12 p0 p1 p2 p3 p4 p5 p6 p7 p8 p9 p10 p11
inductive Ex2 {α0 α1 : Type} (p : α0 → α1 → Prop) : Prop
  | mk (x0 : α0) (x1 : α1) (h : p x0 x1) : Ex2 p
inductive Ex3 {α0 α1 α2 : Type} (p : α0 → α1 → α2 → Prop) : Prop
  | mk (x0 : α0) (x1 : α1) (x2 : α2) (h : p x0 x1 x2) : Ex3 p
inductive Ex4 {α0 α1 α2 α3 : Type} (p : α0 → α1 → α2 → α3 → Prop) : Prop
  | mk (x0 : α0) (x1 : α1) (x2 : α2) (x3 : α3) (h : p x0 x1 x2 x3) : Ex4 p
inductive Ex5 {α0 α1 α2 α3 α4 : Type} (p : α0 → α1 → α2 → α3 → α4 → Prop) : Prop
  | mk (x0 : α0) (x1 : α1) (x2 : α2) (x3 : α3) (x4 : α4) (h : p x0 x1 x2 x3 x4) : Ex5 p
inductive Ex6 {α0 α1 α2 α3 α4 α5 : Type} (p : α0 → α1 → α2 → α3 → α4 → α5 → Prop) : Prop
  | mk (x0 : α0) (x1 : α1) (x2 : α2) (x3 : α3) (x4 : α4) (x5 : α5) (h : p x0 x1 x2 x3 x4 x5) : Ex6 p
inductive Ex7 {α0 α1 α2 α3 α4 α5 α6 : Type} (p : α0 → α1 → α2 → α3 → α4 → α5 → α6 → Prop) : Prop
  | mk (x0 : α0) (x1 : α1) (x2 : α2) (x3 : α3) (x4 : α4) (x5 : α5) (x6 : α6) (h : p x0 x1 x2 x3 x4 x5 x6) : Ex7 p
inductive Ex8 {α0 α1 α2 α3 α4 α5 α6 α7 : Type} (p : α0 → α1 → α2 → α3 → α4 → α5 → α6 → α7 → Prop) : Prop
  | mk (x0 : α0) (x1 : α1) (x2 : α2) (x3 : α3) (x4 : α4) (x5 : α5) (x6 : α6) (x7 : α7) (h : p x0 x1 x2 x3 x4 x5 x6 x7) : Ex8 p
inductive Ex9 {α0 α1 α2 α3 α4 α5 α6 α7 α8 : Type} (p : α0 → α1 → α2 → α3 → α4 → α5 → α6 → α7 → α8 → Prop) : Prop
  | mk (x0 : α0) (x1 : α1) (x2 : α2) (x3 : α3) (x4 : α4) (x5 : α5) (x6 : α6) (x7 : α7) (x8 : α8) (h : p x0 x1 x2 x3 x4 x5 x6 x7 x8) : Ex9 p
theorem ar1 {a k k' : Nat} (h : a < k) (d : k ≤ k') : a < k' := Nat.lt_of_lt_of_le h d
theorem ar2 {a k k' : Nat} (h : a ≤ k) (d : k ≤ k') : a ≤ k' := Nat.le_trans h d
theorem ar3 {a k k' : Nat} (h : a < k) (d : k ≤ k' + 1) : a ≤ k' := Nat.le_of_lt_succ (Nat.lt_of_lt_of_le h d)
theorem ar4 {a k k' : Nat} (h : a ≤ k) (d : k < k') : a < k' := Nat.lt_of_le_of_lt h d
theorem ar5 {a c k k' : Nat} (h : a ≤ k) (d : k + c ≤ k') : a + c ≤ k' := Nat.le_trans (Nat.add_le_add_right h c) d
theorem ar6 {a c k k' : Nat} (h : a ≤ k) (d : k + c < k') : a + c < k' := Nat.lt_of_le_of_lt (Nat.add_le_add_right h c) d
theorem ar7 {a c k k' : Nat} (h : a < k) (d : k + c ≤ k') : a + c < k' := Nat.lt_of_lt_of_le (Nat.add_lt_add_right h c) d
theorem ar8 {a c k k' : Nat} (h : a < k) (d : k + c ≤ k' + 1) : a + c ≤ k' := Nat.le_of_lt_succ (Nat.lt_of_lt_of_le (Nat.add_lt_add_right h c) d)
theorem ar9 {a k : Nat} (h : a < k) (d : k ≤ 2 ^ 63) : ((a : Nat) : Int) < 2 ^ 63 := by exact l63 (lc (lR2 _ _) (.h (lS z0) z1 (.h z1 (lN 9223372036854775808) (.g (lS z0) (lN 9223372036854775808)))) lT h d)
theorem ar10 {a b k : Nat} (e : b = a) (h : a < k) : b < k := e ▸ h
theorem ar11 {a b k : Nat} (e : b = a) (h : a ≤ k) : b ≤ k := e ▸ h
theorem ar12 {a b k : Nat} (e : b = a) (h : b < k) : a < k := e ▸ h
theorem ar13 {a b k : Nat} (e : b = a) (h : b ≤ k) : a ≤ k := e ▸ h
theorem ar14 {a b c : Nat} (e : a = b) (h : c < b) : c < a := e ▸ h
theorem ar15 {a b c : Nat} (e : a = b) (h : c < a) : c < b := e ▸ h
theorem ar16 {a b : Nat} (h : a + 1 < b) : a < b := Nat.lt_of_succ_lt h
theorem ar17 {a b : Nat} (h : a + 1 ≤ b) : a ≤ b := Nat.le_of_lt h
theorem ar18 {a b c : Nat} (h : a + (b + 1) = c) : a < c := by exact lc (lR3 _ _ _) (.e (lA z0 (lS z1)) z2 (.g (lS z0) z2)) lT h
theorem ar19 {a b c : Nat} (h : a + (b + 1) ≤ c) : a < c := by exact lc (lR3 _ _ _) (.h (lA z0 (lS z1)) z2 (.g (lS z0) z2)) lT h
theorem ar20 {a b c : Nat} (h : a + (b + 1) ≤ c) : a ≤ c := by exact lc (lR3 _ _ _) (.h (lA z0 (lS z1)) z2 (.g z0 z2)) lT h
theorem ar21 {a b c : Nat} (h : a + (b + 1) ≤ c) : a + 1 + b ≤ c := by exact lc (lR3 _ _ _) (.h (lA z0 (lS z1)) z2 (.g (lA (lS z0) z1) z2)) lT h
theorem ar22 {a b c : Nat} (h : a + (b + 1) = c) : a + 1 + b = c := by exact Nat.le_antisymm (lc (lR3 _ _ _) (.e (lA z0 (lS z1)) z2 (.g (lA (lS z0) z1) z2)) lT h) (lc (lR3 _ _ _) (.d (lA z0 (lS z1)) z2 (.g z2 (lA (lS z0) z1))) lT h)
theorem ar23 {a b : Nat} (h : a < b + 1) (n : ¬ a = b) : a < b := by lia
theorem ar24 {a b : Nat} (h : a ≤ b) (n : ¬ a = b) : a < b := by lia
theorem ar25 {a b : Nat} (h : a ≤ b) (n : ¬ a < b) : a = b := by exact Nat.le_antisymm h (Nat.ge_of_not_lt n)
theorem ar26 (a b : Nat) : a ≤ a + (b + 1) := by exact lc (lR2 _ _) (.g z0 (lA z0 (lS z1))) lT
theorem ar27 (a b : Nat) : a < a + (b + 1) := by exact lc (lR2 _ _) (.g (lS z0) (lA z0 (lS z1))) lT
theorem ar28 (a : Nat) : a < a + 1 + 1 := by exact lc (lR1 _) (.g (lS z0) (lS (lS z0))) lT
theorem ar29 (a : Nat) : a ≤ a + 1 + 1 := by exact lc (lR1 _) (.g z0 (lS (lS z0))) lT
theorem ar30 (a : Nat) : (0 : Int) + ((a : Nat) : Int) * 1 = ((a : Nat) : Int) := by lia
theorem ar31 (a b : Nat) : a + 1 + b = a + (b + 1) := by exact Nat.le_antisymm (lc (lR2 _ _) (.g (lA (lS z0) z1) (lA z0 (lS z1))) lT) (lc (lR2 _ _) (.g (lA z0 (lS z1)) (lA (lS z0) z1)) lT)
theorem ar32 {a b : Nat} (h : a < b) : 0 ≤ a ∧ a < b := ⟨Nat.zero_le _, h⟩
theorem ar33 {a b : Nat} (h : a ≤ b) : a + (b - a) = b := Nat.add_sub_cancel' h
theorem ar34 {a b c : Nat} (h : a ≤ b) (g : b < c) : a < c := Nat.lt_of_le_of_lt h g
theorem ar35 {a b c : Nat} (h : a < b) (g : b < c) : a < c := Nat.lt_trans h g
theorem ar36 {a b c : Nat} (h : a < b) (g : b ≤ c) : a < c := Nat.lt_of_lt_of_le h g
theorem ar37 {a b c : Nat} (h : a ≤ b) (g : b ≤ c) : a ≤ c := Nat.le_trans h g
theorem ar39 {a b c d : Nat} (h : a + (b + 1) ≤ c) (e : d = c) : a < d := by exact lc (lR4 _ _ _ _) (.h (lA z0 (lS z1)) z2 (.d z3 z2 (.g (lS z0) z3))) lT h e
theorem ar40 {a b c d : Nat} (h : a + (b + 1) = c) (e : d = c) : a < d := by exact lc (lR4 _ _ _ _) (.e (lA z0 (lS z1)) z2 (.d z3 z2 (.g (lS z0) z3))) lT h e
theorem ar41 {a b c d : Nat} (h : a + (b + 1) ≤ c) (e : d = c) : a ≤ d := by exact lc (lR4 _ _ _ _) (.h (lA z0 (lS z1)) z2 (.d z3 z2 (.g z0 z3))) lT h e
theorem ar42 {a b : Nat} (h : a ≤ b) : a + 1 ≤ b + 1 := Nat.succ_le_succ h
theorem ar43 {a b c : Nat} (h : a < b) (k : b ≤ c + 1) : a ≤ c := by exact lc (lR3 _ _ _) (.h (lS z0) z1 (.h z1 (lS z2) (.g z0 z2))) lT h k

end
-- EY
section
open PySem PySem.W PyProof.Rows
noncomputable def Ext (h h' : Heap) : Prop := ∀ b o, h.get? b = some o → h'.get? b = some o
noncomputable def ExtB (a : Addr) (h h' : Heap) : Prop := ∀ b o, b ≠ a → h.get? b = some o → h'.get? b = some o
noncomputable def ExtZ (Z : List Addr) (h h' : Heap) : Prop := ∀ b o, b ∉ Z → h.get? b = some o → h'.get? b = some o

end
-- HB1
section
open PySem PySem.W PyProof.Rows
noncomputable def topRunT (tb : String → Option Builtin) (p : Program) (w : World) (n₀ : Nat) (ann : Option Value) : Nat → SharedT → Thread → Option SharedT
  | 0, _, _ => none
  | n + 1, s, t => match through t with
    | true => some s
    | false => match stepOk n₀ ann t with
      | false => none
      | true => match stepT (denote tb) p w s t with
        | some (s', t') => topRunT tb p w n₀ ann n s' t'
        | none => none
theorem topRun_of {tb : String → Option Builtin} {p : Program} {w : World} {n₀ : Nat} {ann : Option Value} : ∀ {n : Nat} {s s' : SharedT} {t : Thread}, topRunT tb p w n₀ ann n s t = some s' → topRun tb p w n₀ ann n s.abs t = some s'.abs
  | 0, _, _, _, h => by cases h
  | n + 1, s, s', t, h => by
    unfold topRunT at h
    unfold topRun
    cases ht : through t with
    | true => rw [ht] at h; cases h; rfl
    | false =>
      rw [ht] at h
      cases hk : stepOk n₀ ann t with
      | false => rw [hk] at h; cases h
      | true =>
        rw [hk] at h
        cases hs : stepT (denote tb) p w s t with
        | none => rw [hs] at h; cases h
        | some r => obtain ⟨s₂, t₂⟩ := r; rw [hs] at h; dsimp only; rw [stepT_spec hs]; exact topRun_of h
noncomputable def insAll : List Obj → BT → Nat → Option (BT × Nat)
  | [], t, n => some (t, n)
  | o :: l, t, n => match ((t.ins n o).get n).isSome with
    | true => insAll l (t.ins n o) (n + 1)
    | false => none
theorem insAll_ok {life : Life} : ∀ {l : List Obj} {t t' : BT} {n n' : Nat}, insAll l t n = some (t', n') → absHeap t' n' life = ⟨(absHeap t n life).objs ++ l.toArray, life⟩
  | [], t, t', n, n', h => by
    cases h
    show _ = Heap.mk _ _
    simp [absHeap]
  | o :: l, t, t', n, n', h => by
    unfold insAll at h
    cases e : ((t.ins n o).get n).isSome with
    | false => rw [e] at h; cases h
    | true =>
      rw [e] at h
      rw [insAll_ok h, absHeap_ins e]
      show Heap.mk ((absHeap t n life).objs.push o ++ l.toArray) life = _
      congr 1
      apply Array.ext'
      simp
noncomputable def toT (s : Shared) : Option SharedT := match insAll s.heap.objs.toList .nil 0 with
  | some (t, n) => some ⟨t, n, s.heap.life, s.gens, s.drawn, s.toks, s.os⟩
  | none => none
theorem toT_ok {s : Shared} {t : SharedT} (h : toT s = some t) : t.abs = s := by
  unfold toT at h
  cases e : insAll s.heap.objs.toList .nil 0 with
  | none => rw [e] at h; cases h
  | some r =>
    obtain ⟨T, n⟩ := r
    rw [e] at h
    cases h
    have := insAll_ok (life := s.heap.life) e
    obtain ⟨⟨objs, life⟩, gens, drawn, toks, os⟩ := s
    unfold SharedT.abs
    dsimp only at this ⊢
    rw [this]
    congr 1
    show Heap.mk _ _ = _
    congr 1
    apply Array.ext'
    simp [absHeap, BT.list]
noncomputable def topFromT (tb : String → Option Builtin) (p : Program) (w : World) (N : Nat) (s₀ : Shared) : Option Shared :=
  match s₀.heap.isNs mainGlobals && s₀.gens.size == 0 with
  | true => match toT s₀ with
    | none => none
    | some t₀ => match topRunT tb p w t₀.n (s₀.heap.nsMap mainGlobals "__annotations__") N t₀ (topStub p) with
      | none => none
      | some t₁ => match staticsOk (importedModules p.main.body) s₀.heap t₁.abs.heap && namesBound p t₁.abs.heap && gensDone t₁.abs && laidKept s₀.heap t₁.abs.heap with
        | true => some t₁.abs
        | false => none
  | false => none
theorem topFrom_of {tb : String → Option Builtin} {p : Program} {w : World} {N : Nat} {s₀ s : Shared} (h : topFromT tb p w N s₀ = some s) : topFrom tb p w N s₀ = some s := by
  unfold topFromT at h
  unfold topFrom
  cases hg : (s₀.heap.isNs mainGlobals && s₀.gens.size == 0) with
  | false => rw [hg] at h; cases h
  | true =>
    rw [hg] at h
    dsimp only at h ⊢
    cases ht : toT s₀ with
    | none => rw [ht] at h; cases h
    | some t₀ =>
      rw [ht] at h
      dsimp only at h
      have e0 := toT_ok ht
      have en : s₀.heap.objs.size = t₀.n := by rw [← e0]; exact absHeap_size ..
      cases hr : topRunT tb p w t₀.n (s₀.heap.nsMap mainGlobals "__annotations__") N t₀ (topStub p) with
      | none => rw [hr] at h; cases h
      | some t₁ =>
        rw [hr] at h
        dsimp only at h
        have := topRun_of hr
        rw [e0] at this
        rw [en, this]
        cases hs : (staticsOk (importedModules p.main.body) s₀.heap t₁.abs.heap && namesBound p t₁.abs.heap && gensDone t₁.abs && laidKept s₀.heap t₁.abs.heap) with
        | false => rw [hs] at h; cases h
        | true =>
          rw [hs] at h
          cases h
          show (match staticsOk (importedModules p.main.body) s₀.heap t₁.abs.heap && namesBound p t₁.abs.heap && gensDone t₁.abs && laidKept s₀.heap t₁.abs.heap with | true => _ | false => _) = _
          rw [hs]
theorem left_tree {p q : Program} {loose : List Str} {Xt : Shared → Bool} {α : Type} {Yf : Shared → α} {Ya : World → α} {N : Nat} {g0 : Bool}
    (h : ∀ w, ((fencedOpening treeTable p w N).bind (topFromT treeTable p w N)).map (fun s => (openSeen q loose (importedModules p.main.body) Xt g0 s, Yf s)) = some (openGood q loose, Ya w)) : LeftO p q loose Xt Yf Ya N g0 := fun w => by
  obtain ⟨s, h1, h2⟩ := Option.map_eq_some_iff.mp (h w)
  obtain ⟨s₀, h3, h4⟩ := Option.bind_eq_some_iff.mp h1
  unfold openEnds
  rw [h3]
  show (topFrom treeTable p w N s₀).map _ = _
  rw [topFrom_of h4]
  exact congrArg some h2

end
-- HA
section
open PySem PySem.W PyProof.Rows
theorem saidL : PySem.Challenge.rw_in0041_01.wellSaid = true := by decide +kernel
section
local macro_rules | `(tactic| o_law) => `(tactic| refine holds_law saidL fun said => ?_)
local macro_rules | `(tactic| o_head $_h) => `(tactic| skip)
set_option maxRecDepth 100000 in
set_option maxHeartbeats 8000000 in
theorem xd : PySem.Challenge.rw_in0041_01.Holds ∨ True := by
  refine Or.imp_left (fun (h : False) => ?_) (Or.inr trivial)
  w_on; o_law; x_head
  all_goals exact False.elim (by assumption)
end
noncomputable def offTab (q : Addr × Obj) : Bool := match q.2.cls, q.2.data with
  | .none, .fields _ => false
  | _, _ => true
theorem filt_on {q : Addr × Obj} {l l' : Frag} (h : offTab q = true) (e : l.filter offTab = l') : (q :: l).filter offTab = q :: l' := by rw [List.filter_cons_of_pos h, e]
theorem filt_off {q : Addr × Obj} {l l' : Frag} (h : offTab q = false) (e : l.filter offTab = l') : (q :: l).filter offTab = l' := by rw [List.filter_cons_of_neg (by rw [h]; decide), e]
theorem filt_nil : ([] : Frag).filter offTab = [] := rfl
set_option maxRecDepth 100000 in
set_option maxHeartbeats 8000000 in
noncomputable def KXf (p : Params) : Frag := by
  apply (fun (l : Frag) (hh : (Mine.xd.heap_1 p).filter offTab = l) => l)
  case hh =>
    unfold Mine.xd.heap_1
    repeat any_goals (first | exact filt_nil | refine' filt_on (by rfl) ?_ | refine' filt_off (by rfl) ?_)

end
-- HZ
section
open PySem PySem.W PyProof.Rows
noncomputable abbrev PW : Program := PySem.Challenge.rw_in0041_01.row.prog
noncomputable def viewQ : Program := { PW with main := { PW.main with body := PW.main.body.drop 25 } }
noncomputable def looseQ : List Str := [Str.ofString "_wall", Str.ofString "quotedata", Str.ofString "CRLF", Str.ofString "_twin_re_1", Str.ofString "_twin_re_2", Str.ofString "_sre", Str.ofString "cmp_to_key", Str.ofString "_initial_missing", Str.ofString "reduce", Str.ofString "_tuplegetter", Str.ofString "sorted_list_difference", Str.ofString "unorderable_list_difference", Str.ofString "three_way_cmp", Str.ofString "Mismatch", Str.ofString "_Mismatch", Str.ofString "_count_diff_all_purpose", Str.ofString "_law_rows", Str.ofString "_law_bare", Str.ofString "_law_order", Str.ofString "_law_plain", Str.ofString "_law_less", Str.ofString "__name__"]
noncomputable def addrsQ : List Addr := [0, 1, 2, 3, 4, 5, 6, 7, 9, 10, 11, 12, 13, 14, 15, 32, 34, 35, 36, 37, 38, 42, 43, 47, 48, 49, 51, 52, 53, 54, 55, 56, 58, 59, 60, 61, 62, 63, 64, 65, 67, 68, 69, 70, 71, 79, 81, 82, 83, 84, 85, 86, 87, 89, 90, 91, 92, 93, 94, 96, 97, 98, 99, 100, 101, 103, 104, 105, 106, 107, 108, 109, 110, 111, 112, 115, 117, 118, 119, 120, 121, 122, 124, 125, 126, 127, 128, 129, 131, 132, 133, 134, 135, 136, 139, 144, 145, 146, 147, 149, 150, 151, 152, 153, 154, 156, 157, 158, 159, 160, 161, 162, 163, 164, 165, 167, 168, 169, 170, 171, 172, 174, 175, 176, 177, 178, 179, 181, 182, 183, 184, 185, 186, 188, 189, 190, 191, 192, 193, 194, 195, 197, 198, 200, 201, 203, 205, 206, 207, 210, 212, 213, 214, 215, 216, 217, 219, 220, 221, 222, 223, 224, 226, 227, 228, 229, 231, 232, 233, 234, 235, 236, 238, 239, 240, 241, 243, 244, 245, 246, 248, 249, 250]
theorem addrs_ok : ∀ P, addrsQ = (KXf P).map (·.1) := fun P => by kernel_rfl
noncomputable abbrev hookQ := kmHook KXf addrsQ addrs_ok [57, 230, 247]
theorem leftQ : LeftO PW viewQ looseQ (fun s => xlAt viewQ [] s && recOk (RowW.records (OpenRow.toRowW PySem.Challenge.rw_in0041_01.row)) s) (Hook.obs hookQ) (Hook.val hookQ) 4188 := left_tree fun w => by kernel_rfl
abbrev RQ : OpenRow := PySem.Challenge.rw_in0041_01.row
theorem hkQ {d : DefRec} {kwd : List (Str × Expr)} (h1 : defOf viewQ RQ.name = some (d, kwd)) (h2 : RQ.prog.theDef RQ.name = some (d.params, d.body, d.scope)) (h3 : kwWritten? d.params.kwonlyargs d.params.kw_defaults = some kwd)
    (k1 : RQ.wellSaid = true) (hw : RQ.toRowW.promised) (hc : WalkO viewQ looseQ (XL viewQ []) (Hook.says hookQ) RQ.toRowW d kwd fun f vs => PySem.call f vs) : RQ.Holds :=
  holds_open leftQ (Hook.of hookQ) (Hook.keeps hookQ) (fun s e => xl_of s (Bool.and_eq_true_iff.mp e).1) XL.keeps h1 h2 h3 (fun s e => recFacts_of (Bool.and_eq_true_iff.mp e).2) (by rfl) k1 (by decide +kernel) ⟨rfl, rfl, rfl, rfl, rfl, by decide +kernel⟩ hw hc
theorem saidR : RQ.wellSaid = true := row_said saidL
section
local macro_rules | `(tactic| o_law) => `(tactic| refine holds_law saidL fun said => ?_)
local macro_rules | `(tactic| k_head) => `(tactic| refine hkQ rfl rfl rfl saidR ?hw ?hc)
set_option maxRecDepth 100000 in
set_option maxHeartbeats 8000000 in
open_top hd for PySem.Challenge.rw_in0041_01
end

end
-- B1
section
open PySem PySem.W PyProof.Rows PySem.Calls PySem.Spec
noncomputable abbrev PG : Program := PySem.Challenge.rw_in0041_01.row.prog
noncomputable abbrev KF (w : World) : Frag := Mine.KXf w.params

section
variable {w : World} {A : Around} {E : Value → Shared → Prop} {Q : Value → Shared → Prop} {s : Shared} {p : Program} {loose : List Str} {mean : ExcName → Option Value} {mg mb : Str → Option Value}

theorem enter {name qual : Str} {params : Arguments} {body : List Stmt} {scope : Scope} {dV kV doc pm cdv ct oc : Value} {an od : Option Addr} {osl : Array (Option Value)} {f : Addr} {args : List Value} {binds : List (Str × Value)}
    (X : (KF w).In s.heap) (T : Top p loose mean mg mb s.heap)
    (ho : (KF w).lookup f = some ⟨oc, od, .func (fnOf name qual params body scope dV kV doc pm an cdv ct), osl⟩) (hcd : codeIn (KF w) cdv qual = true) (hroom : A.depth < recursionLimit)
    (hbind : BindsTo s (fnOf name qual params body scope dV kV doc pm an cdv ct) ⟨args, []⟩ binds) (hloc : ∀ y ∈ binds, scope.names.lookup y.1 = some .local)
    (hcell : ∀ x ∈ scope.names, x.2 ≠ .cell)
    (hco : scope.isCoroutine = false) (hgen : scope.isGenerator = false) (hk : scope.kind = .function)
    (h : ∀ h₁, Fr s.heap s.heap.objs.size h₁ (fun y => binds.reverse.lookup y) →
      wpAny (model PG w) (A.deeper (envOf qual scope s.heap.objs.size f cdv)) (execs body (envOf qual scope s.heap.objs.size f cdv))
        (fun fl s' => Q (match fl with | .ret v => v | _ => .none) s')
        (fun e s' => wpAny (model PG w) (A.deeper (envOf qual scope s.heap.objs.size f cdv)) (leaving (envOf qual scope s.heap.objs.size f cdv) e) (fun _ s'' => E e s'') (fun e' s'' => E e' s'') s')
        { s with heap := h₁, toks := s.toks + binds.length }) :
    wpAny (model PG w) A (call (.ref f) args) Q E s := by
  refine wpAny_call ?_
  refine codeAny_call_def hroom (X _ _ ho) rfl T.nolimit (codeRec_of X hcd) rfl hbind hcell hloc (fun h₁ hns hk₁ => ?_) hco hgen hk
  exact h h₁ ⟨hns, hk₁, Nat.le_refl _⟩

set_option maxRecDepth 100000 in
set_option maxHeartbeats 8000000 in
theorem three_way (X : (KF w).In s.heap) (T : Top p loose mean mg mb s.heap) (hroom : A.depth < recursionLimit) {x y : Str} {t u : Tok}
    (h : ∀ h' tk tk', (Ext s.heap h') → Q (.int (b2i (decide (y.cps.toList < x.cps.toList)) - b2i (decide (x.cps.toList < y.cps.toList))) tk) { s with heap := h', toks := tk' }) :
    wpAny (model PG w) A (call (.ref 135) [.str x t, .str y u]) Q E s := by
  have hfill : PySem.Challenge.rw_in0041_01 = PySem.Challenge.rw_in0041_01 := rfl
  refine enter X T (by rfl) (by rfl) hroom (BindsTo.of_eq rfl) (locs rfl) (by decide) rfl rfl rfl ?_
  intro h₁ F
  k_steps
  exact h _ _ _ F.keep
end

end
-- B2
section
open PySem PySem.W PyProof.Rows PySem.Calls PySem.Spec PySem.Builtin.Str
theorem repl_len {x y z : Str} (hz : z.length ≤ y.length) (hy : 0 < y.length) : (Txt.replace x y z).length ≤ x.length := by
  unfold Txt.replace
  split
  · exact Nat.le_refl _
  · have h1 : (glued y (partsBetween x (Builtin.Str.occurrences x y 0 x.length (x.length + 1)) y.length)).length = x.length := by rw [StrLaws.glued_between_self]
    rw [size_glued, length_partsBetween, Nat.add_sub_cancel] at h1
    rw [size_glued, length_partsBetween, Nat.add_sub_cancel]
    have h2 : (Builtin.Str.occurrences x y 0 x.length (x.length + 1)).length * z.length ≤ (Builtin.Str.occurrences x y 0 x.length (x.length + 1)).length * y.length := Nat.mul_le_mul_left _ hz
    exact lc (lR4 _ _ _ _) (.e (lA z0 z1) z2 (.h z3 z1 (.g (lA z0 z3) z2))) lT h1 h2

noncomputable def rowsOf (x : Str) : List Str := Txt.split (Txt.replace (Txt.replace x (Str.ofString "\r\n") (Str.ofString "\n")) (Str.ofString "\r") (Str.ofString "\n")) (Str.ofString "\n")

section
variable {w : World} {A : Around} {E : Value → Shared → Prop} {Q : Value → Shared → Prop} {s : Shared} {p : Program} {loose : List Str} {mean : ExcName → Option Value} {mg mb : Str → Option Value}
theorem replT {x y z : Str} {t u v : Tok}
    (hq : ∀ t' k, s.toks ≤ k → Q (.str (Txt.replace x y z) t') { s with toks := k }) (hu : autoParam (u ≠ 0) aR) (hv : autoParam (v ≠ 0) aR) (huv : autoParam (u ≠ v) aR) (hyz : autoParam ((y == z) = false) aR) (hx : autoParam (x.length ≤ 1048576) aR) (hz : autoParam (z.length ≤ 14) aR) : wpAny (model PG w) A (call (.builtin "str.replace") [.str x t, .str y u, .str z v]) Q E s :=
  wpAny_with_toks (Nat.le_refl _) (SC.replaceW hu hv huv hyz hx hz hq)
local macro_rules | `(tactic| walk_at "call builtin:str.replace") => `(tactic| (refine replT ?_; intro t' k hk; (try dsimp only at hk)))
set_option maxRecDepth 100000 in
set_option maxHeartbeats 8000000 in
theorem law_rows (X : (KF w).In s.heap) (T : Top p loose mean mg mb s.heap) (hroom : A.depth < recursionLimit) (hpos : 0 < s.toks) {x : Str} {t : Tok} (hx : x.length ≤ 1000)
    (h : ∀ D h' tk l, l.map (·.1) = rowsOf x → StrsAre (strValues l) (rowsOf x) → (∀ a ∈ rowsOf x, a.length ≤ x.length) → h'.get? D = some (seqObj "list" (strValues l).toArray 0) → s.heap.get? D = none →
      (Ext s.heap h') → Q (.ref D) { s with heap := h', toks := tk }) :
    wpAny (model PG w) A (call (.ref 223) [.str x t]) Q E s := by
  have hfill : PySem.Challenge.rw_in0041_01 = PySem.Challenge.rw_in0041_01 := rfl
  refine enter X T (by rfl) (by rfl) hroom (BindsTo.of_eq rfl) (locs rfl) (by decide) rfl rfl rfl ?_
  intro h₁ F
  have N : News s.heap s.heap.objs.size h₁ [] := News.nil
  have L1 : (Txt.replace x (Str.ofString "\r\n") (Str.ofString "\n")).length ≤ x.length := repl_len (by decide) (by decide)
  have L2 : (Txt.replace (Txt.replace x (Str.ofString "\r\n") (Str.ofString "\n")) (Str.ofString "\r") (Str.ofString "\n")).length ≤ (Txt.replace x (Str.ofString "\r\n") (Str.ofString "\n")).length := repl_len (by decide) (by decide)
  k_steps
  rename_i l h2 k2 e1 S1 e2 e3 F2 N2
  refine h _ _ _ l e1 ?_ ?_ (N2 _ (.head _)).1 (N2 _ (.head _)).2.2 F2.keep
  · rw [e1] at S1; exact S1
  · intro a ha
    have e4 := e2 a (by rw [e1]; exact ha)
    exact lc (lR4 _ _ _ _) (.h z0 z1 (.h z2 z0 (.h z3 z2 (.g z3 z1)))) lT L1 L2 e4
end

end
-- B3
section
open PySem PySem.W PyProof.Rows PySem.Calls PySem.Spec
theorem News_some {h₀ h : Heap} {L : Addr} {l : List (Addr × Obj)} (N : News h₀ L h l) (is : List Nat) : News h₀ L h (is.filterMap (l[·]?)) := fun p hp => by
  obtain ⟨i, -, e⟩ := List.mem_filterMap.mp hp
  exact N p (List.mem_of_getElem? e)
theorem News_drop {h₀ h : Heap} {L : Addr} {l : List (Addr × Obj)} (N : News h₀ L h l) (k : Nat) : News h₀ L h (l.drop k) := fun p hp => N p (List.mem_of_mem_drop hp)
theorem News_join {h₀ h : Heap} {L : Addr} {l l' : List (Addr × Obj)} (N : News h₀ L h l) (N' : News h₀ L h l') : News h₀ L h (l ++ l') := fun p hp => (List.mem_append.mp hp).elim (N p) (N' p)
theorem cutQ1 {α : Type} {M : Model} {A : Around} {t : Sem α} {Q : α → Shared → Prop} {E : Value → Shared → Prop} {s : Shared} (h : ∀ Q', (∀ a s, Q a s → Q' a s) → wpAny M A t Q' E s) : wpAny M A t Q E s := h Q fun _ _ x => x
theorem cutQX {α : Type} {M : Model} {A : Around} {t : Sem α} {Q : α → Shared → Prop} {E : Value → Shared → Prop} {s : Shared} (h : ∀ Q' E', (∀ a s, Q a s → Q' a s) → wpAny M A t Q' E' s) : wpAny M A t Q E s := h Q E fun _ _ x => x
theorem News_pick {h₀ h : Heap} {L : Addr} {l : List (Addr × Obj)} (N : News h₀ L h l) (is : List Nat) (k : Nat) : News h₀ L h (is.filterMap (l[·]?) ++ l.drop k) := News_join (News_some N is) (News_drop N k)
theorem fcons {α : Type} {P : α → Prop} {a : α} {l : List α} (h : P a) (g : ∀ q ∈ l, P q) : ∀ q ∈ a :: l, P q := List.forall_mem_cons.mpr ⟨h, g⟩
theorem fnil {α : Type} {P : α → Prop} : ∀ q ∈ ([] : List α), P q := fun _ h => nomatch h
section
variable {prog : Program} {w : World} {A : Around} {E : Value → Shared → Prop} {env : Env} {s : Shared}

noncomputable def EltEnd (h₀ : Heap) (C : Addr) (own news : List (Addr × Obj)) (Jn : List Value → List (Addr × Obj) → Prop) (ys : List Value) (s₁ : Shared) (y : Value) (s₅ : Shared) : Prop :=
  Ex4 fun h' tk m' more => And5 (s₅ = { s₁ with heap := h', toks := tk }) (Fr h₀ C h' m') (News h₀ C h' (own ++ (more ++ news))) ((∀ p ∈ more, ∀ q ∈ own, p.1 ≠ q.1)) (Jn (ys ++ [y]) (more ++ news))
noncomputable def SkipEnd (h₀ : Heap) (C : Addr) (own news : List (Addr × Obj)) (Jn : List Value → List (Addr × Obj) → Prop) (ys : List Value) (s₁ : Shared) (s₅ : Shared) : Prop :=
  Ex3 fun h' tk m' => And4 (s₅ = { s₁ with heap := h', toks := tk }) (Fr h₀ C h' m') (News h₀ C h' (own ++ news)) (Jn ys news)
theorem EltEnd.intro {h₀ h' : Heap} {C : Addr} {own news : List (Addr × Obj)} {Jn : List Value → List (Addr × Obj) → Prop} {ys : List Value} {s₁ : Shared} {y : Value} {tk : Nat} {m' : Str → Option Value} (more : List (Addr × Obj))
    (F : Fr h₀ C h' m') (N : News h₀ C h' (more ++ (own ++ news))) (ha : ∀ p ∈ more, ∀ q ∈ own, p.1 ≠ q.1) (hJ : Jn (ys ++ [y]) (more ++ news)) : EltEnd h₀ C own news Jn ys s₁ y { s₁ with heap := h', toks := tk } :=
  ⟨h', tk, m', more, rfl, F, fun p hp => N p (by simp only [List.mem_append] at hp ⊢; rcases hp with h | h | h <;> simp [h]), ha, hJ⟩
theorem EltEnd.plain {h₀ h' : Heap} {C : Addr} {own news : List (Addr × Obj)} {Jn : List Value → List (Addr × Obj) → Prop} {ys : List Value} {s₁ : Shared} {y : Value} {tk : Nat} {m' : Str → Option Value}
    (F : Fr h₀ C h' m') (N : News h₀ C h' (own ++ news)) (hJ : Jn (ys ++ [y]) news) : EltEnd h₀ C own news Jn ys s₁ y { s₁ with heap := h', toks := tk } :=
  .intro [] F N (fun _ h => (nomatch h)) hJ

noncomputable def CompTurn (prog : Program) (w : World) (A : Around) (env : Env) (scope : Scope) (cl : List (Str × Addr)) (x : Str) (ifs : List Expr) (elt : Expr)
    (P : Nat → Value → Prop) (J : Nat → List Value → List (Addr × Obj) → Prop) (s₁ : Shared) : Prop :=
  ∀ (C : Addr) (i : Nat) (v : Value) (ys : List Value) (own news : List (Addr × Obj)) (h₃ : Heap) (tk₃ : Nat) (m₃ : Str → Option Value) (E' : Value → Shared → Prop),
    s₁.toks ≤ tk₃ → P i v → J i ys news → Fr s₁.heap C h₃ m₃ → m₃ x = some v → News s₁.heap C h₃ (own ++ news) →
    wpAny (model prog w) A (forIn ifs true fun c r => if r = true then do let ok ← isTrue c (compEnvC scope cl C env) (eval c (compEnvC scope cl C env)); pure (ForInStep.yield ok) else pure (ForInStep.yield r))
      (fun ok s₄ => if ok = true then wpAny (model prog w) A (eval elt (compEnvC scope cl C env)) (EltEnd s₁.heap C own news (J (i + 1)) ys s₁) E' s₄
        else SkipEnd s₁.heap C own news (J (i + 1)) ys s₁ s₄) E' { s₁ with heap := h₃, toks := tk₃ }

theorem comp_core {elt iter : Expr} {x : Str} {px : Pos} {ifs : List Expr} {scope : Scope} {cl : List (Str × Addr)} {pos : Pos} {s₂ : Shared} {I : Addr} {fp wr : List Addr} {n : Nat} {P : Nat → Value → Prop}
    {St : Nat → Heap → Prop} (W : Walks prog w A I fp wr n P St) (hsz : n ≤ sizeLine) (J : Nat → List Value → List (Addr × Obj) → Prop) {RR : Value → Addr → Result → Shared → Prop} (h₀ : Heap) (tk₀ : Nat)
    (hcell : ∀ y ∈ scope.names, y.2 ≠ .cell) (hkind : scope.kind = .function) (hx : scope.names.lookup x = some .local) (hst : St 0 s₂.heap) (hfp : ∀ b ∈ fp, b < s₂.heap.objs.size)
    (hwr : ∀ b ∈ wr, h₀.get? b = none) (hlive : ∀ i h, St i h → ∀ b ∈ wr, ∃ o, h.get? b = some o) (hk₀ : Ext h₀ s₂.heap) (hsz₀ : h₀.objs.size ≤ s₂.heap.objs.size) (htk₀ : tk₀ ≤ s₂.toks)
    (hJ : J 0 [] []) (turn : CompTurn prog w A env scope cl x ifs elt P J { s₂ with heap := h₀, toks := tk₀ })
    (hRR : ∀ D C h' tk m' ys news, h₀.get? D = none → s₂.heap.get? C = none → D ≠ C → h'.Ns C m' → h'.PlainList D ys → J n ys.toList news → (∀ p ∈ news, h'.get? p.1 = some p.2 ∧ p.1 ≠ C ∧ p.1 ≠ D ∧ h₀.get? p.1 = none) →
      (Ext h₀ h') → tk₀ ≤ tk → RR (.ref D) C (.ok .next) { s₂ with heap := h', toks := tk }) :
    wpAny (model prog w) A (newList []) (fun acc s₃ => wpAny (model prog w) A (newFunctionEnv scope env.globals cl [] env.qual none .none (some env)) (fun cenv s₄ =>
      codeAny (model prog w) A (.compStart (.ListComp elt [⟨.Name x px, iter, ifs, 0⟩] scope pos) 0 (.ref I) acc { cenv with scope := relabel scope env }) (RR acc cenv.locals) s₄) E s₃) E s₂ := by
  refine wpAny_newObj_type (wpAny_newFunctionEnv hcell (by intro y hy; simp at hy) (fun h₁ hns₁ hsb₁ => ?_) hkind)
  dsimp only at hns₁ hsb₁ ⊢
  generalize hH2 : s₂.heap.push { cls := .type "list", dict := none, data := .seq ([] : List Value).toArray } = H2 at hns₁ hsb₁ ⊢
  have hC : H2.objs.size = s₂.heap.objs.size + 1 := by rw [← hH2, Heap.size_push]
  have hDC : s₂.heap.objs.size ≠ H2.objs.size := by rw [hC]; exact Nat.ne_of_lt (Nat.lt_succ_self _)
  have below : ∀ b, b < s₂.heap.objs.size → b ≠ H2.objs.size ∧ b ≠ s₂.heap.objs.size := fun b hb => ⟨by rw [hC]; exact Nat.ne_of_lt (Nat.lt_succ_of_lt hb), Nat.ne_of_lt hb⟩
  have hDf : s₂.heap.objs.size ∉ fp := fun hm => Nat.lt_irrefl _ (hfp _ hm)
  have hCf : H2.objs.size ∉ fp := fun hm => by have := hfp _ hm; rw [hC] at this; exact Nat.lt_irrefl _ (Nat.lt_of_succ_lt this)
  have old : Ext s₂.heap h₁ := fun b o e => hsb₁.extBut b o (below b (Heap.lt_size e)).1 (Heap.get?_push_of_some _ (hH2 ▸ Heap.get?_push_of_some _ e))
  have old₀ : Ext h₀ h₁ := fun b o e => old b o (hk₀ b o e)
  have lt₀ : ∀ b o, h₀.get? b = some o → b < s₂.heap.objs.size := fun b o e => Heap.lt_size (hk₀ b o e)
  have hacc : h₁.PlainList s₂.heap.objs.size #[] := ⟨_, hsb₁.extBut _ _ hDC (Heap.get?_push_of_some _ (hH2 ▸ Heap.get?_push_size _ rfl))⟩
  have hst₁ : St 0 h₁ := W.frame _ _ _ hst fun b _ o e => old b o e
  have fresh₀ : ∀ a, s₂.heap.objs.size ≤ a → h₀.get? a = none := fun a ha => by
    cases e : h₀.get? a with
    | none => rfl
    | some o' => exact absurd (lt₀ _ _ e) (Nat.not_lt.mpr ha)
  have fresh : ∀ a, s₂.heap.objs.size ≤ a → s₂.heap.get? a = none := fun a ha => by
    cases e : s₂.heap.get? a with
    | none => rfl
    | some o' => exact absurd (Heap.lt_size e) (Nat.not_lt.mpr ha)
  have hxc : (compEnvC scope cl H2.objs.size env).kindOf x = some .local := lookup_relabel_local hx
  have hpc : ((compEnvC scope cl H2.objs.size env).scope.kind == .class || ((compEnvC scope cl H2.objs.size env).scope.kind == .module && (compEnvC scope cl H2.objs.size env).locals != (compEnvC scope cl H2.objs.size env).globals)) = false := by simp [compEnvC, relabel, hkind]
  have hCw : H2.objs.size ∉ wr := fun h => hCf (W.sub _ h)
  have hDw : s₂.heap.objs.size ∉ wr := fun h => hDf (W.sub _ h)
  have loop : ∀ s₃ : Shared, s₃ = { s₂ with heap := h₁, toks := s₂.toks + ([] : List (Str × Value)).length } →
      codeAny (model prog w) A (.compLoop (.ListComp elt [⟨.Name x px, iter, ifs, 0⟩] scope pos) 0 (.ref I) (.ref s₂.heap.objs.size) (compEnvC scope cl H2.objs.size env))
        (RR (.ref s₂.heap.objs.size) H2.objs.size) s₃ := by
    rintro s₃ rfl
    refine codeAny_compLoop_tests
      (fun k s' => Ex6 fun h' tk m' ys news i => And12 (s' = { s₂ with heap := h', toks := tk }) (St i h') (h'.PlainList s₂.heap.objs.size ys) (h'.Ns H2.objs.size m') (J i ys.toList news) ((∀ p ∈ news, h'.get? p.1 = some p.2 ∧ p.1 ≠ H2.objs.size ∧ p.1 ≠ s₂.heap.objs.size ∧ p.1 ∉ wr ∧ h₀.get? p.1 = none)) (i ≤ n) (ys.size ≤ i) (k = n + 1 - i) ((Ext h₀ h')) (tk₀ ≤ tk) (H2.objs.size < h'.objs.size)) ?_ (n + 1)
      ⟨h₁, _, _, #[], [], 0, rfl, hst₁, hacc, hns₁, hJ, (fun p hp => (nomatch hp)), Nat.zero_le _, Nat.le_refl _, rfl, old₀, htk₀, hns₁.lt⟩
    rintro k s' ⟨H, tk, m', ys, news, i, rfl, hst', hacc', hn', hJ', hnews, hi, hys, rfl, hkeep, htk, hsize⟩
    by_cases hlt : i < n
    · refine wpAny_with_toks (n := tk₀) htk (W.item i _ _ _ hlt hst' fun v h₂ tk₂ hPv hst₂ hk₂ htk₂ => ?_)
      refine wpAny_assign_Name (wpAny_storeName_local hxc (hn'.at' fun o e => hk₂ _ o hCw e) (fun h₃ hn₃ hs₃ => ?_) hpc)
      have hs₃' : Heap.SameBut H2.objs.size h₂ h₃ := hs₃
      have hn₃' : h₃.Ns H2.objs.size (fun y => if y = x then some v else m' y) := hn₃
      have up : ∀ b o, b ≠ H2.objs.size → b ∉ wr → H.get? b = some o → h₃.get? b = some o := fun b o hbC hbw e => hs₃'.extBut b o hbC (hk₂ b o hbw e)
      have base : Ext h₀ h₃ := fun b o e => up b o (below b (lt₀ b o e)).1 (fun hw => by rw [hwr b hw] at e; cases e) (hkeep b o e)
      have F₃ : Fr h₀ H2.objs.size h₃ (fun y => if y = x then some v else m' y) := ⟨hn₃', base, by rw [hC]; exact lc (lR2 _ _) (.h z0 z1 (.g z0 (lS z1))) lT hsz₀⟩
      have N₃ : News h₀ H2.objs.size h₃ news := fun p hp => by
        obtain ⟨a, b, c, d, e⟩ := hnews p hp
        exact ⟨up _ _ b d a, b, e⟩
      have hst₃ : St (i + 1) h₃ := W.frame _ _ _ hst₂ fun b hb o e => hs₃'.extBut b o (fun h => hCf (h ▸ hb)) e
      have hacc₃ : h₃.PlainList s₂.heap.objs.size ys := hacc'.at fun o e => up _ o hDC hDw e
      have hDlive : h₃.get? s₂.heap.objs.size ≠ none := by obtain ⟨k, ho⟩ := hacc₃; rw [ho]; exact fun q => (nomatch q)
      have hCDf : H2.objs.size ∉ s₂.heap.objs.size :: fp := fun hm => by
        rcases List.mem_cons.mp hm with q | q
        · exact hDC q.symm
        · exact hCf q
      have Nown : News h₀ H2.objs.size h₃ (ownOf h₀ (s₂.heap.objs.size :: fp) h₃) := news_ownOf hCDf
      have hD₀ : h₀.get? s₂.heap.objs.size = none := fresh₀ _ (Nat.le_refl _)
      have after : ∀ h' : Heap, ∀ m₄ news', Fr h₀ H2.objs.size h' m₄ → News h₀ H2.objs.size h' (ownOf h₀ (s₂.heap.objs.size :: fp) h₃ ++ news') → St (i + 1) h' ∧ h'.PlainList s₂.heap.objs.size ys := fun h' m₄ news' F' N' => by
        have one : ∀ b ∈ s₂.heap.objs.size :: fp, ∀ o, h₃.get? b = some o → h'.get? b = some o := fun b hb o e => by
          cases hn : h₀.get? b with
          | some o₀ =>
            have e1 := base b o₀ hn
            rw [e] at e1; cases e1
            exact F'.keep b _ hn
          | none => exact (N' _ (List.mem_append_left _ (mem_ownOf hb hn e))).1
        exact ⟨W.frame _ _ _ hst₃ fun b hb o e => one b (List.mem_cons_of_mem _ hb) o e, hacc₃.at fun o e => one _ (List.mem_cons_self ..) o e⟩
      refine wpAny_mono (wpAny_toks_of (n := tk₀) (Nat.le_succ_of_le htk₂) (turn H2.objs.size i v ys.toList (ownOf h₀ (s₂.heap.objs.size :: fp) h₃) news h₃ _ _ _ (Nat.le_succ_of_le htk₂) hPv hJ' F₃ (if_pos rfl) (Nown.append N₃))) (fun ok s₄ h₄ => ?_) fun _ _ e => e.2
      obtain ⟨htk₄, h₄⟩ := h₄
      cases ok with
      | false =>
        simp only [Bool.false_eq_true, if_false] at h₄ ⊢
        obtain ⟨h', tk', m₄, rfl, F₄, N₄, hJ₄⟩ := h₄
        obtain ⟨hst₄, hacc₄⟩ := after h' _ _ F₄ N₄
        refine ⟨n + 1 - (i + 1), by exact lc (lR4 _ _ _ _) (.e (lA z0 (lS z1)) (lS z2) (.h (lS z2) (lA z3 z1) (.g (lS z0) z3))) lT (Nat.sub_add_cancel (lc (lR2 _ _) (.h z0 z1 (.g (lS z0) (lS z1))) lT hi)) (lU _ _), h', tk', _, ys, news, i + 1, rfl, hst₄, hacc₄, F₄.ns, hJ₄, fun p hp => ?_, hlt, Nat.le_succ_of_le hys, rfl, F₄.keep, htk₄, F₄.ns.lt⟩
        obtain ⟨a, b, c, d, e⟩ := hnews p hp
        exact ⟨(N₄ p (List.mem_append_right _ hp)).1, b, c, d, e⟩
      | true =>
        simp only [if_true] at h₄ ⊢
        refine wpAny_mono (wpAny_toks_of (n := tk₀) htk₄ h₄) (fun y s₅ h₅ => ?_) fun _ _ e => e.2
        obtain ⟨htk₅, h', tk', m₅, more, rfl, F₅, N₅, hmore, hJ₅⟩ := h₅
        obtain ⟨hst₅, hacc₅⟩ := after h' _ _ F₅ N₅
        refine wpAny_list_append_plain (hsz := by exact lc (lR4 _ _ _ _) (.h z0 z1 (.h z2 z3 (.h (lS z3) z0 (.g z2 z1)))) lT hsz hys hlt) hacc₅ fun h₆ hl₆ hs₆ => ?_
        have ns₆ : h₆.Ns H2.objs.size m₅ := F₅.ns.sameBut hs₆ (Ne.symm hDC)
        refine ⟨n + 1 - (i + 1), by exact lc (lR4 _ _ _ _) (.e (lA z0 (lS z1)) (lS z2) (.h (lS z2) (lA z3 z1) (.g (lS z0) z3))) lT (Nat.sub_add_cancel (lc (lR2 _ _) (.h z0 z1 (.g (lS z0) (lS z1))) lT hi)) (lU _ _), h₆, tk', _, ys.push y, more ++ news, i + 1, rfl, ?_, hl₆, ns₆, by simpa using hJ₅, fun p hp => ?_, hlt, by rw [Array.size_push]; exact ar42 ‹_›, rfl, fun b o e => hs₆.extBut b o (below b (lt₀ b o e)).2 (F₅.keep b o e), htk₅, ns₆.lt⟩
        · exact W.frame _ _ _ hst₅ fun b hb o e => hs₆.extBut b o (fun h => hDf (h ▸ hb)) e
        · have hget := N₅ p (List.mem_append_right _ hp)
          have hoff : p.1 ≠ s₂.heap.objs.size ∧ p.1 ∉ wr := by
            rcases List.mem_append.mp hp with hp | hp
            · refine ⟨fun q => ?_, fun hw => ?_⟩
              · cases ho : h₃.get? s₂.heap.objs.size with
                | none => exact hDlive ho
                | some o => exact hmore p hp _ (mem_ownOf (List.mem_cons_self ..) hD₀ ho) q
              · obtain ⟨o, ho⟩ := hlive _ _ hst₃ _ hw
                exact hmore p hp _ (mem_ownOf (List.mem_cons_of_mem _ (W.sub _ hw)) (hwr _ hw) ho) rfl
            · obtain ⟨a, b, c, d, e⟩ := hnews p hp
              exact ⟨c, d⟩
          exact ⟨hs₆.extBut _ _ hoff.1 hget.1, hget.2.1, hoff.1, hoff.2, hget.2.2⟩
    · have hin : i = n := by exact ar25 ‹_› ‹_›
      subst hin
      refine wpAny_with_toks (n := tk₀) htk (W.done _ _ _ hst' fun h₂ tk₂ hk₂ htk₂ => ?_)
      refine hRR _ _ h₂ tk₂ m' ys news (fresh₀ _ (Nat.le_refl _)) (fresh _ (by rw [hC]; exact Nat.le_succ _)) hDC (hn'.at' fun o e => hk₂ _ o hCw e) (hacc'.at fun o e => hk₂ _ o hDw e) hJ' (fun p hp => ?_)
        (fun b o e => hk₂ b o (fun hw => by rw [hwr b hw] at e; cases e) (hkeep b o e)) htk₂
      obtain ⟨a, b, c, d, e⟩ := hnews p hp
      exact ⟨hk₂ _ _ d a, b, c, e⟩
  exact codeAny_compStart_list (loop _ rfl) (W.self 0 _ _ _ hst₁ (loop _ rfl))

noncomputable def CompDone (J : Nat → List Value → List (Addr × Obj) → Prop) (n : Nat) (Q : Value → Shared → Prop) (s₁ : Shared) : Prop :=
  ∀ D h' tk ys news k, J n ys news → s₁.heap.get? D = none → h'.get? D = some (seqObj "list" ys.toArray k) → (∀ p ∈ news, h'.get? p.1 = some p.2 ∧ p.1 ≠ D ∧ s₁.heap.get? p.1 = none) →
    (Ext s₁.heap h') → s₁.toks ≤ tk → Q (.ref D) { s₁ with heap := h', toks := tk }

theorem comp_list {elt iter : Expr} {x : Str} {px : Pos} {ifs : List Expr} {scope : Scope} {cl : List (Str × Addr)} {pos : Pos} {Q : Value → Shared → Prop} (hh : A.handled = none)
    (hclos : closureFor scope env = pure cl) (hcell : ∀ y ∈ scope.names, y.2 ≠ .cell) (hkind : scope.kind = .function)
    (hnames : ∀ y ∈ scope.names, y.2 = .local → scope.names.lookup y.1 = some .local) (hx : scope.names.lookup x = some .local)
    (h : wpAny (model prog w) A (eval iter env) (fun xv s₁ => Ex3 fun ax vs J => And6 (xv = .ref ax) (s₁.heap.IsList ax (List.toArray vs)) (vs.length ≤ sizeLine) (J 0 [] []) (CompTurn prog w A env scope cl x ifs elt (fun i v => vs[i]? = some v) J s₁) (CompDone J vs.length Q s₁)) E s)
    (hs : autoParam (∀ x, foldedSetIterable iter env x = pure x) aR) :
    wpAny (model prog w) A (eval (.ListComp elt [⟨.Name x px, iter, ifs, 0⟩] scope pos) env) Q E s := by
  rw [eval_ListComp]
  refine wpAny_comprehension_free (use := none) rfl hs hclos hkind hnames (wpAny_mono h (fun xv s₁ h₁ => ?_) fun _ _ e => e)
  obtain ⟨ax, vs, J, rfl, hl, hsz, hJ, turn, done⟩ := h₁
  refine wpAny_pyIter_list hl ?_
  obtain ⟨ol, hol, _⟩ := id hl
  have hax := Heap.lt_size hol
  have hne : ax ≠ s₁.heap.objs.size := Nat.ne_of_lt hax
  have W := Walks.list (prog := prog) (w := w) hh s₁.heap.objs.size ax hne vs.toArray
  have hP : (fun (i : Nat) (v : Value) => vs.toArray[i]? = some v) = fun i v => vs[i]? = some v := by funext i v; simp
  rw [hP, List.size_toArray] at W
  refine comp_core (RR := fun acc C => compPost (model prog w) A E none Q acc C) W hsz J s₁.heap s₁.toks hcell hkind hx
    ⟨⟨_, Heap.get?_push_size _ rfl, rfl, rfl⟩, hl.push _⟩ ?_ ?_ ?_ (fun b o e => Heap.get?_push_of_some _ e) (by rw [Heap.size_push]; exact Nat.le_succ _) (Nat.le_refl _) hJ turn ?_
  · intro b hb
    rw [Heap.size_push]
    rcases List.mem_cons.mp hb with rfl | hb
    · exact Nat.lt_succ_self _
    · rw [List.mem_singleton.mp hb]; exact Nat.lt_succ_of_lt hax
  · intro b hb
    rw [List.mem_singleton.mp hb]
    cases e : s₁.heap.get? s₁.heap.objs.size with
    | none => rfl
    | some o => exact absurd (Heap.lt_size e) (Nat.lt_irrefl _)
  · intro i h ⟨⟨o, ho, _⟩, _⟩ b hb
    rw [List.mem_singleton.mp hb]
    exact ⟨o, ho⟩
  · intro D C h' tk m' ys news hD hC hDC hn hpl hJn hnews hk htk
    refine ⟨m', hn, fun h'' hs'' => ?_⟩
    obtain ⟨k, ho⟩ := hpl
    have hC0 : s₁.heap.get? C = none := by
      cases e : s₁.heap.get? C with
      | none => rfl
      | some o => have := Heap.get?_push_of_some { cls := .type "list_iterator", data := .fields #[.ref ax, .int 0 0] } e; rw [hC] at this; cases this
    refine done D h'' tk ys.toList news k hJn hD (by rw [Array.toArray_toList]; exact hs''.extBut _ _ hDC ho) (fun p hp => ?_) (fun b o e => hs''.extBut b o (by rintro rfl; rw [hC0] at e; cases e) (hk b o e)) htk
    obtain ⟨a, b, c, d⟩ := hnews p hp
    exact ⟨hs''.extBut _ _ b a, c, d⟩

theorem nmC {M : Model} {scope : Scope} {cl : List (Str × Addr)} {C : Addr} {x : Str} {pos : Pos} {v : Value} {h₀ : Heap} {m : Str → Option Value} {Q : Value → Shared → Prop} (F : Fr h₀ C s.heap m) (hm : m x = some v)
    (h : Q v s) (hk : scope.kind = .function) (hx : (compEnvC scope cl C env).kindOf x = some .local) (hd : (x == ("__debug__" : Str)) = false) :
    wpAny M A (eval (.Name x pos) (compEnvC scope cl C env)) Q E s :=
  wpAny_Name (wpAny_loadName_local (env := compEnvC scope cl C env) (by simpa [compEnvC, relabel] using hk) hx F.ns hm h) hd
end

end
-- B4
section
open PySem PySem.W PyProof.Rows PySem.Calls PySem.Spec PySem.Builtin.Str
noncomputable def bareOf (x : Str) : Str := if (Txt.slice x none (some 1) == Str.ofString ".") = true then Txt.slice x (some 1) none else x
theorem StrsAre.at {vs : List Value} {ss : List Str} (h : StrsAre vs ss) {i : Nat} {v : Value} (e : vs[i]? = some v) : Ex2 fun x t => v = .str x t ∧ ss[i]? = some x := by
  induction h generalizing i with
  | nil => simp at e
  | cons x t h ih =>
    cases i with
    | zero => simp at e; exact ⟨x, t, e.symm, by simp⟩
    | succ i => simpa using ih (by simpa using e)
theorem StrsAre.snoc {vs : List Value} {ss : List Str} (h : StrsAre vs ss) (x : Str) (t : Tok) : StrsAre (vs ++ [.str x t]) (ss ++ [x]) := by
  induction h with
  | nil => exact .cons x t .nil
  | cons y u _ ih => exact .cons y u ih
theorem take_snoc {α : Type} {l : List α} {i : Nat} {x : α} (h : l[i]? = some x) : l.take (i + 1) = l.take i ++ [x] := by
  rw [List.take_add_one, h]; rfl
theorem none_of_sub {h h' : Heap} {a : Addr} (hk : Ext h h') (e : h'.get? a = none) : h.get? a = none := by
  cases q : h.get? a with
  | none => rfl
  | some o => rw [hk a o q] at e; cases e
section
variable {w : World} {A : Around} {E : Value → Shared → Prop} {Q : Value → Shared → Prop} {s : Shared} {p : Program} {loose : List Str} {mean : ExcName → Option Value} {mg mb : Str → Option Value}
theorem nmQ {M : Model} {env : Env} {scope : Scope} {cl : List (Str × Addr)} {C : Addr} {x : Str} {pos : Pos} {v : Value} {h₀ : Heap} {m : Str → Option Value}
    (h : Q v s) (F : autoParam (Fr h₀ C s.heap m) aR) (hm : autoParam (m x = some v) aR) (hk : autoParam (scope.kind = .function) aR) (hx : autoParam ((compEnvC scope cl C env).kindOf x = some .local) aR) (hd : autoParam ((x == ("__debug__" : Str)) = false) aR) :
    wpAny M A (eval (.Name x pos) (compEnvC scope cl C env)) Q E s := nmC F hm h hk hx hd
local macro_rules | `(tactic| walk_at "b4 dummy") => `(tactic| fail)
local macro_rules | `(tactic| walk_at "eval Name") => `(tactic| (k_here; refine nmQ ?_))
set_option maxRecDepth 100000 in
set_option maxHeartbeats 8000000 in
theorem law_bare (X : (KF w).In s.heap) (T : Top p loose mean mg mb s.heap) (hroom : A.depth < recursionLimit) (hh : A.handled = none) {l : Addr} {vs : List Value} {ss : List Str} (hl : s.heap.IsList l vs.toArray) (hS : StrsAre vs ss) (hn : ss.length ≤ 100) (hx : ∀ x ∈ ss, x.length ≤ 1000)
    (h : ∀ D h' tk ys k, StrsAre ys (ss.map bareOf) → h'.get? D = some (seqObj "list" ys.toArray k) → s.heap.get? D = none →
      (Ext s.heap h') → Q (.ref D) { s with heap := h', toks := tk }) :
    wpAny (model PG w) A (call (.ref 228) [.ref l]) Q E s := by
  have hfill : PySem.Challenge.rw_in0041_01 = PySem.Challenge.rw_in0041_01 := rfl
  refine enter (binds := [(Str.ofString "rows", .ref l)]) X T (by rfl) (by rfl) hroom (BindsTo.of_eq rfl) (locs rfl) (by decide) rfl rfl rfl ?_
  intro h₁ F
  have N : News s.heap s.heap.objs.size h₁ [] := News.nil
  refine wpAny_execs_cons (wpAny_Return_some ?_)
  refine comp_list hh (closureFor_none (by decide)) (by decide) rfl (by decide) rfl ?_
  walk1
  refine ⟨l, vs, fun i ys _ => StrsAre ys ((ss.map bareOf).take i), rfl, hl.at fun o e => F.keep _ o e, by rw [sizeLine_eq, hS.length]; exact ar2 ‹_› (by decide), .nil, ?_, ?_⟩
  · intro C i v ys own news h₃ tk₃ m₃ E' htk hv hJ F₃ hm N₃
    obtain ⟨x, t, rfl, hx'⟩ := StrsAre.at hS hv
    have hxl : x.length ≤ 1000 := hx x (List.mem_of_getElem? hx')
    have hb : (ss.map bareOf).take (i + 1) = (ss.map bareOf).take i ++ [bareOf x] := take_snoc (by simp [hx'])
    dsimp only at htk F₃ N₃
    rw [List.forIn_nil]
    refine wpAny_pure ?_
    rw [if_pos rfl]
    k_steps
    all_goals (refine EltEnd.plain (by assumption) (by assumption) ?_; show StrsAre _ _; rw [hb, bareOf])
    · rw [if_pos (by assumption)]; exact Mine.StrsAre.snoc hJ _ _
    · rename_i q; rw [if_neg (by rw [q]; decide)]; exact Mine.StrsAre.snoc hJ _ _
  · intro D h' tk ys news k hJ hD hget _ hk _
    refine h D h' tk ys k ?_ hget ?_ ?_
    · rw [hS.length, List.take_of_length_le (by simp)] at hJ; exact hJ
    · exact none_of_sub F.keep hD
    · exact fun b o e => hk b o (F.keep b o e)
end

end
-- AS
section
open PySem PySem.W PyProof.Rows PySem.Calls PySem.Spec PySem.Builtin.Str
section
variable {M : Model} {A : Around} {α β : Type} {f : α → Sem β} {Q : β → Shared → Prop} {E : Value → Shared → Prop} {s : Shared}
noncomputable def kont (M : Model) (A : Around) (f : α → Sem β) (Q : β → Shared → Prop) (E : Value → Shared → Prop) (a : α) (s : Shared) : Prop := wpAny M A (f a) Q E s
theorem wB {m : Sem α} (h : wpAny M A m (kont M A f Q E) E s) : wpAny M A (m >>= f) Q E s := wpAny_bind h
theorem kI {a : α} (h : wpAny M A (f a) Q E s) : kont M A f Q E a s := h
end
noncomputable def kTwo {α β : Type} (M : Model) (A : Around) (r : Sem Value) (g : α → Value → Sem β) (Q : β → Shared → Prop) (E : Value → Shared → Prop) : α → Shared → Prop := fun a s₁ => wpAny M A r (kont M A (g a) Q E) E s₁
noncomputable abbrev kNx {α : Type} (Q : Flow → Shared → Prop) : α → Shared → Prop := fun _ => Q .next
noncomputable abbrev kRt (Q : Flow → Shared → Prop) : Value → Shared → Prop := fun v => Q (.ret v)
noncomputable def kBk (M : Model) (A : Around) (rest : List Stmt) (env : Env) (Q : Flow → Shared → Prop) (E : Value → Shared → Prop) : Flow → Shared → Prop := fun f s' => match f with | .next => wpAny M A (execs rest env) Q E s' | f => Q f s'
section
variable {M : Model} {A : Around} {E : Value → Shared → Prop} {s : Shared} {env : Env}
theorem kTI {α β : Type} {r : Sem Value} {g : α → Value → Sem β} {Q : β → Shared → Prop} {a : α} (h : wpAny M A r (kont M A (g a) Q E) E s) : kTwo M A r g Q E a s := h
theorem kBI {rest : List Stmt} {Q : Flow → Shared → Prop} (h : wpAny M A (execs rest env) Q E s) : kBk M A rest env Q E .next s := h
theorem kBR {rest : List Stmt} {Q : Flow → Shared → Prop} {v : Value} (h : Q (.ret v) s) : kBk M A rest env Q E (.ret v) s := h
theorem eCons {st : Stmt} {rest : List Stmt} {Q : Flow → Shared → Prop} (h : wpAny M A (exec st env) (kBk M A rest env Q E) E s) : wpAny M A (execs (st :: rest) env) Q E s := wpAny_execs_cons h
theorem eAsg {x : Str} {pos' pos : Pos} {value : Expr} {Q : Flow → Shared → Prop} (h : wpAny M A (eval value env) (kont M A (storeName env x) (kNx Q) E) E s) (hs : autoParam (swapsWith value (some (.Name x pos')) pos.line env = pure false) aR) : wpAny M A (exec (.Assign [.Name x pos'] value pos) env) Q E s := wpAny_Assign_Name h hs
theorem eAug {x : Str} {pos' pos : Pos} {op : Operator} {value : Expr} {Q : Flow → Shared → Prop} (h : wpAny M A (loadName env x) (kTwo M A (eval value env) (inplaceOp op) (kont M A (storeName env x) (kNx Q) E) E) E s) : wpAny M A (exec (.AugAssign (.Name x pos') op value pos) env) Q E s := wpAny_AugAssign_Name h
theorem eTst {l r : Expr} {op : CmpOp} {pos : Pos} {whole : Sem Value} {Q : Bool → Shared → Prop} (h : wpAny M A (eval l env) (kTwo M A (eval r env) (compareOp op) (kont M A truthy Q E) E) E s) (hm : autoParam (behindInMarks op r = false) aR) : wpAny M A (isTrue (.Compare l [op] [r] pos) env whole) Q E s := wpAny_isTrue_Compare1 h hm
theorem eCmp {l r : Expr} {op : CmpOp} {pos : Pos} {Q : Value → Shared → Prop} (h : wpAny M A (eval l env) (kTwo M A (eval r env) (compareOp op) Q E) E s) (hm : autoParam (behindInMarks op r = false) aR) : wpAny M A (eval (.Compare l [op] [r] pos) env) Q E s := wpAny_Compare1 h hm
theorem eBin {l r : Expr} {op : Operator} {pos : Pos} {Q : Value → Shared → Prop} (h : wpAny M A (eval l env) (kTwo M A (eval r env) (binaryOp op) Q E) E s) : wpAny M A (eval (.BinOp l op r pos) env) Q E s := wpAny_BinOp h
theorem eSub {value slice : Expr} {pos : Pos} {Q : Value → Shared → Prop} (h : wpAny M A (eval value env) (kTwo M A (eval slice env) (subscriptTail value slice) Q E) E s) : wpAny M A (eval (.Subscript value slice pos) env) Q E s := Subscript_ h
theorem eRet {e : Expr} {pos : Pos} {Q : Flow → Shared → Prop} (h : wpAny M A (eval e env) (kRt Q) E s) : wpAny M A (exec (.Return (some e) pos) env) Q E s := wpAny_Return_some h
theorem eXpr {prog : Program} {w : World} {e : Expr} {pos : Pos} {Q : Flow → Shared → Prop} (h : wpAny (model prog w) A (eval e env) (kNx Q) E s) (hi : autoParam (interactive env = false) aR) (hs : autoParam (swapsWith e none pos.line env = pure false) aR) : wpAny (model prog w) A (exec (.Expr e pos) env) Q E s := wpAny_Expr_any h hi hs
end
section
variable {M : Model} {A : Around} {E : Value → Shared → Prop} {s : Shared} {env : Env} {pos : Pos} {Q : Value → Shared → Prop} {first : List Value} {t1 t2 t3 : Sem Value}
theorem sp1 {Q : List Value → Shared → Prop} (h : wpAny M A t1 (fun v1 s1 => Q [v1] s1) E s) : wpAny M A (spliced [(false, t1)]) Q E s := spliced_cons (wpAny_mono h (fun _ _ x => spliced_nil x) fun _ _ e => e)
theorem sp2 {Q : List Value → Shared → Prop} (h : wpAny M A t1 (fun v1 s1 => wpAny M A t2 (fun v2 s2 => Q [v1, v2] s2) E s1) E s) : wpAny M A (spliced [(false, t1), (false, t2)]) Q E s := spliced_cons (wpAny_mono h (fun _ _ x => sp1 x) fun _ _ e => e)
theorem sp3 {Q : List Value → Shared → Prop} (h : wpAny M A t1 (fun v1 s1 => wpAny M A t2 (fun v2 s2 => wpAny M A t3 (fun v3 s3 => Q [v1, v2, v3] s3) E s2) E s1) E s) : wpAny M A (spliced [(false, t1), (false, t2), (false, t3)]) Q E s := spliced_cons (wpAny_mono h (fun _ _ x => sp2 x) fun _ _ e => e)
theorem cwb1 {id : String} (h : wpAny M A t1 (kont M A (fun v1 => call (.builtin id) (first ++ [v1])) Q E) E s) : wpAny M A (callWith pos (.builtin id) first [(false, t1)] []) Q E s := Calls.callWith_builtin rfl (evalArgs_plain (sp1 h))
theorem cwb2 {id : String} (h : wpAny M A t1 (kTwo M A t2 (fun v1 v2 => call (.builtin id) (first ++ [v1, v2])) Q E) E s) : wpAny M A (callWith pos (.builtin id) first [(false, t1), (false, t2)] []) Q E s := Calls.callWith_builtin rfl (evalArgs_plain (sp2 h))
theorem cwt1 {id : String} (h : wpAny M A t1 (kont M A (fun v1 => call (.type id) (first ++ [v1])) Q E) E s) : wpAny M A (callWith pos (.type id) first [(false, t1)] []) Q E s := PySem.callWith_type rfl (evalArgs_plain (sp1 h))
theorem cwt2 {id : String} (h : wpAny M A t1 (kTwo M A t2 (fun v1 v2 => call (.type id) (first ++ [v1, v2])) Q E) E s) : wpAny M A (callWith pos (.type id) first [(false, t1), (false, t2)] []) Q E s := PySem.callWith_type rfl (evalArgs_plain (sp2 h))
theorem cwt3 {id : String} (h : wpAny M A t1 (fun v1 s1 => wpAny M A t2 (fun v2 s2 => wpAny M A t3 (fun v3 s3 => wpAny M A (call (.type id) (first ++ [v1, v2, v3])) Q E s3) E s2) E s1) E s) : wpAny M A (callWith pos (.type id) first [(false, t1), (false, t2), (false, t3)] []) Q E s := PySem.callWith_type rfl (evalArgs_plain (sp3 h))
end
section
variable {prog : Program} {w : World} {A : Around} {E : Value → Shared → Prop} {s : Shared} {env : Env} {Q : Value → Shared → Prop} {x : Str} {p pos : Pos} {e₁ e₂ e₃ : Expr}
theorem cN0 (h : wpAny (model prog w) A (eval (.Name x p) env) (kont (model prog w) A (fun f => callWith pos f [] [] []) Q E) E s) : wpAny (model prog w) A (eval (.Call (.Name x p) [] [] pos) env) Q E s := PyProof.Rows.Call_Name rfl h
theorem cN1 (h : wpAny (model prog w) A (eval (.Name x p) env) (kont (model prog w) A (fun f => callWith pos f [] [(false, eval e₁ env)] []) Q E) E s) (hs : autoParam (starEach [e₁] env = [(false, eval e₁ env)]) aR) : wpAny (model prog w) A (eval (.Call (.Name x p) [e₁] [] pos) env) Q E s := PyProof.Rows.Call_Name (by rw [hs]; rfl) h
theorem cN2 (h : wpAny (model prog w) A (eval (.Name x p) env) (kont (model prog w) A (fun f => callWith pos f [] [(false, eval e₁ env), (false, eval e₂ env)] []) Q E) E s) (hs : autoParam (starEach [e₁, e₂] env = [(false, eval e₁ env), (false, eval e₂ env)]) aR) : wpAny (model prog w) A (eval (.Call (.Name x p) [e₁, e₂] [] pos) env) Q E s := PyProof.Rows.Call_Name (by rw [hs]; rfl) h
theorem cN3 (h : wpAny (model prog w) A (eval (.Name x p) env) (kont (model prog w) A (fun f => callWith pos f [] [(false, eval e₁ env), (false, eval e₂ env), (false, eval e₃ env)] []) Q E) E s) (hs : autoParam (starEach [e₁, e₂, e₃] env = [(false, eval e₁ env), (false, eval e₂ env), (false, eval e₃ env)]) aR) : wpAny (model prog w) A (eval (.Call (.Name x p) [e₁, e₂, e₃] [] pos) env) Q E s := PyProof.Rows.Call_Name (by rw [hs]; rfl) h
end
end
local macro_rules | `(tactic| wtm_at "ast") => `(tactic| k_call_by "rf" ["eCons eRet eAsg eAug wpAny_If wpAny_Name wpAny_Constant_int Calls.Constant_str eTst eCmp eBin cN1 cN2 cN3 cwb1 cwb2 cwt1 cwt2 cwt3"])
-- N0
section
open PySem PySem.W PyProof.Rows PySem.Calls PySem.Spec PySem.Builtin.Str
set_option maxRecDepth 100000
set_option maxHeartbeats 4000000
theorem f1 : isSubtype (.type "tuple") (.type "tuple") = pure true := by kernel_rfl
theorem f2 : isSubtype (.type "dict") (.type "dict") = pure true := by kernel_rfl
theorem f3 : isSubtype (.type "type") (.type "type") = pure true := by kernel_rfl
theorem f4 : isSubtype (.type "type") (.type ((Manifest.find? "object").elim "type" fun x => x.metatype)) = pure true := by kernel_rfl
theorem f5 : isSubtype (.type "object") (.type "object") = pure true := by kernel_rfl
theorem f6 : typeLookup (.type "dict") (Str.ofString "__iter__") = pure (some (.builtin "dict.__iter__")) := by rw [typeLookup_type, builtinLookup_eq_fast]; kernel_rfl
theorem f7 : typeLookup (.type "object") (Str.ofString "__weakref__") = pure none := by rw [typeLookup_type, builtinLookup_eq_fast]; kernel_rfl
theorem f8 : typeLookup (.type "list") (Str.ofString "__iter__") = pure (some (.builtin "list.__iter__")) := by rw [typeLookup_type, builtinLookup_eq_fast]; kernel_rfl
section
variable {M : Model} {A : Around} {α : Type} {E : Value → Shared → Prop} {s : Shared}
theorem fq1 {Q : Bool → Shared → Prop} (h : Q true s) : wpAny M A (isSubtype (.type "tuple") (.type "tuple")) Q E s := wpAny_of_eq f1 h
theorem fq2 {Q : Bool → Shared → Prop} (h : Q true s) : wpAny M A (isSubtype (.type "dict") (.type "dict")) Q E s := wpAny_of_eq f2 h
theorem fq4 {Q : Bool → Shared → Prop} (h : Q true s) : wpAny M A (isSubtype (.type "type") (.type ((Manifest.find? "object").elim "type" fun x => x.metatype))) Q E s := wpAny_of_eq f4 h
theorem fq5 {Q : Bool → Shared → Prop} (h : Q true s) : wpAny M A (isSubtype (.type "object") (.type "object")) Q E s := wpAny_of_eq f5 h
theorem fq6 {Q : (Option Value) → Shared → Prop} (h : Q (some (.builtin "dict.__iter__")) s) : wpAny M A (typeLookup (.type "dict") (Str.ofString "__iter__")) Q E s := wpAny_of_eq f6 h
theorem fq7 {Q : (Option Value) → Shared → Prop} (h : Q none s) : wpAny M A (typeLookup (.type "object") (Str.ofString "__weakref__")) Q E s := wpAny_of_eq f7 h
theorem fq8 {Q : (Option Value) → Shared → Prop} (h : Q (some (.builtin "list.__iter__")) s) : wpAny M A (typeLookup (.type "list") (Str.ofString "__iter__")) Q E s := wpAny_of_eq f8 h
end
open Builtin Builtin.Slots
theorem g1 : bestBase [.type "object"] = pure (.type "object") := by kernel_rfl
theorem g2 : slotNamesOf (.type "object") = pure [] := by kernel_rfl
theorem g3 : Builtin.Slots.givesDict (.type "object") = pure false := by kernel_rfl
theorem g4 : Builtin.Slots.givesWeak (.type "object") = pure false := by kernel_rfl
theorem g5 : Builtin.Slots.varSize (.type "object") = pure false := by kernel_rfl
open Builtin Builtin.Slots
theorem g6 : isIdentifier (Str.ofString "obj") = some true := by kernel_rfl
theorem g7 : mangle (Str.ofString "K") (Str.ofString "obj") = Str.ofString "obj" := by decide +kernel
open Builtin Builtin.Slots
theorem g8 : notOverATurnedClass [.type "object"] = pure () := by kernel_rfl
theorem g9 : extendedBase [.type "object"] = pure (.type "object") := by kernel_rfl
theorem g10 : isType (.type "object") = pure true := by kernel_rfl
theorem g11 : typeOf (.type "object") = pure (.type "type") := by kernel_rfl
theorem g12 : mroHook? (.type "type") = pure none := by kernel_rfl
theorem g13 : linearize [.type "object"] mroOf = pure [.type "object"] := by kernel_rfl
theorem g14 : Bind.madeBy (.type "object") = pure (some "object.__new__") := by kernel_rfl
theorem g15 : ((Manifest.find? "object").elim false fun ty => ty.attrs.any (·.1 == "__del__")) = false := by kernel_rfl
theorem g16 : typeLookup (.type "object") (Str.ofString "__new__") = pure (some (.builtin "object.__new__")) := by rw [typeLookup_type, builtinLookup_eq_fast]; kernel_rfl
theorem g17 : classOwn (.type "object") (Str.ofString "__new__") = pure (some (.builtin "object.__new__")) := by kernel_rfl
theorem g18 : decide ((!("object.__new__".endsWith ".__new__")) = true) = false := by decide +kernel
theorem g19 : decide (("object" : String) = "") = false := by decide +kernel
theorem g20 : decide (Builtin.typeSubclassesOfTheStartUp.contains "object" = true) = true := by decide +kernel
theorem g21 : typeLookup (.type "member_descriptor") (Str.ofString "__set_name__") = pure none := by rw [typeLookup_type, builtinLookup_eq_fast]; kernel_rfl
theorem g22 : specialOf .none (Str.ofString "__set_name__") = pure none := by kernel_rfl

end
-- N2
section
open PySem PySem.W PyProof.Rows PySem.Calls PySem.Spec PySem.Builtin.Str
theorem mem_keep {h₀ h : Heap} {news : List (Addr × Obj)} (D : X.Mem h₀ h [] news) : Ext h₀ h := fun b o e => D.keep b o e (by simp [X.away])
end
local macro_rules | `(tactic| x_close) => `(tactic| first
  | exact ⟨rfl, rfl⟩ | exact ⟨rfl, _, fun _ _ e => e, rfl⟩ | exact ⟨_, fun _ _ e => e, rfl⟩
  | ((rename X.Mem _ _ _ _ => D); first
    | exact ⟨_, mem_keep D, rfl⟩ | exact ⟨_, _, mem_keep D, D.at 0 _ _ rfl, (D.nw _ (.head _)).2, rfl, rfl⟩ | exact ⟨_, _, _, mem_keep D, D.at 0 _ _ rfl, rfl, rfl⟩ | exact ⟨_, _, _, mem_keep D, D.at 0 _ _ rfl, (by first | exact (D.nw _ (.head _)).2 | decide +kernel), rfl, rfl⟩ | exact ⟨_, _, _, _, _, mem_keep D, (D.nw _ (.head _)).2, D.at 0 _ _ rfl, rfl, rfl⟩))
section
set_option maxRecDepth 100000 in
set_option maxHeartbeats 8000000 in
theorem collect1x {w : World} {prog : Program} {A : Around} {E : Value → Shared → Prop} {h : Heap} {g : Array GenState} {d : Drawn} {t : Nat} {os : OsState} {sl : Addr} {x : Str} {to : Tok}
  (hsl : h.get? sl = some ⟨.type "list", none, .seq #[.str x to] 0, #[]⟩) :
   wpAny (model prog w) A (runValue (Code.builtin "proto.collect" ⟨[.ref sl], []⟩)) (fun v s' => Ex3 fun h' C k => And4 ((Ext h h')) (h'.get? C = some ⟨.type "list", none, .seq #[.str x to] k, #[]⟩) (v = .ref C) (s' = ⟨h', g, d, t, os⟩)) E ⟨h, g, d, t, os⟩ := by
  x_run
theorem collect1 {w : World} {prog : Program} {A : Around} {Q : Value → Shared → Prop} {E : Value → Shared → Prop} {h : Heap} {g : Array GenState} {d : Drawn} {t : Nat} {os : OsState} {sl : Addr} {x : Str} {to : Tok}
  (hsl : h.get? sl = some ⟨.type "list", none, .seq #[.str x to] 0, #[]⟩)
  (hq : ∀ h' C k, (Ext h h') → h'.get? C = some ⟨.type "list", none, .seq #[.str x to] k, #[]⟩ → Q (.ref C) ⟨h', g, d, t, os⟩) :
   wpAny (model prog w) A (runValue (Code.builtin "proto.collect" ⟨[.ref sl], []⟩)) Q E ⟨h, g, d, t, os⟩ :=
  wpAny_mono (collect1x hsl) (fun v s' ⟨h', C, k, a, b, c, e⟩ => by subst c e; exact hq _ _ _ a b) fun _ _ e => e

end
-- N1
section
open PySem PySem.W PyProof.Rows PySem.Calls PySem.Spec PySem.Builtin.Str
set_option maxRecDepth 100000 in
set_option maxHeartbeats 4000000 in
theorem slots_read {w : World} {prog : Program} {A : Around} {Q : Builtin.Slots.Plan → Shared → Prop} {E : Value → Shared → Prop} {h : Heap} {g : Array GenState} {d : Drawn} {t : Nat} {os : OsState} {es : Array DictEntry} {k3 : Int} {t3 to : Tok} {sl : Addr}
  (hf : es.find? (fun x => x.key.isStr (Str.ofString "__slots__")) = some ⟨k3, .str (Str.ofString "__slots__") t3, .ref sl⟩) (ho : es.any (fun x => x.key.isStr (Str.ofString "obj")) = false)
  (hsl : h.get? sl = some ⟨.type "list", none, .seq #[.str (Str.ofString "obj") to] 0, #[]⟩)
  (hq : ∀ h', (Ext h h') → Q ⟨[Str.ofString "obj"], false, false, []⟩ ⟨h', g, d, t, os⟩) :
   wpAny (model prog w) A (Builtin.Slots.read (Str.ofString "K") [.type "object"] es) Q E ⟨h, g, d, t, os⟩ := by
  repeat (first | with_reducible (first | refine wpAny_pure ?_ | refine wpAny_bind ?_ | refine wpAny_holding ?_ | refine wpAny_rule ?_ | refine wpAny_alloc' ?_ | refine wpAny_mkStr' ?_ | refine wpAny_of_eq f1 ?_ | refine wpAny_of_eq f2 ?_ | refine wpAny_of_eq f3 ?_ | refine wpAny_of_eq f4 ?_ | refine wpAny_of_eq f5 ?_ | refine wpAny_of_eq f6 ?_ | refine wpAny_of_eq f7 ?_ | refine wpAny_of_eq f8 ?_ | refine wpAny_of_eq g1 ?_ | refine wpAny_of_eq g2 ?_ | refine wpAny_of_eq g3 ?_ | refine wpAny_of_eq g4 ?_ | refine wpAny_of_eq g5 ?_ ) | ((with_reducible apply wpAny_load'); focus (heap_get; done)) | ((with_reducible apply wpAny_loadPart'); focus (heap_get; done)) | ((with_reducible apply wpAny_updatePart'); focus (heap_get; done)) | ((with_reducible apply wpAny_update'); focus (heap_get; done)) | ((with_reducible apply wpAny_ite_false); focus (with_reducible assumption; done)) | ((with_reducible apply wpAny_ite_true); focus (with_reducible assumption; done)) | ((with_reducible apply wpAny_ite_false); focus (rfl; done)) | ((with_reducible apply wpAny_ite_true); focus (rfl; done)) | wp_delta | with_reducible_and_instances refine wpAny_pure ?_ | with_reducible_and_instances refine wpAny_bind ?_)
  rw [hf]
  repeat (first | with_reducible (first | refine wpAny_pure ?_ | refine wpAny_bind ?_ | refine wpAny_holding ?_ | refine wpAny_rule ?_ | refine wpAny_alloc' ?_ | refine wpAny_mkStr' ?_ | refine wpAny_of_eq f1 ?_ | refine wpAny_of_eq f2 ?_ | refine wpAny_of_eq f3 ?_ | refine wpAny_of_eq f4 ?_ | refine wpAny_of_eq f5 ?_ | refine wpAny_of_eq f6 ?_ | refine wpAny_of_eq f7 ?_ | refine wpAny_of_eq f8 ?_ | refine wpAny_of_eq g1 ?_ | refine wpAny_of_eq g2 ?_ | refine wpAny_of_eq g3 ?_ | refine wpAny_of_eq g4 ?_ | refine wpAny_of_eq g5 ?_ ) | ((with_reducible apply wpAny_load'); focus (heap_get; done)) | ((with_reducible apply wpAny_loadPart'); focus (heap_get; done)) | ((with_reducible apply wpAny_updatePart'); focus (heap_get; done)) | ((with_reducible apply wpAny_update'); focus (heap_get; done)) | ((with_reducible apply wpAny_ite_false); focus (with_reducible assumption; done)) | ((with_reducible apply wpAny_ite_true); focus (with_reducible assumption; done)) | ((with_reducible apply wpAny_ite_false); focus (rfl; done)) | ((with_reducible apply wpAny_ite_true); focus (rfl; done)) | wp_delta | with_reducible_and_instances refine wpAny_pure ?_ | with_reducible_and_instances refine wpAny_bind ?_)
  refine collect1 hsl fun h' C k hk hC => ?_
  repeat (first | with_reducible (first | refine wpAny_pure ?_ | refine wpAny_bind ?_ | refine wpAny_holding ?_ | refine wpAny_rule ?_ | refine wpAny_alloc' ?_ | refine wpAny_mkStr' ?_ | refine wpAny_of_eq f1 ?_ | refine wpAny_of_eq f2 ?_ | refine wpAny_of_eq f3 ?_ | refine wpAny_of_eq f4 ?_ | refine wpAny_of_eq f5 ?_ | refine wpAny_of_eq f6 ?_ | refine wpAny_of_eq f7 ?_ | refine wpAny_of_eq f8 ?_ | refine wpAny_of_eq g1 ?_ | refine wpAny_of_eq g2 ?_ | refine wpAny_of_eq g3 ?_ | refine wpAny_of_eq g4 ?_ | refine wpAny_of_eq g5 ?_ ) | ((with_reducible apply wpAny_load'); focus (heap_get; done)) | ((with_reducible apply wpAny_loadPart'); focus (heap_get; done)) | ((with_reducible apply wpAny_updatePart'); focus (heap_get; done)) | ((with_reducible apply wpAny_update'); focus (heap_get; done)) | ((with_reducible apply wpAny_ite_false); focus (with_reducible assumption; done)) | ((with_reducible apply wpAny_ite_true); focus (with_reducible assumption; done)) | ((with_reducible apply wpAny_ite_false); focus (rfl; done)) | ((with_reducible apply wpAny_ite_true); focus (rfl; done)) | wp_delta | with_reducible_and_instances refine wpAny_pure ?_ | with_reducible_and_instances refine wpAny_bind ?_)
  rw [g6]
  repeat (first | with_reducible (first | refine wpAny_pure ?_ | refine wpAny_bind ?_ | refine wpAny_holding ?_ | refine wpAny_rule ?_ | refine wpAny_alloc' ?_ | refine wpAny_mkStr' ?_ | refine wpAny_of_eq f1 ?_ | refine wpAny_of_eq f2 ?_ | refine wpAny_of_eq f3 ?_ | refine wpAny_of_eq f4 ?_ | refine wpAny_of_eq f5 ?_ | refine wpAny_of_eq f6 ?_ | refine wpAny_of_eq f7 ?_ | refine wpAny_of_eq f8 ?_ | refine wpAny_of_eq g1 ?_ | refine wpAny_of_eq g2 ?_ | refine wpAny_of_eq g3 ?_ | refine wpAny_of_eq g4 ?_ | refine wpAny_of_eq g5 ?_ ) | ((with_reducible apply wpAny_load'); focus (heap_get; done)) | ((with_reducible apply wpAny_loadPart'); focus (heap_get; done)) | ((with_reducible apply wpAny_updatePart'); focus (heap_get; done)) | ((with_reducible apply wpAny_update'); focus (heap_get; done)) | ((with_reducible apply wpAny_ite_false); focus (with_reducible assumption; done)) | ((with_reducible apply wpAny_ite_true); focus (with_reducible assumption; done)) | ((with_reducible apply wpAny_ite_false); focus (rfl; done)) | ((with_reducible apply wpAny_ite_true); focus (rfl; done)) | wp_delta | with_reducible_and_instances refine wpAny_pure ?_ | with_reducible_and_instances refine wpAny_bind ?_)
  refine wpAny_ite_false (show decide (((es.any fun x => x.key.isStr (Builtin.Slots.mangle (Str.ofString "K") (Str.ofString "obj"))) && _) = true) = false from by rw [g7, ho]; rfl) ?_
  repeat (first | with_reducible (first | refine wpAny_pure ?_ | refine wpAny_bind ?_ | refine wpAny_holding ?_ | refine wpAny_rule ?_ | refine wpAny_alloc' ?_ | refine wpAny_mkStr' ?_ | refine wpAny_of_eq f1 ?_ | refine wpAny_of_eq f2 ?_ | refine wpAny_of_eq f3 ?_ | refine wpAny_of_eq f4 ?_ | refine wpAny_of_eq f5 ?_ | refine wpAny_of_eq f6 ?_ | refine wpAny_of_eq f7 ?_ | refine wpAny_of_eq f8 ?_ | refine wpAny_of_eq g1 ?_ | refine wpAny_of_eq g2 ?_ | refine wpAny_of_eq g3 ?_ | refine wpAny_of_eq g4 ?_ | refine wpAny_of_eq g5 ?_ ) | ((with_reducible apply wpAny_load'); focus (heap_get; done)) | ((with_reducible apply wpAny_loadPart'); focus (heap_get; done)) | ((with_reducible apply wpAny_updatePart'); focus (heap_get; done)) | ((with_reducible apply wpAny_update'); focus (heap_get; done)) | ((with_reducible apply wpAny_ite_false); focus (with_reducible assumption; done)) | ((with_reducible apply wpAny_ite_true); focus (with_reducible assumption; done)) | ((with_reducible apply wpAny_ite_false); focus (rfl; done)) | ((with_reducible apply wpAny_ite_true); focus (rfl; done)) | wp_delta | with_reducible_and_instances refine wpAny_pure ?_ | with_reducible_and_instances refine wpAny_bind ?_)
  show Q ⟨[Builtin.Slots.mangle (Str.ofString "K") (Str.ofString "obj")], false, false, []⟩ _
  rw [g7]
  exact hq _ hk

end
-- N3
section
open PySem PySem.W PyProof.Rows PySem.Calls PySem.Spec PySem.Builtin.Str
section
variable {M : Model} {A : Around} {E : Value → Shared → Prop} {h : Heap} {g : Array GenState} {d : Drawn} {t : Nat} {os : OsState}
theorem al {o : Obj} {Q : Addr → Shared → Prop} (hf : o.isFreed = false) (hq : ∀ a h', (Ext h h') → h.get? a = none → h'.get? a = some o → Q a ⟨h', g, d, t, os⟩) : wpAny M A (alloc o) Q E ⟨h, g, d, t, os⟩ :=
  wpAny_alloc' (hq _ _ (fun _ _ e => Heap.get?_push_of_some _ e) (Heap.get?_none_of_le (Nat.le_refl _)) (Heap.get?_push_size _ hf))
theorem upP {a : Addr} {part : Option Value} {f : Obj → Obj} {o : Obj} {Q : Unit → Shared → Prop} (ho : h.get? a = some o) (hf : (f o).isFreed = false)
    (hq : ∀ h', (ExtB a h h') → h'.get? a = some (f o) → Q () ⟨h', g, d, t, os⟩) : wpAny M A (updatePart a part f) Q E ⟨h, g, d, t, os⟩ :=
  wpAny_updatePart' ho (hq _ (fun b o' hb e => (Heap.get?_update_other _ _ (Ne.symm hb)).trans e) (Heap.get?_update_self _ ho hf))
theorem up {a : Addr} {f : Obj → Obj} {o : Obj} {Q : Unit → Shared → Prop} (ho : h.get? a = some o) (hf : (f o).isFreed = false)
    (hq : ∀ h', (ExtB a h h') → h'.get? a = some (f o) → Q () ⟨h', g, d, t, os⟩) : wpAny M A (update a f) Q E ⟨h, g, d, t, os⟩ :=
  wpAny_update' ho (hq _ (fun b o' hb e => (Heap.get?_update_other _ _ (Ne.symm hb)).trans e) (Heap.get?_update_self _ ho hf))
end
theorem sl_up (sl : List (Option Value)) (i : Nat) (v : Option Value) : (sl.toArray ++ Array.replicate (i + 1 - sl.toArray.size) none).setIfInBounds i v = ((sl ++ List.replicate (i + 1 - sl.length) none).set i v).toArray := by apply Array.ext'; simp
theorem upS {M : Model} {A : Around} {E : Value → Shared → Prop} {h : Heap} {g : Array GenState} {d : Drawn} {t : Nat} {os : OsState} {C : Addr} {part : Option Value} {i : Nat} {v : Option Value} {cls : Value} {dd : Option Addr} {dt : Data} {sl sl' : List (Option Value)} {Q : Unit → Shared → Prop}
    (ho : h.get? C = some ⟨cls, dd, dt, sl.toArray⟩) (hs : (sl ++ List.replicate (i + 1 - sl.length) none).set i v = sl') (hf : Obj.isFreed ⟨cls, dd, dt, sl'.toArray⟩ = false)
    (hq : ∀ h', (ExtB C h h') → h'.get? C = some ⟨cls, dd, dt, sl'.toArray⟩ → Q () ⟨h', g, d, t, os⟩) :
    wpAny M A (updatePart C part fun o => { o with slots := (o.slots ++ Array.replicate (i + 1 - o.slots.size) none).setIfInBounds i v }) Q E ⟨h, g, d, t, os⟩ := by
  have e : ({ (⟨cls, dd, dt, sl.toArray⟩ : Obj) with slots := (sl.toArray ++ Array.replicate (i + 1 - sl.toArray.size) none).setIfInBounds i v } : Obj) = ⟨cls, dd, dt, sl'.toArray⟩ := by rw [sl_up, hs]
  refine upP ho ?_ ?_
  · show Obj.isFreed { (⟨cls, dd, dt, sl.toArray⟩ : Obj) with slots := (sl.toArray ++ Array.replicate (i + 1 - sl.toArray.size) none).setIfInBounds i v } = false
    rw [e]; exact hf
  · intro h' k ge
    exact hq h' k (ge.trans (congrArg some e))
theorem ne_new {h : Heap} {a b : Addr} {o : Obj} (ha : h.get? a = none) (hb : h.get? b = some o) : b ≠ a := fun e => by rw [e, ha] at hb; cases hb
theorem tcw {α : Type} {M : Model} {A : Around} {E : Value → Shared → Prop} {s : Shared} {m : Sem α} {k : Value → Sem α} {Q : α → Shared → Prop} (h : wpAny M A m Q (fun e s' => wpAny M A (k e) Q E s') s) : wpAny M A (Sem.tryCatch m k) Q E s := wpAny_tryCatch h
theorem forIn_same {M : Model} {A : Around} {E : Value → Shared → Prop} {s : Shared} {α β : Type} {f : α → β → Sem (ForInStep β)} {xs : Array α} {b : β} {Q : β → Shared → Prop}
    (hf : ∀ x ∈ xs, wpAny M A (f x b) (fun r s' => r = .yield b ∧ s' = s) E s) (hq : Q b s) : wpAny M A (forIn xs b f) Q E s := by
  refine MeetsSeq2.wpAny_forIn_array f (fun rest b' s' => b' = b ∧ s' = s ∧ ∀ x ∈ rest, x ∈ xs.toList) Q ?_ ?_ xs b ⟨rfl, rfl, fun _ h => h⟩
  · rintro x rest b' s' ⟨rfl, rfl, hm⟩
    refine wpAny_mono (hf x (by simpa using hm x (List.mem_cons_self ..))) (fun r s'' hr => ?_) fun _ _ e => e
    obtain ⟨rfl, rfl⟩ := hr
    exact ⟨rfl, rfl, fun y hy => hm y (List.mem_cons_of_mem _ hy)⟩
  · rintro b' s' ⟨rfl, rfl, _⟩
    exact hq
noncomputable def Harm (h : Heap) (e : DictEntry) : Prop := (Ex2 fun k t => e.key = .str k t) ∧ Builtin.laidUnderItsOwnName e.key e.val = false ∧ ((Ex3 fun a T o => And4 (e.val = .ref a) (h.get? a = some o) (o.cls = .type T) (typeLookup (.type T) (Str.ofString "__set_name__") = pure none)) ∨ specialOf e.val (Str.ofString "__set_name__") = pure none)
theorem harm4 {h h' : Heap} {es2 : Array DictEntry} {MD : Addr} {dm : Option Addr} {dt : Data} {sl : Array (Option Value)} {hh h2 : Int} {tk t2 : Tok} (H : ∀ e ∈ es2, Harm h e) (k : Ext h h') (eM : h'.get? MD = some ⟨.type "member_descriptor", dm, dt, sl⟩) :
    ∀ e ∈ (es2.push ⟨hh, .str (Str.ofString "obj") tk, .ref MD⟩).push ⟨h2, .str (Str.ofString "__doc__") t2, .none⟩, Harm h' e := by
  intro e he
  rcases Array.mem_push.mp he with he | rfl
  · rcases Array.mem_push.mp he with he | rfl
    · obtain ⟨a, b, c⟩ := H e he
      refine ⟨a, b, ?_⟩
      rcases c with ⟨a, T, o, h1, h2, h3, h4⟩ | c
      · exact .inl ⟨a, T, o, h1, k _ _ h2, h3, h4⟩
      · exact .inr c
    · exact ⟨⟨_, _, rfl⟩, by kernel_rfl, .inl ⟨MD, _, _, rfl, eM, rfl, g21⟩⟩
  · exact ⟨⟨_, _, rfl⟩, by kernel_rfl, .inr g22⟩
end
local macro_rules | `(tactic| wtm_at "sb") => `(tactic| repeat k_call_by "rf" ["kI wB wpAny_pure wpAny_holding wpAny_rule wpAny_fresh' wpAny_askSetting tcw"])
local macro_rules | `(tactic| k_call_by "ft" $x) => `(tactic| ((with_reducible refine wpAny_of_eq $x ?_); wtm_at "sb"))
local macro_rules | `(tactic| wtm_at "wb") => `(tactic| ((with_reducible_and_instances first | refine wpAny_pure ?_ | refine wB ?_); wtm_at "sb"))
local macro_rules | `(tactic| wtm_at "ld") => `(tactic| ((first | (with_reducible apply wpAny_load'; focus (heap_get; done)) | (with_reducible apply wpAny_loadPart'; focus (heap_get; done))); wtm_at "sb"))
local macro_rules | `(tactic| wtm_at "fts") => `(tactic| (k_call_by "rf" ["fq6 fq7 fq8 fq1 fq2 fq4 fq5"]; wtm_at "sb"))
local macro_rules | `(tactic| wtm_at "ifa") => `(tactic| ((first | (with_reducible apply wpAny_ite_false; focus (with_reducible assumption; done)) | (with_reducible apply wpAny_ite_true; focus (with_reducible assumption; done))); wtm_at "sb"))
section
noncomputable abbrev OB (es : Array DictEntry) : Obj := { cls := .type "dict", data := .dict es }
noncomputable abbrev CO (bT N : Addr) (tk tq : Tok) (sq : Str) (mro : List Value) (hd : Bool) (sn : List Str) (del : Bool) (more : List (Option Value)) : Obj := ⟨.type "type", none, .cls { name := Str.ofString "K", bases := [.type "object"], mro := mro, ns := N, qualname := sq, hasDict := hd, slotNames := sn, hasDel := del }, (some (.ref bT) :: none :: some (.str (Str.ofString "K") tk) :: some (.str sq tq) :: more).toArray⟩
noncomputable abbrev OE (es : Array DictEntry) (m : Nat) : Obj := ⟨.type "dict", none, .dict es m, #[]⟩
noncomputable abbrev OD (es : Array DictEntry) : Obj := Obj.dropName (Str.ofString "__qualname__") (OB es)
theorem tl_K {M : Model} {A : Around} {E : Value → Shared → Prop} {h : Heap} {g : Array GenState} {d : Drawn} {t : Nat} {os : OsState} {C bT N : Addr} {tk tq : Tok} {sq : Str} {hd del : Bool} {sn : List Str} {more : List (Option Value)} {name : Str} {oN : Obj} {r r2 : Option Value} {Q : Option Value → Shared → Prop}
    (eC : h.get? C = some (CO bT N tk tq sq [.ref C, .type "object"] hd sn del more)) (eN : h.get? N = some oN) (l : nsLook name oN = pure r) (b : classOwn (.type "object") name = pure r2)
    (hq : Q (r <|> r2) ⟨h, g, d, t, os⟩) : wpAny M A (typeLookup (.ref C) name) Q E ⟨h, g, d, t, os⟩ := by
  unfold typeLookup
  wtm_at "sb"
  (wp_delta; wtm_at "sb")
  repeat (first | k_call_by "ft" (l) | k_call_by "ft" (b) | (wp_delta; wtm_at "sb") | wtm_at "ld")
  cases r with
  | some v => ((repeat (first | (wp_delta; wtm_at "sb") | ((with_reducible_and_instances first | refine wpAny_pure ?_ | refine wB ?_); wtm_at "sb"))); exact hq)
  | none =>
    repeat (first | k_call_by "ft" (b) | (wp_delta; wtm_at "sb") | wtm_at "ld" | ((with_reducible_and_instances first | refine wpAny_pure ?_ | refine wB ?_); wtm_at "sb"))
    cases r2 with
    | some v => ((repeat (first | (wp_delta; wtm_at "sb") | ((with_reducible_and_instances first | refine wpAny_pure ?_ | refine wB ?_); wtm_at "sb"))); exact hq)
    | none => ((repeat (first | (wp_delta; wtm_at "sb") | ((with_reducible_and_instances first | refine wpAny_pure ?_ | refine wB ?_); wtm_at "sb"))); exact hq)

end
-- N5
section
open PySem PySem.W PyProof.Rows PySem.Calls PySem.Spec PySem.Builtin.Str
set_option maxRecDepth 100000 in
set_option maxHeartbeats 8000000 in
theorem super_x {w : World} {prog : Program} {A : Around} {E : Value → Shared → Prop} {h : Heap} {g : Array GenState} {d : Drawn} {t : Nat} {os : OsState} {C bT N : Addr} {tk tq : Tok} {sq : Str} 
  (eC : h.get? C = some ⟨.type "type", none, .cls { name := Str.ofString "K", bases := [.type "object"], mro := [.ref C, .type "object"], ns := N, qualname := sq, hasDict := false, slotNames := [Str.ofString "obj"], hasDel := false }, #[some (.ref bT), none, some (.str (Str.ofString "K") tk), some (.str sq tq), some (.builtin "object.__new__"), some (.bool false)]⟩) :
   wpAny (model prog w) A (call (.type "super") [.ref C, .ref C]) (fun v s' => Ex2 fun h' S => And5 ((Ext h h')) (h'.get? S = some ⟨.type "super", none, .fields #[.ref C, .ref C, .ref C], #[]⟩) (h.get? S = none) (v = .ref S) (s' = ⟨h', g, d, t, os⟩)) E ⟨h, g, d, t, os⟩ := by
  x_run
section
set_option maxRecDepth 100000 in
set_option maxHeartbeats 8000000 in
theorem cmget_x {w : World} {prog : Program} {A : Around} {E : Value → Shared → Prop} {h : Heap} {g : Array GenState} {d : Drawn} {t : Nat} {os : OsState} {C bT N : Addr} {tk tq : Tok} {sq : Str} (eC : h.get? C = some ⟨.type "type", none, .cls { name := Str.ofString "K", bases := [.type "object"], mro := [.ref C, .type "object"], ns := N, qualname := sq, hasDict := false, slotNames := [Str.ofString "obj"], hasDel := false }, #[some (.ref bT), none, some (.str (Str.ofString "K") tk), some (.str sq tq), some (.builtin "object.__new__"), some (.bool false)]⟩) :
   wpAny (model prog w) A (call (.builtin "classmethod_descriptor.__get__") [.builtin "object.__init_subclass__", .none, .ref C]) (fun v s' => Ex2 fun h' S => And5 ((Ext h h')) (h'.get? S = some ⟨.type "builtin_function_or_method", none, .fields #[.builtin "object.__init_subclass__", .ref C], #[]⟩) (h.get? S = none) (v = .ref S) (s' = ⟨h', g, d, t, os⟩)) E ⟨h, g, d, t, os⟩ := by
  x_run
end
section
set_option maxRecDepth 100000 in
set_option maxHeartbeats 8000000 in
theorem isub_x {w : World} {prog : Program} {A : Around} {E : Value → Shared → Prop} {h : Heap} {g : Array GenState} {d : Drawn} {t : Nat} {os : OsState} {C bT N : Addr} {tk tq : Tok} (eC : h.get? C = some ⟨.type "type", none, .cls { name := Str.ofString "K", bases := [.type "object"], mro := [.ref C, .type "object"], ns := N, qualname := Str.ofString "cmp_to_key.<locals>.K", hasDict := false, slotNames := [Str.ofString "obj"], hasDel := false }, #[some (.ref bT), none, some (.str (Str.ofString "K") tk), some (.str (Str.ofString "cmp_to_key.<locals>.K") tq), some (.builtin "object.__new__"), some (.bool false)]⟩) {B : Addr} (eB : h.get? B = some ⟨.type "builtin_function_or_method", none, .fields #[.builtin "object.__init_subclass__", .ref C], #[]⟩) :
   wpAny (model prog w) A (call (.ref B) []) (fun v s' => ∃ h', (Ext h h') ∧ s' = ⟨h', g, d, t, os⟩) E ⟨h, g, d, t, os⟩ := by
  x_run
end
theorem i1 : typeLookup (.type "super") (Str.ofString "__getattribute__") = pure (some (.builtin "super.__getattribute__")) := by rw [typeLookup_type, builtinLookup_eq_fast]; kernel_rfl
theorem i2 (S : Addr) : bindSpecial (.builtin "super.__getattribute__") (.ref S) = pure (.builtin "super.__getattribute__", [.ref S]) := by kernel_rfl
theorem i3 : plainId "super.__getattribute__" = true := by decide +kernel
theorem i4 : entryFor table "super.__getattribute__" = some Builtin.«super.__getattribute__» := entryFor_of_fast (by kernel_rfl)
theorem i8 : classOwn (.type "object") (Str.ofString "__init_subclass__") = pure (some (.builtin "object.__init_subclass__")) := by kernel_rfl
theorem i9 : typeOf (.builtin "object.__init_subclass__") = pure (.type "classmethod_descriptor") := by kernel_rfl
theorem i10 : typeLookup (.type "classmethod_descriptor") (Str.ofString "__get__") = pure (some (.builtin "classmethod_descriptor.__get__")) := by rw [typeLookup_type, builtinLookup_eq_fast]; kernel_rfl
theorem i5 : builtinKind "super.__getattribute__" = some .slot := by decide +kernel
theorem i6 : splitId "super.__getattribute__" = some ("super", "__getattribute__") := by decide +kernel
theorem i7 : isSubtype (.type "super") (.type "super") = pure true := by kernel_rfl
theorem chk_super {M : Model} {A : Around} {E : Value → Shared → Prop} {h : Heap} {g : Array GenState} {d : Drawn} {t : Nat} {os : OsState} {S : Addr} {o : Obj} {x : Value} {Q : Unit → Shared → Prop} (hx : h.get? S = some o) (hc : o.cls = .type "super") (hq : Q () ⟨h, g, d, t, os⟩) :
    wpAny M A (checkBuiltinCall "super.__getattribute__" ⟨.ref S :: [x], []⟩) Q E ⟨h, g, d, t, os⟩ := by
  simp only [checkBuiltinCall, i5, i6]
  wtm_at "sb"
  (wp_delta; wtm_at "sb")
  (wp_delta; wtm_at "sb")
  with_reducible refine wpAny_loadPart' hx ?_
  wtm_at "sb"
  rw [hc]
  k_call_by "ft" (i7)
  ((with_reducible apply wpAny_ite_false); focus (rfl; done); wtm_at "sb")
  (repeat (first | (wp_delta; wtm_at "sb") | wtm_at "ld" | wtm_at "fts" | wtm_at "ifa" | ((with_reducible apply wpAny_ite_true); focus (rfl; done); wtm_at "sb") | ((with_reducible apply wpAny_ite_false); focus (rfl; done); wtm_at "sb") | ((with_reducible_and_instances first | refine wpAny_pure ?_ | refine wB ?_); wtm_at "sb")))
  exact hq
set_option maxRecDepth 100000 in
set_option maxHeartbeats 1000000 in
theorem init_sub {w : World} {prog : Program} {A : Around} {Q : Value → Shared → Prop} {E : Value → Shared → Prop} {h : Heap} {g : Array GenState} {d : Drawn} {t : Nat} {os : OsState} {C bT N S : Addr} {tk tq : Tok} {sq : Str} {oN oS : Obj}
  (eC : h.get? C = some (CO bT N tk tq sq [.ref C, .type "object"] false [Str.ofString "obj"] false [some (.builtin "object.__new__"), some (.bool false)])) 
  (eN : h.get? N = some oN) (hi : nsLook (Str.ofString "__init_subclass__") oN = pure none)
  (e2 : h.get? cStatics = some oS) (ls : nsLook (Str.ofString "thirdparty.any") oS = pure none) (eS : h.get? S = some ⟨.type "super", none, .fields #[.ref C, .ref C, .ref C], #[]⟩)
  (hq : ∀ h' B, (Ext h h') → h'.get? B = some ⟨.type "builtin_function_or_method", none, .fields #[.builtin "object.__init_subclass__", .ref C], #[]⟩ → Q (.ref B) ⟨h', g, d, t + 1, os⟩) :
   wpAny (model prog w) A (getAttr (.ref S) (Str.ofString "__init_subclass__")) Q E ⟨h, g, d, t, os⟩ := by
  wtm_at "sb"
  (repeat (first | (wp_delta; wtm_at "sb") | wtm_at "ld" | wtm_at "fts" | wtm_at "ifa" | ((with_reducible apply wpAny_ite_true); focus (rfl; done); wtm_at "sb") | ((with_reducible apply wpAny_ite_false); focus (rfl; done); wtm_at "sb") | ((with_reducible_and_instances first | refine wpAny_pure ?_ | refine wB ?_); wtm_at "sb")))
  k_call_by "ft" (i1)
  repeat (first | (with_reducible refine wpAny_attempt ?_; wtm_at "sb") | (with_reducible refine wpAny_call ?_) | (wp_delta; wtm_at "sb") | wtm_at "ld" | wtm_at "fts" | wtm_at "ifa" | ((with_reducible apply wpAny_ite_true); focus (rfl; done); wtm_at "sb") | ((with_reducible apply wpAny_ite_false); focus (rfl; done); wtm_at "sb") | wtm_at "wb")
  k_call_by "ft" ((i2 S))
  (wp_delta; wtm_at "sb")
  refine wpAny_call (codeAny_call_builtin i3 i4 ?_)
  refine chk_super eS rfl ?_
  wtm_at "sb"
  iterate 34 (first | k_call_by "ft" (ls) | k_call_by "ft" (hi) | (with_reducible refine wpAny_attempt ?_; wtm_at "sb") | (with_reducible refine wpAny_call ?_) | (wp_delta; wtm_at "sb") | wtm_at "ld" | wtm_at "fts" | wtm_at "ifa" | ((with_reducible apply wpAny_ite_true); focus (rfl; done); wtm_at "sb") | ((with_reducible apply wpAny_ite_false); focus (rfl; done); wtm_at "sb") | wtm_at "wb")
  rw [show (List.drop 1 (List.dropWhile (fun x => x != #[Value.ref C, Value.ref C, Value.ref C][0]) ({ name := Str.ofString "K", bases := [Value.type "object"], mro := [Value.ref C, Value.type "object"], ns := N, qualname := sq, hasDict := false, slotNames := [Str.ofString "obj"] } : ClassData).mro)) = [.type "object"] from by simp]
  repeat (first | k_call_by "ft" (i8) | k_call_by "ft" (i9) | k_call_by "ft" (i10) | k_call_by "ft" (ls) | k_call_by "ft" (hi) | (wp_delta; wtm_at "sb") | wtm_at "ld" | wtm_at "fts" | wtm_at "ifa" | ((with_reducible apply wpAny_ite_true); focus (rfl; done); wtm_at "sb") | ((with_reducible apply wpAny_ite_false); focus (rfl; done); wtm_at "sb") | wtm_at "wb")
  rw [show (if (#[Value.ref C, Value.ref C, Value.ref C][1] == #[Value.ref C, Value.ref C, Value.ref C][2]) = true then Value.none else #[Value.ref C, Value.ref C, Value.ref C][1]) = Value.none from by simp]
  refine wpAny_mono (cmget_x eC) (fun v s' hv => ?_) fun _ _ e => e
  obtain ⟨h', B, k, eB, -, rfl, rfl⟩ := hv
  wtm_at "sb"
  (repeat (first | (wp_delta; wtm_at "sb") | wtm_at "ld" | wtm_at "fts" | wtm_at "ifa" | ((with_reducible apply wpAny_ite_true); focus (rfl; done); wtm_at "sb") | ((with_reducible apply wpAny_ite_false); focus (rfl; done); wtm_at "sb") | ((with_reducible_and_instances first | refine wpAny_pure ?_ | refine wB ?_); wtm_at "sb")))
  exact hq _ _ k eB

end
-- N7
section
open PySem PySem.W PyProof.Rows PySem.Calls PySem.Spec PySem.Builtin.Str
set_option maxRecDepth 100000 in
set_option maxHeartbeats 1000000 in
theorem tnew {w : World} {prog : Program} {A : Around} {Q : PySem.Fin → Shared → Prop} {E : Value → Shared → Prop} {h : Heap} {g : Array GenState} {d : Drawn} {t : Nat} {os : OsState} {bT nsA sl : Addr} {tk to tq t3 : Tok} {es : Array DictEntry} {fl : Nat} {k3 : Int} {sq : Str} {es2 : Array DictEntry} {oS : Obj} {m2 : Nat} {veq : Value}
  (hb : h.get? bT = some ⟨.type "tuple", none, .seq #[.type "object"] 0, #[]⟩) (hn : h.get? nsA = some ⟨.type "dict", none, .dict es fl, #[]⟩) (hs : decide ((nsA == sysModules) = true) = false)
  (hsl : h.get? sl = some ⟨.type "list", none, .seq #[.str (Str.ofString "obj") to] 0, #[]⟩)
  (hf : es.find? (fun x => x.key.isStr (Str.ofString "__slots__")) = some ⟨k3, .str (Str.ofString "__slots__") t3, .ref sl⟩) (ho : es.any (fun x => x.key.isStr (Str.ofString "obj")) = false)
  (hm : decide ((!es.any fun x => x.key.isStr (Str.ofString "__module__")) = true) = false)
  (hz : es.size ≤ 100) (q1 : nsLook (Str.ofString "__qualname__") (OB es) = pure (some (.str sq tq))) (d1 : nsLook (Str.ofString "__doc__") (OB es) = pure none) (q2 : nsHas (Str.ofString "__qualname__") (OB es) = pure true) (harm : ∀ e ∈ es2, Harm h e) (hdel : (es.any fun x => x.key.isStr (Str.ofString "__del__")) = false) (eo : OD es = OE es2 m2) (hz2 : es2.size ≤ 100)
  (nobj : nsLook (Str.ofString "obj") (OE es2 m2) = pure none) (ro : decide (aRefKeyMayBeTheName (Str.ofString "obj") es2 = true) = false)
  (po : ∀ hh tk v, Obj.putName (Str.ofString "obj") hh (.str (Str.ofString "obj") tk) v (OE es2 m2) = OE (es2.push ⟨hh, .str (Str.ofString "obj") tk, v⟩) (m2 + 1))
  (ndoc : ∀ hh tk v, nsLook (Str.ofString "__doc__") (OE (es2.push ⟨hh, .str (Str.ofString "obj") tk, v⟩) (m2 + 1)) = pure none) (rd : ∀ hh tk v, decide (aRefKeyMayBeTheName (Str.ofString "__doc__") (es2.push ⟨hh, .str (Str.ofString "obj") tk, v⟩) = true) = false)
  (pd : ∀ hh tk v h2 t2, Obj.putName (Str.ofString "__doc__") h2 (.str (Str.ofString "__doc__") t2) .none (OE (es2.push ⟨hh, .str (Str.ofString "obj") tk, v⟩) (m2 + 1)) = OE ((es2.push ⟨hh, .str (Str.ofString "obj") tk, v⟩).push ⟨h2, .str (Str.ofString "__doc__") t2, .none⟩) (m2 + 2))
  (e2 : h.get? cStatics = some oS) (ls : nsLook (Str.ofString "thirdparty.any") oS = pure none) (hsq : sq = Str.ofString "cmp_to_key.<locals>.K")
  (nisub : ∀ hh tk v h2 t2, nsLook (Str.ofString "__init_subclass__") (OE ((es2.push ⟨hh, .str (Str.ofString "obj") tk, v⟩).push ⟨h2, .str (Str.ofString "__doc__") t2, .none⟩) (m2 + 2)) = pure none)
  (hq : ∀ h' C N MD hh t1 h2 t2 tk', (Ext h h') → h.get? C = none → h.get? N = none → h'.get? C = some (CO bT N tk tq sq [.ref C, .type "object"] false [Str.ofString "obj"] false [some (.builtin "object.__new__"), some (.bool false)]) →
    h'.get? N = some (OE ((es2.push ⟨hh, .str (Str.ofString "obj") t1, .ref MD⟩).push ⟨h2, .str (Str.ofString "__doc__") t2, .none⟩) (m2 + 2)) →
    h'.get? MD = some ⟨.type "member_descriptor", none, .fields #[.str (Str.ofString "obj") t, .ref C, .builtin "proto.slot", .builtin "proto.slot#set", rawInt 0], #[]⟩ → Q (.done (.ret (.ref C))) ⟨h', g, d, tk', os⟩)
  (neq : ∀ hh tk v h2 t2, nsLook (Str.ofString "__eq__") (OE ((es2.push ⟨hh, .str (Str.ofString "obj") tk, v⟩).push ⟨h2, .str (Str.ofString "__doc__") t2, .none⟩) (m2 + 2)) = pure (some veq))
  (nhash : ∀ hh tk v h2 t2, nsLook (Str.ofString "__hash__") (OE ((es2.push ⟨hh, .str (Str.ofString "obj") tk, v⟩).push ⟨h2, .str (Str.ofString "__doc__") t2, .none⟩) (m2 + 2)) = pure (some .none))
  (n0 : nsLook (Str.ofString "__new__") (OE es2 m2) = pure none) (n1 : nsLook (Str.ofString "__init_subclass__") (OE es2 m2) = pure none) (n2 : nsLook (Str.ofString "__class_getitem__") (OE es2 m2) = pure none) (n3 : nsLook (Str.ofString "__classcell__") (OE es2 m2) = pure none) (n4 : nsLook (Str.ofString "__classdictcell__") (OE es2 m2) = pure none) (n5 : nsLook (Str.ofString "__del__") (OE es2 m2) = pure none) (n6 : nsLook (Str.ofString "__dict__") (OE es2 m2) = pure none) (n7 : nsLook (Str.ofString "__weakref__") (OE es2 m2) = pure none)
 :
   wpAny (model prog w) A (Builtin.«type.__new__» ⟨[.type "type", .str (Str.ofString "K") tk, .ref bT, .ref nsA], []⟩) Q E ⟨h, g, d, t, os⟩ := by
  have zz : decide ((decide (es2.size > sizeLine) && noSuchName (Str.ofString "obj") es2) = true) = false := by rw [show decide (es2.size > sizeLine) = false from decide_eq_false (by rw [sizeLine_eq]; exact Nat.not_lt_of_le (lc (lR1 _) (.h z0 (lN 100) (.g z0 (lN 16777216))) lT hz2))]; rfl
  have zn : decide (Builtin.typeSubclassesOfTheStartUp.contains "object" = true) = true := g20
  have c1 : decide (((Str.ofString "K").cps.any fun c => decide (55296 ≤ c) && decide (c ≤ 57343)) = true) = false := by decide +kernel
  have c2 : decide ((Str.ofString "K").cps.contains 0 = true) = false := by decide +kernel
  have hi : decide ((es.isEmpty || some (Value.builtin "dict.__iter__") == some (Value.builtin "dict.__iter__")) = true) = true := by simp
  wtm_at "sb"
  iterate 118 (first | (wp_delta; wtm_at "sb") | wtm_at "ld" | wtm_at "fts" | wtm_at "ifa" | ((with_reducible apply wpAny_ite_true); focus (rfl; done); wtm_at "sb") | ((with_reducible apply wpAny_ite_false); focus (rfl; done); wtm_at "sb") | ((with_reducible_and_instances first | refine wpAny_pure ?_ | refine wB ?_); wtm_at "sb"))
  rw [show (if ((some #[Value.type "object"]).getD #[]).toList.isEmpty = true then [Value.type "object"] else ((some #[Value.type "object"]).getD #[]).toList) = [.type "object"] from rfl]
  with_reducible refine slots_read (es := es) (to := to) hf ho hsl ?_
  intro hA k0
  clear hb hn hsl
  wtm_at "sb"
  have hz1 : decide (es.size > sizeLine + 1) = false := decide_eq_false (by rw [sizeLine_eq]; exact Nat.not_lt_of_le (lc (lR1 _) (.h z0 (lN 100) (.g z0 (lS (lN 16777216)))) lT hz))
  repeat (first | (wp_delta; wtm_at "sb") | wtm_at "ld" | wtm_at "fts" | wtm_at "ifa" | ((with_reducible apply wpAny_ite_true); focus (rfl; done); wtm_at "sb") | ((with_reducible apply wpAny_ite_false); focus (rfl; done); wtm_at "sb") | ((with_reducible_and_instances first | refine wpAny_pure ?_ | refine wB ?_); wtm_at "sb"))
  refine al (by rfl) ?_
  intro N hB kB nN eN
  have nN0 : h.get? N = none := by
    cases q : h.get? N with
    | none => rfl
    | some o => rw [k0 _ _ q] at nN; cases nN
  have oN : ∀ b o, h.get? b = some o → b ≠ N := fun b o e => ne_new nN (k0 b o e)
  replace k0 : Ext h hB := fun b o e => kB b o (k0 b o e)
  wtm_at "sb"
  repeat (first | k_call_by "ft" (q1) | k_call_by "ft" (q2) | k_call_by "ft" (d1) | (wp_delta; wtm_at "sb") | wtm_at "ld" | wtm_at "fts" | wtm_at "ifa" | ((with_reducible apply wpAny_ite_true); focus (rfl; done); wtm_at "sb") | ((with_reducible apply wpAny_ite_false); focus (rfl; done); wtm_at "sb") | ((with_reducible_and_instances first | refine wpAny_pure ?_ | refine wB ?_); wtm_at "sb"))
  refine al (by rfl) ?_
  intro C hC kC nC eC
  have nC0 : h.get? C = none := by
    cases q : h.get? C with
    | none => rfl
    | some o => rw [k0 _ _ q] at nC; cases nC
  have neNC : N ≠ C := ne_new nC eN
  replace eN := kC _ _ eN
  have oC : ∀ b o, h.get? b = some o → b ≠ C := fun b o e => ne_new nC (k0 b o e)
  replace k0 : Ext h hC := fun b o e => kC b o (k0 b o e)
  wtm_at "sb"
  have s0 : decide ((0:Nat) ≥ sizeLine) = false := by rw [sizeLine_eq]; decide
  have s2 : decide ((2:Nat) ≥ sizeLine) = false := by rw [sizeLine_eq]; decide
  have s3 : decide ((3:Nat) ≥ sizeLine) = false := by rw [sizeLine_eq]; decide
  have s4 : decide ((4:Nat) ≥ sizeLine) = false := by rw [sizeLine_eq]; decide
  have s5 : decide ((5:Nat) ≥ sizeLine) = false := by rw [sizeLine_eq]; decide
  (repeat (first | (wp_delta; wtm_at "sb") | wtm_at "ld" | wtm_at "fts" | wtm_at "ifa" | ((with_reducible apply wpAny_ite_true); focus (rfl; done); wtm_at "sb") | ((with_reducible apply wpAny_ite_false); focus (rfl; done); wtm_at "sb") | ((with_reducible_and_instances first | refine wpAny_pure ?_ | refine wB ?_); wtm_at "sb")))
  refine upS (sl := []) eC (by rfl) (by rfl) ?_
  intro h1 u1 e1
  replace eN := u1 _ _ neNC eN
  replace k0 : Ext h h1 := fun b o e => u1 b o (oC b o e) (k0 b o e)
  replace eC := e1; clear e1
  wtm_at "sb"
  (repeat (first | (wp_delta; wtm_at "sb") | wtm_at "ld" | wtm_at "fts" | wtm_at "ifa" | ((with_reducible apply wpAny_ite_true); focus (rfl; done); wtm_at "sb") | ((with_reducible apply wpAny_ite_false); focus (rfl; done); wtm_at "sb") | ((with_reducible_and_instances first | refine wpAny_pure ?_ | refine wB ?_); wtm_at "sb")))
  refine upS (sl := [some (.ref bT)]) eC (by rfl) (by rfl) ?_
  intro h2 u2 e2
  replace eN := u2 _ _ neNC eN
  replace k0 : Ext h h2 := fun b o e => u2 b o (oC b o e) (k0 b o e)
  replace eC := e2; clear e2
  wtm_at "sb"
  (repeat (first | (wp_delta; wtm_at "sb") | wtm_at "ld" | wtm_at "fts" | wtm_at "ifa" | ((with_reducible apply wpAny_ite_true); focus (rfl; done); wtm_at "sb") | ((with_reducible apply wpAny_ite_false); focus (rfl; done); wtm_at "sb") | ((with_reducible_and_instances first | refine wpAny_pure ?_ | refine wB ?_); wtm_at "sb")))
  refine upS (sl := [some (.ref bT), none, some (.str (Str.ofString "K") tk)]) eC (by rfl) (by rfl) ?_
  intro h3 u3 e3
  replace eN := u3 _ _ neNC eN
  replace k0 : Ext h h3 := fun b o e => u3 b o (oC b o e) (k0 b o e)
  replace eC : h3.get? C = some (CO bT N tk tq sq [] true [] false []) := e3
  clear e3
  wtm_at "sb"
  repeat (first | k_call_by "ft" (q2) | k_call_by "ft" (n0) | k_call_by "ft" (n1) | k_call_by "ft" (n2) | k_call_by "ft" (n3) | k_call_by "ft" (n4) | k_call_by "ft" (n5) | k_call_by "ft" (n6) | k_call_by "ft" (n7) | k_call_by "ft" (g12) | k_call_by "ft" (g13) | (wp_delta; wtm_at "sb") | wtm_at "ld" | wtm_at "fts" | wtm_at "ifa" | ((with_reducible apply wpAny_ite_true); focus (rfl; done); wtm_at "sb") | ((with_reducible apply wpAny_ite_false); focus (rfl; done); wtm_at "sb") | ((with_reducible_and_instances first | refine wpAny_pure ?_ | refine wB ?_); wtm_at "sb"))
  refine upP eN (show (OD es).isFreed = false by rw [eo]; rfl) ?_
  intro h4 u4 e4
  replace eC := u4 _ _ (Ne.symm neNC) eC
  replace k0 : Ext h h4 := fun b o e => u4 b o (oN b o e) (k0 b o e)
  replace eN : h4.get? N = some (OE es2 m2) := e4.trans (congrArg some eo)
  clear e4
  wtm_at "sb"
  repeat (first | k_call_by "ft" (q2) | k_call_by "ft" (n0) | k_call_by "ft" (n1) | k_call_by "ft" (n2) | k_call_by "ft" (n3) | k_call_by "ft" (n4) | k_call_by "ft" (n5) | k_call_by "ft" (n6) | k_call_by "ft" (n7) | k_call_by "ft" (g12) | k_call_by "ft" (g13) | (wp_delta; wtm_at "sb") | wtm_at "ld" | wtm_at "fts" | wtm_at "ifa" | ((with_reducible apply wpAny_ite_true); focus (rfl; done); wtm_at "sb") | ((with_reducible apply wpAny_ite_false); focus (rfl; done); wtm_at "sb") | ((with_reducible_and_instances first | refine wpAny_pure ?_ | refine wB ?_); wtm_at "sb"))
  rw [show (List.filter (fun x => x != Value.ref C) [Value.ref C, Value.type "object"]) = [Value.type "object"] from by simp]
  repeat (first | k_call_by "ft" (q2) | k_call_by "ft" (n0) | k_call_by "ft" (n1) | k_call_by "ft" (n2) | k_call_by "ft" (n3) | k_call_by "ft" (n4) | k_call_by "ft" (n5) | k_call_by "ft" (n6) | k_call_by "ft" (n7) | k_call_by "ft" (g12) | k_call_by "ft" (g13) | (wp_delta; wtm_at "sb") | wtm_at "ld" | wtm_at "fts" | wtm_at "ifa" | ((with_reducible apply wpAny_ite_true); focus (rfl; done); wtm_at "sb") | ((with_reducible apply wpAny_ite_false); focus (rfl; done); wtm_at "sb") | ((with_reducible_and_instances first | refine wpAny_pure ?_ | refine wB ?_); wtm_at "sb"))
  refine up eC (by rfl) ?_
  intro h5 u5 e5
  replace eN := u5 _ _ neNC eN
  replace k0 : Ext h h5 := fun b o e => u5 b o (oC b o e) (k0 b o e)
  replace eC : h5.get? C = some (CO bT N tk tq sq [.ref C, .type "object"] true [] false []) := e5.trans (by show some (CO bT N tk tq sq [.ref C, .type "object"] true [] ((es.any fun x => x.key.isStr (Str.ofString "__del__")) || false) []) = _; rw [hdel]; rfl)
  clear e5
  wtm_at "sb"
  repeat (first | k_call_by "ft" (q2) | k_call_by "ft" (n0) | k_call_by "ft" (n1) | k_call_by "ft" (n2) | k_call_by "ft" (n3) | k_call_by "ft" (n4) | k_call_by "ft" (n5) | k_call_by "ft" (n6) | k_call_by "ft" (n7) | k_call_by "ft" (g14) | (wp_delta; wtm_at "sb") | wtm_at "ld" | wtm_at "fts" | wtm_at "ifa" | ((with_reducible apply wpAny_ite_true); focus (rfl; done); wtm_at "sb") | ((with_reducible apply wpAny_ite_false); focus (rfl; done); wtm_at "sb") | ((with_reducible_and_instances first | refine wpAny_pure ?_ | refine wB ?_); wtm_at "sb"))
  refine upS (sl := [some (.ref bT), none, some (.str (Str.ofString "K") tk), some (.str sq tq)]) eC (by rfl) (by rfl) ?_
  intro h6 u6 e6
  replace eN := u6 _ _ neNC eN
  replace k0 : Ext h h6 := fun b o e => u6 b o (oC b o e) (k0 b o e)
  replace eC : h6.get? C = some (CO bT N tk tq sq [.ref C, .type "object"] true [] false [some (.builtin "object.__new__")]) := e6
  clear e6
  wtm_at "sb"
  repeat (first | k_call_by "ft" (q2) | k_call_by "ft" (n0) | k_call_by "ft" (n1) | k_call_by "ft" (n2) | k_call_by "ft" (n3) | k_call_by "ft" (n4) | k_call_by "ft" (n5) | k_call_by "ft" (n6) | k_call_by "ft" (n7) | k_call_by "ft" (g14) | (wp_delta; wtm_at "sb") | wtm_at "ld" | wtm_at "fts" | wtm_at "ifa" | ((with_reducible apply wpAny_ite_true); focus (rfl; done); wtm_at "sb") | ((with_reducible apply wpAny_ite_false); focus (rfl; done); wtm_at "sb") | ((with_reducible_and_instances first | refine wpAny_pure ?_ | refine wB ?_); wtm_at "sb"))
  refine tl_K eC eN n0 g17 ?_
  have e18 := g18
  wtm_at "sb"
  repeat (first | k_call_by "ft" (q2) | k_call_by "ft" (nobj) | k_call_by "ft" (n0) | k_call_by "ft" (n1) | k_call_by "ft" (n2) | k_call_by "ft" (n3) | k_call_by "ft" (n4) | k_call_by "ft" (n5) | k_call_by "ft" (n6) | k_call_by "ft" (n7) | k_call_by "ft" (g14) | k_call_by "ft" (g18) | (wp_delta; wtm_at "sb") | wtm_at "ld" | wtm_at "fts" | wtm_at "ifa" | ((with_reducible apply wpAny_ite_true); focus (rfl; done); wtm_at "sb") | ((with_reducible apply wpAny_ite_false); focus (rfl; done); wtm_at "sb") | ((with_reducible_and_instances first | refine wpAny_pure ?_ | refine wB ?_); wtm_at "sb"))
  repeat (first | (wp_delta; wtm_at "sb") | wtm_at "ld" | wtm_at "fts" | wtm_at "ifa" | ((with_reducible apply wpAny_ite_true); focus (rfl; done); wtm_at "sb") | ((with_reducible apply wpAny_ite_false); focus (rfl; done); wtm_at "sb") | ((with_reducible_and_instances first | refine wpAny_pure ?_ | refine wB ?_); wtm_at "sb"))
  refine al (by rfl) ?_
  intro MD hM kM nM eM
  have neCM : C ≠ MD := ne_new nM eC
  have neNM : N ≠ MD := ne_new nM eN
  have oM : ∀ b o, h.get? b = some o → b ≠ MD := fun b o e => ne_new nM (k0 b o e)
  replace k0 : Ext h hM := fun b o e => kM b o (k0 b o e)
  replace eC := kM _ _ eC
  replace eN := kM _ _ eN
  wtm_at "sb"
  repeat (first | k_call_by "ft" (nobj) | (wp_delta; wtm_at "sb") | wtm_at "ld" | wtm_at "fts" | wtm_at "ifa" | ((with_reducible apply wpAny_ite_true); focus (rfl; done); wtm_at "sb") | ((with_reducible apply wpAny_ite_false); focus (rfl; done); wtm_at "sb") | ((with_reducible_and_instances first | refine wpAny_pure ?_ | refine wB ?_); wtm_at "sb"))
  refine upP eN ?_ ?_
  · exact congrArg Obj.isFreed (po _ _ _) ▸ rfl
  intro h7 u7 e7
  replace eC := u7 _ _ (Ne.symm neNC) eC
  replace eM := u7 _ _ (Ne.symm neNM) eM
  replace k0 : Ext h h7 := fun b o e => u7 b o (oN b o e) (k0 b o e)
  replace eN := e7.trans (congrArg some (po _ _ _))
  clear e7
  wtm_at "sb"
  repeat (first | (wp_delta; wtm_at "sb") | wtm_at "ld" | wtm_at "fts" | wtm_at "ifa" | ((with_reducible apply wpAny_ite_true); focus (rfl; done); wtm_at "sb") | ((with_reducible apply wpAny_ite_false); focus (rfl; done); wtm_at "sb") | ((with_reducible_and_instances first | refine wpAny_pure ?_ | refine wB ?_); wtm_at "sb"))
  refine up eC (by rfl) ?_
  intro h8 u8 e8
  replace eN := u8 _ _ neNC eN
  replace eM := u8 _ _ (Ne.symm neCM) eM
  replace k0 : Ext h h8 := fun b o e => u8 b o (oC b o e) (k0 b o e)
  replace eC : h8.get? C = some (CO bT N tk tq sq [.ref C, .type "object"] false [Str.ofString "obj"] false [some (.builtin "object.__new__")]) := e8
  clear e8
  wtm_at "sb"
  repeat (first | k_call_by "ft" (g4) | (wp_delta; wtm_at "sb") | wtm_at "ld" | wtm_at "fts" | wtm_at "ifa" | ((with_reducible apply wpAny_ite_true); focus (rfl; done); wtm_at "sb") | ((with_reducible apply wpAny_ite_false); focus (rfl; done); wtm_at "sb") | ((with_reducible_and_instances first | refine wpAny_pure ?_ | refine wB ?_); wtm_at "sb"))
  refine upS (sl := [some (.ref bT), none, some (.str (Str.ofString "K") tk), some (.str sq tq), some (.builtin "object.__new__")]) eC (by rfl) (by rfl) ?_
  intro h9 u9 e9
  replace eN := u9 _ _ neNC eN
  replace eM := u9 _ _ (Ne.symm neCM) eM
  replace k0 : Ext h h9 := fun b o e => u9 b o (oC b o e) (k0 b o e)
  replace eC : h9.get? C = some (CO bT N tk tq sq [.ref C, .type "object"] false [Str.ofString "obj"] false [some (.builtin "object.__new__"), some (.bool false)]) := e9
  clear e9
  wtm_at "sb"
  repeat (first | k_call_by "ft" ((ndoc _ _ _)) | (wp_delta; wtm_at "sb") | wtm_at "ld" | wtm_at "fts" | wtm_at "ifa" | ((with_reducible apply wpAny_ite_true); focus (rfl; done); wtm_at "sb") | ((with_reducible apply wpAny_ite_false); focus (rfl; done); wtm_at "sb") | ((with_reducible_and_instances first | refine wpAny_pure ?_ | refine wB ?_); wtm_at "sb"))
  refine wpAny_ite_false (rd _ _ _) ?_
  wtm_at "sb"
  repeat (first | (wp_delta; wtm_at "sb") | wtm_at "ld" | wtm_at "fts" | wtm_at "ifa" | ((with_reducible apply wpAny_ite_true); focus (rfl; done); wtm_at "sb") | ((with_reducible apply wpAny_ite_false); focus (rfl; done); wtm_at "sb") | ((with_reducible_and_instances first | refine wpAny_pure ?_ | refine wB ?_); wtm_at "sb"))
  refine upP eN ?_ ?_
  · exact congrArg Obj.isFreed (pd _ _ _ _ _) ▸ rfl
  intro h10 u10 e10
  replace eC := u10 _ _ (Ne.symm neNC) eC
  replace eM := u10 _ _ (Ne.symm neNM) eM
  replace k0 : Ext h h10 := fun b o e => u10 b o (oN b o e) (k0 b o e)
  replace eN := e10.trans (congrArg some (pd _ _ _ _ _))
  clear e10
  wtm_at "sb"
  iterate 22 (first | k_call_by "ft" ((neq _ _ _ _ _)) | k_call_by "ft" ((nhash _ _ _ _ _)) | (wp_delta; wtm_at "sb") | wtm_at "ld" | wtm_at "fts" | wtm_at "ifa" | ((with_reducible apply wpAny_ite_true); focus (rfl; done); wtm_at "sb") | ((with_reducible apply wpAny_ite_false); focus (rfl; done); wtm_at "sb") | ((with_reducible_and_instances first | refine wpAny_pure ?_ | refine wB ?_); wtm_at "sb"))
  have harm' := fun hh tk h2 t2 => harm4 (hh := hh) (tk := tk) (h2 := h2) (t2 := t2) harm k0 eM
  refine forIn_same (fun e he => ?_) ?_
  · obtain ⟨⟨k, t, hk⟩, _, _⟩ := harm' _ _ _ _ e he
    dsimp only
    rw [hk]
    (repeat (first | (wp_delta; wtm_at "sb") | wtm_at "ld" | wtm_at "fts" | wtm_at "ifa" | ((with_reducible apply wpAny_ite_true); focus (rfl; done); wtm_at "sb") | ((with_reducible apply wpAny_ite_false); focus (rfl; done); wtm_at "sb") | ((with_reducible_and_instances first | refine wpAny_pure ?_ | refine wB ?_); wtm_at "sb")))
    exact ⟨rfl, rfl⟩
  wtm_at "sb"
  iterate 5 (first | (wp_delta; wtm_at "sb") | wtm_at "ld" | wtm_at "fts" | wtm_at "ifa" | ((with_reducible apply wpAny_ite_true); focus (rfl; done); wtm_at "sb") | ((with_reducible apply wpAny_ite_false); focus (rfl; done); wtm_at "sb") | ((with_reducible_and_instances first | refine wpAny_pure ?_ | refine wB ?_); wtm_at "sb"))
  refine forIn_same (fun e he => ?_) ?_
  · obtain ⟨⟨k, t, hk⟩, hl, hv⟩ := harm' _ _ _ _ e he
    dsimp only
    rw [hl]
    rcases hv with ⟨a, T, o, hv, ha, hT, hln⟩ | hv
    · rw [hv]
      ((with_reducible apply wpAny_ite_false); focus (rfl; done); wtm_at "sb")
      wtm_at "wb"
      (wp_delta; wtm_at "sb")
      (wp_delta; wtm_at "sb")
      (with_reducible refine wpAny_loadPart' ha ?_)
      wtm_at "sb"
      rw [hT]
      k_call_by "ft" (hln)
      (repeat (first | (wp_delta; wtm_at "sb") | wtm_at "ld" | wtm_at "fts" | wtm_at "ifa" | ((with_reducible apply wpAny_ite_true); focus (rfl; done); wtm_at "sb") | ((with_reducible apply wpAny_ite_false); focus (rfl; done); wtm_at "sb") | ((with_reducible_and_instances first | refine wpAny_pure ?_ | refine wB ?_); wtm_at "sb")))
      exact ⟨rfl, rfl⟩
    · ((with_reducible apply wpAny_ite_false); focus (rfl; done); wtm_at "sb")
      wtm_at "wb"
      k_call_by "ft" (hv)
      (repeat (first | (wp_delta; wtm_at "sb") | wtm_at "ld" | wtm_at "fts" | wtm_at "ifa" | ((with_reducible apply wpAny_ite_true); focus (rfl; done); wtm_at "sb") | ((with_reducible apply wpAny_ite_false); focus (rfl; done); wtm_at "sb") | ((with_reducible_and_instances first | refine wpAny_pure ?_ | refine wB ?_); wtm_at "sb")))
      exact ⟨rfl, rfl⟩
  wtm_at "sb"
  subst hsq
  refine wpAny_mono (super_x eC) (fun v s' hv => ?_) fun _ _ e => e
  obtain ⟨hS, S, kS, eS, -, rfl, rfl⟩ := hv
  replace eC := kS _ _ eC
  replace eN := kS _ _ eN
  replace e2 := kS _ _ (k0 _ _ e2)
  replace k0 : Ext h hS := fun b o e => kS b o (k0 b o e)
  replace eM := kS _ _ eM
  wtm_at "sb"
  refine init_sub eC eN (nisub _ _ _ _ _) e2 ls eS fun hT B kT eB => ?_
  replace eC := kT _ _ eC
  wtm_at "sb"
  refine wpAny_mono (isub_x eC eB) (fun v s' hv => ?_) fun _ _ e => e
  obtain ⟨hU, kU, rfl⟩ := hv
  wtm_at "sb"
  (repeat (first | (wp_delta; wtm_at "sb") | wtm_at "ld" | wtm_at "fts" | wtm_at "ifa" | ((with_reducible apply wpAny_ite_true); focus (rfl; done); wtm_at "sb") | ((with_reducible apply wpAny_ite_false); focus (rfl; done); wtm_at "sb") | ((with_reducible_and_instances first | refine wpAny_pure ?_ | refine wB ?_); wtm_at "sb")))
  exact hq _ C N MD _ _ _ _ _ (fun b o e => kU _ _ (kT _ _ (k0 b o e))) nC0 nN0 (kU _ _ eC) (kU _ _ (kT _ _ eN)) (kU _ _ (kT _ _ eM)) 
structure KNs (h : Heap) (bT nsA sl : Addr) (tk to tq t3 : Tok) (es : Array DictEntry) (fl : Nat) (k3 : Int) (sq : Str) (es2 : Array DictEntry) (oS : Obj) (m2 : Nat) (veq : Value) : Prop where
  hb : h.get? bT = some ⟨.type "tuple", none, .seq #[.type "object"] 0, #[]⟩
  hn : h.get? nsA = some ⟨.type "dict", none, .dict es fl, #[]⟩
  hs : decide ((nsA == sysModules) = true) = false
  hsl : h.get? sl = some ⟨.type "list", none, .seq #[.str (Str.ofString "obj") to] 0, #[]⟩
  hf : es.find? (fun x => x.key.isStr (Str.ofString "__slots__")) = some ⟨k3, .str (Str.ofString "__slots__") t3, .ref sl⟩
  ho : es.any (fun x => x.key.isStr (Str.ofString "obj")) = false
  hm : decide ((!es.any fun x => x.key.isStr (Str.ofString "__module__")) = true) = false
  hz : es.size ≤ 100
  q1 : nsLook (Str.ofString "__qualname__") (OB es) = pure (some (.str sq tq))
  d1 : nsLook (Str.ofString "__doc__") (OB es) = pure none
  q2 : nsHas (Str.ofString "__qualname__") (OB es) = pure true
  harm : ∀ e ∈ es2, Harm h e
  hdel : (es.any fun x => x.key.isStr (Str.ofString "__del__")) = false
  eo : OD es = OE es2 m2
  hz2 : es2.size ≤ 100
  nobj : nsLook (Str.ofString "obj") (OE es2 m2) = pure none
  ro : decide (aRefKeyMayBeTheName (Str.ofString "obj") es2 = true) = false
  po : ∀ hh tk v, Obj.putName (Str.ofString "obj") hh (.str (Str.ofString "obj") tk) v (OE es2 m2) = OE (es2.push ⟨hh, .str (Str.ofString "obj") tk, v⟩) (m2 + 1)
  ndoc : ∀ hh tk v, nsLook (Str.ofString "__doc__") (OE (es2.push ⟨hh, .str (Str.ofString "obj") tk, v⟩) (m2 + 1)) = pure none
  rd : ∀ hh tk v, decide (aRefKeyMayBeTheName (Str.ofString "__doc__") (es2.push ⟨hh, .str (Str.ofString "obj") tk, v⟩) = true) = false
  pd : ∀ hh tk v h2 t2, Obj.putName (Str.ofString "__doc__") h2 (.str (Str.ofString "__doc__") t2) .none (OE (es2.push ⟨hh, .str (Str.ofString "obj") tk, v⟩) (m2 + 1)) = OE ((es2.push ⟨hh, .str (Str.ofString "obj") tk, v⟩).push ⟨h2, .str (Str.ofString "__doc__") t2, .none⟩) (m2 + 2)
  e2 : h.get? cStatics = some oS
  ls : nsLook (Str.ofString "thirdparty.any") oS = pure none
  hsq : sq = Str.ofString "cmp_to_key.<locals>.K"
  nisub : ∀ hh tk v h2 t2, nsLook (Str.ofString "__init_subclass__") (OE ((es2.push ⟨hh, .str (Str.ofString "obj") tk, v⟩).push ⟨h2, .str (Str.ofString "__doc__") t2, .none⟩) (m2 + 2)) = pure none
  neq : ∀ hh tk v h2 t2, nsLook (Str.ofString "__eq__") (OE ((es2.push ⟨hh, .str (Str.ofString "obj") tk, v⟩).push ⟨h2, .str (Str.ofString "__doc__") t2, .none⟩) (m2 + 2)) = pure (some veq)
  nhash : ∀ hh tk v h2 t2, nsLook (Str.ofString "__hash__") (OE ((es2.push ⟨hh, .str (Str.ofString "obj") tk, v⟩).push ⟨h2, .str (Str.ofString "__doc__") t2, .none⟩) (m2 + 2)) = pure (some .none)
  n0 : nsLook (Str.ofString "__new__") (OE es2 m2) = pure none
  n1 : nsLook (Str.ofString "__init_subclass__") (OE es2 m2) = pure none
  n2 : nsLook (Str.ofString "__class_getitem__") (OE es2 m2) = pure none
  n3 : nsLook (Str.ofString "__classcell__") (OE es2 m2) = pure none
  n4 : nsLook (Str.ofString "__classdictcell__") (OE es2 m2) = pure none
  n5 : nsLook (Str.ofString "__del__") (OE es2 m2) = pure none
  n6 : nsLook (Str.ofString "__dict__") (OE es2 m2) = pure none
  n7 : nsLook (Str.ofString "__weakref__") (OE es2 m2) = pure none
theorem tnew' {w : World} {prog : Program} {A : Around} {Q : PySem.Fin → Shared → Prop} {E : Value → Shared → Prop} {h : Heap} {g : Array GenState} {d : Drawn} {t : Nat} {os : OsState} {bT nsA sl : Addr} {tk to tq t3 : Tok} {es : Array DictEntry} {fl : Nat} {k3 : Int} {sq : Str} {es2 : Array DictEntry} {oS : Obj} {m2 : Nat} {veq : Value}
  (F : KNs h bT nsA sl tk to tq t3 es fl k3 sq es2 oS m2 veq) (hq : ∀ h' C N MD hh t1 h2 t2 tk', (Ext h h') → h.get? C = none → h.get? N = none → h'.get? C = some (CO bT N tk tq sq [.ref C, .type "object"] false [Str.ofString "obj"] false [some (.builtin "object.__new__"), some (.bool false)]) → h'.get? N = some (OE ((es2.push ⟨hh, .str (Str.ofString "obj") t1, .ref MD⟩).push ⟨h2, .str (Str.ofString "__doc__") t2, .none⟩) (m2 + 2)) → h'.get? MD = some ⟨.type "member_descriptor", none, .fields #[.str (Str.ofString "obj") t, .ref C, .builtin "proto.slot", .builtin "proto.slot#set", rawInt 0], #[]⟩ → Q (.done (.ret (.ref C))) ⟨h', g, d, tk', os⟩) :
   wpAny (model prog w) A (Builtin.«type.__new__» ⟨[.type "type", .str (Str.ofString "K") tk, .ref bT, .ref nsA], []⟩) Q E ⟨h, g, d, t, os⟩ := tnew F.hb F.hn F.hs F.hsl F.hf F.ho F.hm F.hz F.q1 F.d1 F.q2 F.harm F.hdel F.eo F.hz2 F.nobj F.ro F.po F.ndoc F.rd F.pd F.e2 F.ls F.hsq F.nisub hq F.neq F.nhash F.n0 F.n1 F.n2 F.n3 F.n4 F.n5 F.n6 F.n7

end
-- N8
section
open PySem PySem.W PyProof.Rows PySem.Calls PySem.Spec PySem.Builtin.Str
theorem j1 : Bind.madeBy (.type "type") = pure (some "type.__new__") := by kernel_rfl
theorem j2 : plainId "type.__new__" = true := by decide +kernel
theorem j3 : entryFor table "type.__new__" = some Builtin.«type.__new__» := entryFor_of_fast (by kernel_rfl)
theorem j4 : Bind.staticBase (.type "type") = pure (.type "type") := by kernel_rfl
theorem j5 : builtinKind "type.__new__" = some .builtinFn := by decide +kernel
theorem j6 : splitId "type.__new__" = some ("type", "__new__") := by decide +kernel
theorem j7 : typeLookup (.type "type") (Str.ofString "__init__") = pure (some (.builtin "type.__init__")) := by rw [typeLookup_type, builtinLookup_eq_fast]; kernel_rfl
theorem j8 (C : Addr) : bindSpecial (.builtin "type.__init__") (.ref C) = pure (.builtin "type.__init__", [.ref C]) := by kernel_rfl
theorem j9 : plainId "type.__init__" = true := by decide +kernel
theorem j10 : entryFor table "type.__init__" = some Builtin.«type.__init__» := entryFor_of_fast (by kernel_rfl)
theorem j11 : builtinKind "type.__init__" = some .slot := by decide +kernel
theorem j12 : splitId "type.__init__" = some ("type", "__init__") := by decide +kernel
set_option maxRecDepth 100000 in
set_option maxHeartbeats 1000000 in
theorem tcall {w : World} {prog : Program} {A : Around} {Q : Value → Shared → Prop} {E : Value → Shared → Prop} {h : Heap} {g : Array GenState} {d : Drawn} {t : Nat} {os : OsState} {bT nsA sl : Addr} {tk to tq t3 : Tok} {es : Array DictEntry} {fl : Nat} {k3 : Int} {sq : Str} {es2 : Array DictEntry} {oS : Obj} {m2 : Nat} {veq : Value} (F : KNs h bT nsA sl tk to tq t3 es fl k3 sq es2 oS m2 veq) (hq : ∀ h' C N MD hh t1 h2 t2 tk', (Ext h h') → h.get? C = none → h.get? N = none → h'.get? C = some (CO bT N tk tq sq [.ref C, .type "object"] false [Str.ofString "obj"] false [some (.builtin "object.__new__"), some (.bool false)]) → h'.get? N = some (OE ((es2.push ⟨hh, .str (Str.ofString "obj") t1, .ref MD⟩).push ⟨h2, .str (Str.ofString "__doc__") t2, .none⟩) (m2 + 2)) → h'.get? MD = some ⟨.type "member_descriptor", none, .fields #[.str (Str.ofString "obj") t, .ref C, .builtin "proto.slot", .builtin "proto.slot#set", rawInt 0], #[]⟩ → Q (.ref C) ⟨h', g, d, tk', os⟩) :
   wpAny (model prog w) A (call (.type "type") [.str (Str.ofString "K") tk, .ref bT, .ref nsA]) Q E ⟨h, g, d, t, os⟩ := by
  refine wpAny_call (codeAny_of_tree ?_)
  show wpAny _ _ (callAny (.type "type") _) _ _ _
  repeat (first | (wp_delta; wtm_at "sb") | wtm_at "ld" | wtm_at "fts" | wtm_at "ifa" | ((with_reducible show wpAny _ _ (ite _ _ _) _ _ _); k_node; wtm_at "sb") | wtm_at "wb")
  refine ⟨Code.quiet_builtin _ (by decide +kernel), codeAny_builtin entry_typeCall ?_⟩
  repeat (first | k_call_by "ft" (j1) | (wp_delta; wtm_at "sb") | wtm_at "ld" | wtm_at "fts" | wtm_at "ifa" | ((with_reducible show wpAny _ _ (ite _ _ _) _ _ _); k_node; wtm_at "sb") | wtm_at "wb")
  refine wpAny_call (codeAny_call_builtin j2 j3 ?_)
  wtm_at "sb"
  refine wpAny_of_eq (a := ()) (by kernel_rfl) ?_
  wtm_at "sb"
  refine tnew' F fun h' C N MD hh t1 h2 t2 tk' k nC nN eC eN eM => ?_
  wtm_at "sb"
  repeat (first | k_call_by "ft" (f3) | (wp_delta; wtm_at "sb") | wtm_at "ld" | wtm_at "fts" | wtm_at "ifa" | ((with_reducible show wpAny _ _ (ite _ _ _) _ _ _); k_node; wtm_at "sb") | wtm_at "wb")
  k_call_by "ft" (j7)
  repeat (first | k_call_by "ft" ((j8 _)) | k_call_by "ft" (f3) | (wp_delta; wtm_at "sb") | wtm_at "ld" | wtm_at "fts" | wtm_at "ifa" | ((with_reducible show wpAny _ _ (ite _ _ _) _ _ _); k_node; wtm_at "sb") | wtm_at "wb")
  refine wpAny_call (codeAny_call_builtin j9 j10 ?_)
  simp only [checkBuiltinCall, j11, j12]
  wtm_at "sb"
  repeat (first | k_call_by "ft" (f3) | (wp_delta; wtm_at "sb") | wtm_at "ld" | wtm_at "fts" | wtm_at "ifa" | ((with_reducible show wpAny _ _ (ite _ _ _) _ _ _); k_node; wtm_at "sb") | wtm_at "wb")
  exact hq _ C N MD _ _ _ _ _ k nC nN eC eN eM

end
-- N9
section
open PySem PySem.W PyProof.Rows PySem.Calls PySem.Spec PySem.Builtin.Str
noncomputable abbrev SCK : Scope := { kind := .function, names := [(Str.ofString "mycmp", .cell), (Str.ofString "K", .local), (Str.ofString "object", .globalImplicit)], isGenerator := false, isCoroutine := false }
noncomputable abbrev CE (L c : Addr) : Env := { scope := SCK, locals := L, globals := 3, cells := [(Str.ofString "mycmp", c)], qual := Str.ofString "cmp_to_key" ++ Str.ofString ".<locals>.", func := some 62, code := .ref 61, frame := some L, builtins := 0 }
noncomputable def bodyCK (w : World) : List Stmt := match (KXf w.params).lookup 62 with
  | some ⟨_, _, .func fd, _⟩ => match fd.body with
    | .stmts b => b
    | _ => []
  | _ => []
set_option maxRecDepth 100000 in
set_option maxHeartbeats 4000000 in
theorem ck {w : World} {A : Around} {Q : Value → Shared → Prop} {E : Value → Shared → Prop} {h : Heap} {g : Array GenState} {d : Drawn} {t : Nat} {os : OsState} {p : Program} {loose : List Str} {mean : ExcName → Option Value} {mg mb : Str → Option Value} {f : Addr}
  (X : (KF w).In h) (T : Top p loose mean mg mb h) (hroom : A.depth < recursionLimit)
  (hb : ∀ A' h₁ L c tk, A'.depth ≤ A.depth + 1 → (Ext h h₁) → h.get? L = none → h.get? c = none → L ≠ c → h₁.Ns L (fun _ => none) → h₁.IsCell c (some (.ref f)) →
    wpAny (model PG w) A' (execs (bodyCK w) (CE L c)) (fun fl s' => Q (match fl with | .ret v => v | _ => .none) s') (fun e s' => wpAny (model PG w) A' (leaving (CE L c) e) (fun _ s'' => E e s'') (fun e' s'' => E e' s'') s') ⟨h₁, g, d, tk, os⟩) :
   wpAny (model PG w) A (call (.ref 62) [.ref f]) Q E ⟨h, g, d, t, os⟩ := by
  refine wpAny_call (codeAny_call_cells (binds := [(Str.ofString "mycmp", .ref f)]) hroom (X _ _ (by rfl)) rfl T.nolimit (codeRec_of X (by rfl)) rfl (by rfl) rfl (by intro x hx; simp only [List.mem_singleton] at hx; subst hx; exact .inr ⟨by rfl, by rfl⟩) (fun s₁ x => ?_))
  obtain ⟨⟨⟨h₁, tk, rfl⟩, ns, keep, fresh⟩, cell, apart, above⟩ := x
  refine hb _ h₁ h.objs.size (h.objs.size + 1) tk (by first | exact Nat.le_of_eq depth_deeper | simp [depth_deeper]) keep (Heap.get?_none_of_le (Nat.le_refl _)) (Heap.get?_none_of_le (Nat.le_succ _)) (Nat.ne_of_lt (Nat.lt_succ_self _)) ?_ ?_
  · refine cast ?_ ns
    rfl
  · refine cast ?_ (cell (Str.ofString "mycmp") (h.objs.size + 1) (by rfl))
    rfl

end
-- N11
section
open PySem PySem.W PyProof.Rows PySem.Calls PySem.Spec PySem.Builtin.Str
section
set_option maxRecDepth 100000 in
set_option maxHeartbeats 8000000 in
theorem prep_x {w : World} {prog : Program} {A : Around} {E : Value → Shared → Prop} {h : Heap} {g : Array GenState} {d : Drawn} {t t' : Nat} {os : OsState} :
   wpAny (model prog w) A (getAttrBy? (.type "type") (.str (Str.ofString "__prepare__") t')) (fun v s' => Ex3 fun h' S id => And5 ((Ext h h')) (h'.get? S = some ⟨.type "builtin_function_or_method", none, .fields #[.builtin id, .type "type"], #[]⟩) (id = "type.__prepare__") (v = some (.ref S)) (s' = ⟨h', g, d, t, os⟩)) E ⟨h, g, d, t, os⟩ := by
  x_run
end
section
set_option maxRecDepth 100000 in
set_option maxHeartbeats 8000000 in
theorem prep_y {w : World} {prog : Program} {A : Around} {E : Value → Shared → Prop} {h : Heap} {g : Array GenState} {d : Drawn} {t t' : Nat} {os : OsState} {S bT : Addr}
   (eS : h.get? S = some ⟨.type "builtin_function_or_method", none, .fields #[.builtin "type.__prepare__", .type "type"], #[]⟩) :
   wpAny (model prog w) A (call (.ref S) [.str (Str.ofString "K") t', .ref bT] []) (fun v s' => Ex2 fun h' N => And5 ((Ext h h')) (h'.get? N = some ⟨.type "dict", none, .dict #[], #[]⟩) (h.get? N = none) (v = .ref N) (s' = ⟨h', g, d, t, os⟩)) E ⟨h, g, d, t, os⟩ := by
  x_run
end

end
-- CA
section
open PySem PySem.W PyProof.Rows PySem.Calls PySem.Spec PySem.Builtin.Str
theorem codeAmong_other {pos pos' : Pos} {c : Value} (l : List Value) (h : TriplesOk l) (hp : ((pos.line : Int) == (pos'.line : Int) && (pos.col : Int) == (pos'.col : Int)) = false) :
    codeAmong pos' (l ++ [rawInt pos.line, rawInt pos.col, c]) = codeAmong pos' l := by
  fun_induction TriplesOk l with
  | case1 =>
    simp only [List.nil_append, codeAmong, rawInt]
    rw [hp]; rfl
  | case2 a t b u x rest ih =>
    simp only [List.cons_append, codeAmong]
    rw [ih h]
  | case3 l h1 h2 => exact h.elim

structure CT (h : Heap) (c P : Addr) (ps : Array Value) : Prop where
  ok : h.IsCode c P ps
  tab : h.TableAt c P ps
theorem CT.keeps {h h' : Heap} {c P : Addr} {ps} (x : CT h c P ps) (k : Ext h h') : CT h' c P ps := ⟨x.ok.keeps k, x.tab.keeps k⟩
theorem CT.extBut {h h' : Heap} {c P a : Addr} {ps} (x : CT h c P ps) (hs : Heap.ExtBut a h h') (hc : c ≠ a) (hP : P ≠ a) : CT h' c P ps := ⟨x.ok.extBut hs hc hP, x.tab.extBut hs hc hP⟩

theorem CT.read {h : Heap} {c P : Addr} {ps : Array Value} (x : CT h c P ps) : ∃ o vs, h.get? c = some o ∧ o.data = .fields vs ∧ vs.getD 11 .none = .ref P ∧
    (∃ file tf flags tg inF text tt, vs.getD 18 .none = .str file tf ∧ vs.getD 7 .none = .int flags tg ∧ vs.getD 9 .none = .bool inF ∧ vs.getD 10 .none = .int text tt) ∧
    h.get? P = some { cls := .none, data := .fields ps } ∧ TriplesOk ps.toList ∧ c ≠ P := by
  obtain ⟨⟨o, vs, file, tf, flags, tg, inF, text, tt, _, ho, hd, ha, hb, hc, hf, hg, _, _, hT, hn⟩, _, hP⟩ := x
  exact ⟨o, vs, ho, hd, ha, ⟨file, tf, flags, tg, inF, text, tt, hb, hc, hf, hg⟩, hP, hT, hn⟩
theorem CT.moved {h h' : Heap} {c P : Addr} {ps qs : Array Value} (x : CT h c P ps) (hk : Heap.ExtBut P h h') (hP : h'.get? P = some { cls := .none, data := .fields qs }) (hT : TriplesOk qs.toList) : CT h' c P qs := by
  obtain ⟨⟨o, vs, file, tf, flags, tg, inF, text, tt, _, ho, hd, ha, hb, hc, hf, hg, _, _, _, hn⟩, ⟨o2, v2, g2, c2, d2, e2⟩, _⟩ := x
  exact ⟨⟨o, vs, file, tf, flags, tg, inF, text, tt, _, hk c o hn ho, hd, ha, hb, hc, hf, hg, hP, rfl, hT, hn⟩, ⟨o2, v2, hk c o2 hn g2, c2, d2, e2⟩, hP⟩
noncomputable def putP (pos : Pos) (v : Value) (vs : Array Value) : Array Value := if (codeAmong pos vs.toList).isSome then vs else vs ++ #[rawInt pos.line, rawInt pos.col, v]
theorem putP_new {pos v} {ps : Array Value} (hnf : codeAmong pos ps.toList = none) : putP pos v ps = ps ++ #[rawInt pos.line, rawInt pos.col, v] := by
  unfold putP; rw [hnf]; rfl
theorem putP_at {h : Heap} {P : Addr} {ps : Array Value} {pos : Pos} {v : Value} (hP : h.get? P = some { cls := .none, data := .fields ps }) (hnf : codeAmong pos ps.toList = none) :
    (h.update P (Obj.mapFields (putP pos v))).get? P = some { cls := .none, data := .fields (ps ++ #[rawInt pos.line, rawInt pos.col, v]) } := by
  rw [Heap.get?_update_self _ hP rfl]
  show some ({ cls := .none, data := .fields (putP pos v ps) } : Obj) = _
  rw [putP_new hnf]
theorem codeAt_miss {M : Model} {A : Around} {E : Value → Shared → Prop} {s : Shared} {env : Env} {c P : Addr} {ps : Array Value} {pos : Pos} {make : CodeContext → Sem Value} {q : Str} {Q : Value → Shared → Prop}
    (hc : env.code = .ref c) (hok : CT s.heap c P ps) (hnf : codeAmong pos ps.toList = none)
    (hmk : ∀ (ctx : CodeContext) (Q : Value → Shared → Prop), (∀ c' P' h' tk, (Ext s.heap h') → s.heap.objs.size ≤ c' → s.heap.objs.size ≤ P' → h'.IsCode c' P' #[] → h'.TableAt c' P' #[] → h'.CodeRec (.ref c') q →
      Q (.ref c') { s with heap := h', toks := tk }) → wpAny M A (make ctx) Q E s)
    (hQ : ∀ c' P' h' tk, Heap.ExtBut P s.heap h' → s.heap.objs.size ≤ c' → s.heap.objs.size ≤ P' → CT h' c P (ps ++ #[rawInt pos.line, rawInt pos.col, .ref c']) → codeAmong pos (ps ++ #[rawInt pos.line, rawInt pos.col, .ref c']).toList = some (.ref c') →
      h'.CodeRec (.ref c') q → CT h' c' P' #[] → Q (.ref c') { s with heap := h', toks := tk }) :
    wpAny M A (codeAt env pos make) Q E s := by
  obtain ⟨o, vs, ho, hd, h11, ⟨file, tf, flags, tg, inF, text, tt, h18, h7, h9, h10⟩, hP, hT, hne⟩ := hok.read
  have hlt : P < s.heap.objs.size := Heap.lt_size hP
  have fresh : ∀ b, s.heap.objs.size ≤ b → b ≠ P := fun b hb e => absurd (e ▸ hb) (Nat.not_le_of_lt hlt)
  have hlist : ∀ v, (ps ++ #[rawInt pos.line, rawInt pos.col, v]).toList = ps.toList ++ [rawInt pos.line, rawInt pos.col, v] := fun v => by simp
  have hcb : ¬ ((Value.ref c == Value.none) = true) := Bool.false_ne_true
  unfold codeAt
  rw [hc]
  refine wpAny_ite_false (decide_eq_false hcb) ?_
  refine wpAny_bind (wpAny_fieldsOf ho hd ?_)
  rw [h11, h18, h7, h9, h10]
  refine wpAny_bind (wpAny_fieldsOf hP rfl ?_)
  rw [hnf]
  refine wpAny_bind (hmk _ _ fun c' P' h' tk hk hc' hP' hco htb hrec => ?_)
  have hP1 := hk _ _ hP
  have hP2 := putP_at (v := .ref c') hP1 hnf
  have hB : ∀ {f : Obj → Obj}, Heap.ExtBut P h' (h'.update P f) := fun {f} => (Heap.SameBut.update ..).extBut
  refine wpAny_bind (wpAny_updateFieldsOfTheText hP1 rfl ?_)
  refine wpAny_bind (wpAny_fieldsOf hP2 rfl ?_)
  have hin : codeAmong pos (ps ++ #[rawInt pos.line, rawInt pos.col, Value.ref c']).toList = some (.ref c') := by rw [hlist]; exact codeAmong_snoc _ hT hnf
  rw [hin]
  obtain ⟨cr, orr, vr, tr, er, gr, rr⟩ := hrec
  cases er
  exact wpAny_pure (hQ c' P' _ _ (fun b o' hb e => hB b o' hb (hk b o' e)) hc' hP' ((hok.keeps hk).moved hB hP2 (by rw [hlist]; exact TriplesOk_snoc _ _ _ _ hT)) hin
    ⟨_, orr, vr, tr, rfl, hB _ _ (fresh _ hc') gr, rr⟩ (CT.extBut ⟨hco, htb⟩ hB (fresh _ hc') (fresh _ hP')))
noncomputable def Entry (R : Heap → Addr → Prop) (h : Heap) (pos : Pos) (ps : Array Value) : Prop := codeAmong pos ps.toList = none ∨ ∃ k, codeAmong pos ps.toList = some (.ref k) ∧ R h k
theorem codeAt_any {M : Model} {A : Around} {E : Value → Shared → Prop} {s : Shared} {env : Env} {c P : Addr} {ps : Array Value} {pos : Pos} {make : CodeContext → Sem Value} {q : Str} {Q : Value → Shared → Prop} {R : Heap → Addr → Prop}
    (hc : env.code = .ref c) (hok : CT s.heap c P ps) (he : Entry R s.heap pos ps)
    (hmk : ∀ (ctx : CodeContext) (Q : Value → Shared → Prop), (∀ c' P' h' tk, (Ext s.heap h') → s.heap.objs.size ≤ c' → s.heap.objs.size ≤ P' → h'.IsCode c' P' #[] → h'.TableAt c' P' #[] → h'.CodeRec (.ref c') q →
      Q (.ref c') { s with heap := h', toks := tk }) → wpAny M A (make ctx) Q E s)
    (hR : ∀ h' c' P', Heap.ExtBut P s.heap h' → s.heap.objs.size ≤ c' → s.heap.objs.size ≤ P' → h'.CodeRec (.ref c') q → CT h' c' P' #[] → R h' c')
    (hQ : ∀ k h' tk ps', Heap.ExtBut P s.heap h' → CT h' c P ps' → codeAmong pos ps'.toList = some (.ref k) →
      (∀ pos', ((pos.line : Int) == (pos'.line : Int) && (pos.col : Int) == (pos'.col : Int)) = false → codeAmong pos' ps'.toList = codeAmong pos' ps.toList) → R h' k → Q (.ref k) { s with heap := h', toks := tk }) :
    wpAny M A (codeAt env pos make) Q E s := by
  rcases he with he | ⟨k, hk, hr⟩
  · refine codeAt_miss hc hok he hmk fun c' P' h' tk hx h1 h2 h3 h4 h5 h6 => ?_
    refine hQ c' h' tk _ hx h3 h4 (fun pos' hp => ?_) (hR h' c' P' hx h1 h2 h5 h6)
    obtain ⟨_, _, _, _, _, _, _, _, _, _, _, _, _, _, _, _, _, _, _, htr, _⟩ := hok.ok
    have hl : (ps ++ #[rawInt pos.line, rawInt pos.col, Value.ref c']).toList = ps.toList ++ [rawInt pos.line, rawInt pos.col, .ref c'] := by simp
    rw [hl, codeAmong_other _ htr hp]
  · exact wpAny_codeAt_hit hc hok.ok hk (hQ k s.heap s.toks ps (fun _ _ _ e => e) hok hk (fun _ _ => rfl) hr)

end
-- CB
section
open PySem PySem.W PyProof.Rows PySem.Calls PySem.Spec PySem.Builtin.Str
noncomputable def isCode (h : Heap) (k : Addr) : Prop := ∃ o, h.get? k = some o ∧ o.cls = .type "code"
noncomputable def FC (q : Str) (h : Heap) (k : Addr) : Prop := h.CodeRec (.ref k) q ∧ isCode h k
theorem CT.table {h : Heap} {c P : Addr} {ps : Array Value} (x : CT h c P ps) : h.get? P = some { cls := .none, data := .fields ps } := x.tab.2
theorem CT.code {h : Heap} {c P : Addr} {ps : Array Value} (x : CT h c P ps) : isCode h c := let ⟨⟨o, _, a, b, _⟩, _⟩ := x.tab; ⟨o, a, b⟩
theorem isCode.ne {h : Heap} {k P : Addr} {ps : Array Value} (x : isCode h k) (y : h.get? P = some { cls := .none, data := .fields ps }) : k ≠ P := by
  obtain ⟨o, a, b⟩ := x
  intro e
  rw [e, y] at a
  cases a
  cases b
theorem FC.keeps {q : Str} {h h' : Heap} {k : Addr} (x : FC q h k) (hs : Ext h h') : FC q h' k :=
  let ⟨a, o, b, c⟩ := x; ⟨a.keeps hs, o, hs _ _ b, c⟩
theorem FC.extBut {q : Str} {h h' : Heap} {k P : Addr} (x : FC q h k) (hs : Heap.ExtBut P h h') (hn : k ≠ P) : FC q h' k := by
  obtain ⟨⟨c₂, o₂, vs₂, t₂, e₂, g₂, r₂⟩, o, b, c⟩ := x
  cases e₂
  exact ⟨⟨_, o₂, vs₂, t₂, rfl, hs _ _ hn g₂, r₂⟩, o, hs _ _ hn b, c⟩
noncomputable abbrev qK : Str := Str.ofString "cmp_to_key.<locals>.K"
noncomputable abbrev posK : Pos := { line := 20, col := 4, endLine := 41, endCol := 23 }
structure KC (six : List (Pos × Str)) (h : Heap) (k Pk : Addr) : Prop where
  fc : FC qK h k
  off : Pk ≠ 57
  tab : ∃ psk, CT h k Pk psk ∧ ∀ x ∈ six, Entry (FC x.2) h x.1 psk
noncomputable def TabK (six : List (Pos × Str)) (h : Heap) (Z : List Addr) : Prop :=
  ∃ ps, CT h 61 57 ps ∧ ((codeAmong posK ps.toList = none ∧ Z = [57]) ∨ Ex2 fun k Pk => And3 (codeAmong posK ps.toList = some (.ref k)) (KC six h k Pk) (Z = [57, Pk]))

theorem classCode_K {M : Model} {A : Around} {E : Value → Shared → Prop} {s : Shared} {env : Env} {six : List (Pos × Str)} {Z : List Addr} {make : CodeContext → Sem Value} {Q : Value → Shared → Prop}
    (hc : env.code = .ref 61) (hT : TabK six s.heap Z)
    (hmk : ∀ (ctx : CodeContext) (Q : Value → Shared → Prop), (∀ c' P' h' tk, (Ext s.heap h') → s.heap.objs.size ≤ c' → s.heap.objs.size ≤ P' → h'.IsCode c' P' #[] → h'.TableAt c' P' #[] → h'.CodeRec (.ref c') qK →
      Q (.ref c') { s with heap := h', toks := tk }) → wpAny M A (make ctx) Q E s)
    (hQ : ∀ k Pk psk ps h' tk, (ExtZ Z s.heap h') → (Pk ∈ Z ∨ s.heap.get? Pk = none) → CT h' 61 57 ps → codeAmong posK ps.toList = some (.ref k) → FC qK h' k → Pk ≠ 57 → CT h' k Pk psk → (∀ x ∈ six, Entry (FC x.2) h' x.1 psk) → 57 ∈ Z → (∀ b ∈ Z, b = 57 ∨ b = Pk) →
      Q (.ref k) { s with heap := h', toks := tk }) : wpAny M A (codeAt env posK make) Q E s := by
  obtain ⟨ps, hct, ⟨hn, rfl⟩ | ⟨k, Pk, hk, hkc, rfl⟩⟩ := hT
  · refine codeAt_miss hc hct hn hmk fun c' P' h' tk hx h1 h2 h3 h4 h5 h6 => ?_
    have hP : s.heap.get? P' = none := Heap.get?_none_of_le h2
    have h57 : P' ≠ 57 := fun e => by rw [e, hct.table] at hP; cases hP
    refine hQ c' P' #[] _ h' tk (fun b o hb e => hx b o (fun q => hb (by simp [q])) e) (.inr hP) h3 h4 ⟨h5, h6.code⟩ h57 h6 (fun x _ => .inl rfl) (by simp) (fun b hb => .inl (by simpa using hb))
  · obtain ⟨psk, hpk, hs⟩ := hkc.tab
    exact wpAny_codeAt_hit hc hct.ok hk (hQ k Pk psk ps s.heap s.toks (fun _ _ _ e => e) (.inl (by simp)) hct hk hkc.fc hkc.off hpk hs (by simp) (fun b hb => by simpa using hb))
noncomputable def notTab (o : Obj) : Bool := match o.cls, o.data with
  | .none, .fields _ => false
  | _, _ => true
theorem TabK.off {six : List (Pos × Str)} {h : Heap} {Z : List Addr} (x : TabK six h Z) {b : Addr} {o : Obj} (e : h.get? b = some o) (hn : notTab o = true) : b ∉ Z := by
  intro hb
  have : ∃ vs, h.get? b = some { cls := .none, data := .fields vs } := by
    obtain ⟨ps, hct, ⟨_, rfl⟩ | ⟨k, Pk, _, hkc, rfl⟩⟩ := x
    · simp at hb; subst hb; exact ⟨ps, hct.table⟩
    · simp at hb
      rcases hb with rfl | rfl
      · exact ⟨ps, hct.table⟩
      · obtain ⟨psk, hpk, _⟩ := hkc.tab; exact ⟨psk, hpk.table⟩
  obtain ⟨vs, e'⟩ := this
  rw [e'] at e; cases e; cases hn
theorem Entry.keeps {q : Str} {h h' : Heap} {pos : Pos} {ps : Array Value} (x : Entry (FC q) h pos ps) (k : Ext h h') : Entry (FC q) h' pos ps := by
  rcases x with x | ⟨a, b, c⟩
  · exact .inl x
  · exact .inr ⟨a, b, c.keeps k⟩
theorem TabK.keeps {six : List (Pos × Str)} {h h' : Heap} {Z : List Addr} (x : TabK six h Z) (k : Ext h h') : TabK six h' Z := by
  obtain ⟨ps, hct, y⟩ := x
  refine ⟨ps, hct.keeps k, ?_⟩
  rcases y with y | ⟨c, Pk, hc, ⟨a, b, psk, hp, hs⟩, e⟩
  · exact .inl y
  · exact .inr ⟨c, Pk, hc, ⟨a.keeps k, b, psk, hp.keeps k, fun x hx => (hs x hx).keeps k⟩, e⟩
theorem TabK.new {six : List (Pos × Str)} {h : Heap} {Z : List Addr} (x : TabK six h Z) {b : Addr} (e : h.get? b = none) : b ∉ Z := by
  intro hb
  obtain ⟨ps, hct, ⟨_, rfl⟩ | ⟨k, Pk, _, hkc, rfl⟩⟩ := x
  · simp at hb; subst hb; rw [hct.table] at e; cases e
  · simp at hb
    rcases hb with rfl | rfl
    · rw [hct.table] at e; cases e
    · obtain ⟨psk, hpk, _⟩ := hkc.tab; rw [hpk.table] at e; cases e

end
-- N12
section
open PySem PySem.W PyProof.Rows PySem.Calls PySem.Spec PySem.Builtin.Str
noncomputable def FO (name : Str) (prm : Arguments) (body : List Stmt) (scope : Scope) (q : Str) (clo : List (Str × Addr)) (T nm : Value) (k : Addr) : Obj := { cls := .type "function", data := .func { name, qualname := q, params := prm, body := .stmts body, scope, globals := 3, closure := clo, closureTuple := T, defaults := .none, kwdefaults := .none, pyModule := nm, code := .ref k, builtins := builtinsNs } }
theorem docN {M : Model} {A : Around} {E : Value → Shared → Prop} {s : Shared} {Q : Value → Shared → Prop} {body : FuncBody} {jp : Value → Sem Value} (hd : ∀ b, body = .stmts b → docOf b = none) (h : wpAny M A (jp .none) Q E s) :
    wpAny M A (match body with | .stmts b => (match docOf b with | some s => mkText s | none => pure .none) >>= jp | .expr _ => pure .none >>= jp) Q E s := by
  cases body with
  | expr _ => exact wB (wpAny_pure h)
  | stmts b => refine wB (wpAny_of_eq (a := Value.none) ?_ h); rw [hd b rfl]
theorem mkct {M : Model} {A : Around} {E : Value → Shared → Prop} {s : Shared} {Q : Value → Shared → Prop} (clo : List (Str × Addr)) {jp : Value → Sem Value}
    (h : ∀ T h1, Ext s.heap h1 → (clo = [] → T = .none) → (clo ≠ [] → ∃ t, T = .ref t) → wpAny M A (jp T) Q E { s with heap := h1 }) :
    wpAny M A (if clo.isEmpty then (pure .none >>= jp) else (newTextTuple ((clo.mergeSort fun a b => a.1.cps.toList ≤ b.1.cps.toList).map (.ref ·.2)) >>= jp)) Q E s := by
  cases clo with
  | nil => exact wpAny_ite_true rfl (wB (wpAny_pure (h .none _ (fun _ _ e => e) (fun _ => rfl) fun e => absurd rfl e)))
  | cons x r =>
    refine wpAny_ite_false rfl ?_
    repeat (first | (wp_delta; wtm_at "sb") | ((with_reducible apply wpAny_ite_false); focus (rfl; done); wtm_at "sb") | (refine wB ?_))
    refine al (by rfl) ?_
    intro T h1 k1 nT eT
    wtm_at "sb"
    exact h (.ref T) h1 k1 (fun e => nomatch e) fun _ => ⟨T, rfl⟩
set_option maxHeartbeats 4000000 in
theorem mkfn {M : Model} {A : Around} {E : Value → Shared → Prop} {s : Shared} {env : Env} {name q : Str} {params : Arguments} {body : FuncBody} {scope : Scope} {pos : Pos} {fl : Nat} {c P bm : Addr} {clo : List (Str × Addr)} {ps : Array Value} {o3 ob : Obj} {nm : Value} {Q : Value → Shared → Prop}
    (hg : env.globals = 3) (hcode : env.code = .ref c) (hdoc : ∀ b, body = .stmts b → docOf b = none) (hclo : closureFor scope env = pure clo)
    (hct : CT s.heap c P ps) (he : Entry (FC q) s.heap pos ps) (hP3 : P ≠ 3) (hPb : P ≠ bm)
    (e3 : s.heap.get? 3 = some o3) (l1 : nsLook (Str.ofString "__builtins__") o3 = pure (some (.ref bm))) (l2 : nsLook (Str.ofString "__name__") o3 = pure (some nm)) (hbm : (bm == builtinsNs) = false)
    (eb : s.heap.get? bm = some ob) (hb1 : ob.data = .plain) (hb2 : ob.dict = some builtinsNs) (hb3 : ob.cls = .type "module")
    (hQ : ∀ g k T h' tk ps', (ExtB P s.heap h') → s.heap.get? g = none → CT h' c P ps' →
      (∀ pos', ((pos.line : Int) == (pos'.line : Int) && (pos.col : Int) == (pos'.col : Int)) = false → codeAmong pos' ps'.toList = codeAmong pos' ps.toList) → codeAmong pos ps'.toList = some (.ref k) → FC q h' k →
      (clo = [] → T = .none) → (clo ≠ [] → ∃ t, T = .ref t) →
      h'.get? g = some { cls := .type "function", data := .func { name := name, qualname := q, params, body := body, scope, globals := 3, closure := clo, closureTuple := T, defaults := .none, kwdefaults := .none, pyModule := nm, code := .ref k, builtins := builtinsNs } } →
      Q (.ref g) { s with heap := h', toks := tk }) :
    wpAny M A (makeFunction name q params body scope env [] [] [] pos fl) Q E s := by
  obtain ⟨h, g, d, t, os⟩ := s
  dsimp only at *
  unfold makeFunction
  wtm_at "sb"
  ((with_reducible apply wpAny_ite_true); focus (rfl; done); wtm_at "sb")
  refine wpAny_ite_true (by rw [List.zip_nil_right]; rfl) ?_
  wtm_at "sb"
  ((with_reducible apply wpAny_ite_true); focus (rfl; done); wtm_at "sb")
  wtm_at "sb"
  k_call_by "ft" (hclo)
  refine mkct clo fun T h1 k1 c0 c1 => ?_
  wtm_at "sb"
  unfold functionCode
  refine codeAt_any (R := FC q) (q := q) hcode (hct.keeps k1) (he.keeps k1) (fun ctx Q hq => wpAny_newCodeX hq) (fun h' c' P' _ _ _ a b => ⟨a, b.code⟩) ?_
  intro k h' tk ps' hx hct' hk hoth hfc
  dsimp only at *
  have e3' := hx _ _ (Ne.symm hP3) (k1 _ _ e3)
  have eb' := hx _ _ (Ne.symm hPb) (k1 _ _ eb)
  have hbm' : decide ((bm == builtinsNs) = true) = false := by rw [hbm]; rfl
  wtm_at "sb"
  rw [← hg] at e3'
  repeat (first | (wp_delta; wtm_at "sb") | wtm_at "ifa")
  with_reducible refine wpAny_loadPart' e3' ?_
  wtm_at "sb"
  k_call_by "ft" (l1)
  repeat (first | (wp_delta; wtm_at "sb") | wtm_at "ifa")
  with_reducible refine wpAny_load' eb' ?_
  wtm_at "sb"
  rw [hb1, hb2]
  repeat (first | (wp_delta; wtm_at "sb") | wtm_at "ifa")
  rw [hb3]
  ((with_reducible apply wpAny_ite_true); focus (rfl; done); wtm_at "sb")
  wtm_at "wb"
  (wp_delta; wtm_at "sb")
  with_reducible refine wpAny_loadPart' e3' ?_
  wtm_at "sb"
  k_call_by "ft" (l2)
  wtm_at "sb"
  refine docN hdoc ?_
  wtm_at "sb"
  repeat (first | (wp_delta; wtm_at "sb") | ((with_reducible apply wpAny_ite_false); focus (rfl; done); wtm_at "sb"))
  refine al (by rfl) ?_
  intro G h2 k2 nG eG
  wtm_at "sb"
  repeat (first | (wp_delta; wtm_at "sb") | ((with_reducible apply wpAny_ite_false); focus (rfl; done); wtm_at "sb"))
  rw [hg] at eG
  refine hQ G k T h2 _ ps' (fun b o hb e => k2 b o (hx b o hb (k1 b o e))) ?_ (hct'.keeps k2) hoth hk (hfc.keeps k2) c0 c1 eG
  cases q' : h.get? G with
  | none => rfl
  | some o =>
    by_cases hGP : G = P
    · subst hGP; rw [hct'.table] at nG; cases nG
    · rw [hx G o hGP (k1 G o q')] at nG; cases nG
theorem mkfn0 {M : Model} {A : Around} {E : Value → Shared → Prop} {s : Shared} {env : Env} {name q : Str} {params : Arguments} {body : List Stmt} {scope : Scope} {pos : Pos} {fl : Nat} {c P bm : Addr} {ps : Array Value} {o3 ob : Obj} {nm : Value} {Q : Value → Shared → Prop}
    (hg : env.globals = 3) (hcode : env.code = .ref c) (hdoc : docOf body = none) (hclo : closureFor scope env = pure [])
    (hct : CT s.heap c P ps) (he : Entry (FC q) s.heap pos ps) (hP3 : P ≠ 3) (hPb : P ≠ bm)
    (e3 : s.heap.get? 3 = some o3) (l1 : nsLook (Str.ofString "__builtins__") o3 = pure (some (.ref bm))) (l2 : nsLook (Str.ofString "__name__") o3 = pure (some nm)) (hbm : (bm == builtinsNs) = false)
    (eb : s.heap.get? bm = some ob) (hb1 : ob.data = .plain) (hb2 : ob.dict = some builtinsNs) (hb3 : ob.cls = .type "module")
    (hQ : ∀ g k h' tk ps', (ExtB P s.heap h') → s.heap.get? g = none → CT h' c P ps' →
      (∀ pos', ((pos.line : Int) == (pos'.line : Int) && (pos.col : Int) == (pos'.col : Int)) = false → codeAmong pos' ps'.toList = codeAmong pos' ps.toList) → codeAmong pos ps'.toList = some (.ref k) → FC q h' k →
      h'.get? g = some (FO name (params) body (scope) (q) [] (.none) (nm) k) →
      Q (.ref g) { s with heap := h', toks := tk }) :
    wpAny M A (makeFunction name q params (.stmts body) scope env [] [] [] pos fl) Q E s :=
  mkfn hg hcode (fun b e => by cases e; exact hdoc) hclo hct he hP3 hPb e3 l1 l2 hbm eb hb1 hb2 hb3 fun g k T h' tk ps' a1 a2 a3 a4 a5 a6 c0 _ a7 => hQ g k h' tk ps' a1 a2 a3 a4 a5 a6 (by cases c0 rfl; exact a7)

end
-- N13
section
open PySem PySem.W PyProof.Rows PySem.Calls PySem.Spec PySem.Builtin.Str
theorem mkfn1 {M : Model} {A : Around} {E : Value → Shared → Prop} {s : Shared} {env : Env} {name q : Str} {params : Arguments} {body : List Stmt} {scope : Scope} {pos : Pos} {fl : Nat} {c P bm cell : Addr} {cn : Str} {ps : Array Value} {o3 ob : Obj} {nm : Value} {Q : Value → Shared → Prop}
    (hg : env.globals = 3) (hcode : env.code = .ref c) (hdoc : docOf body = none) (hclo : closureFor scope env = pure [(cn, cell)])
    (hct : CT s.heap c P ps) (he : Entry (FC q) s.heap pos ps) (hP3 : P ≠ 3) (hPb : P ≠ bm)
    (e3 : s.heap.get? 3 = some o3) (l1 : nsLook (Str.ofString "__builtins__") o3 = pure (some (.ref bm))) (l2 : nsLook (Str.ofString "__name__") o3 = pure (some nm)) (hbm : (bm == builtinsNs) = false)
    (eb : s.heap.get? bm = some ob) (hb1 : ob.data = .plain) (hb2 : ob.dict = some builtinsNs) (hb3 : ob.cls = .type "module")
    (hQ : ∀ g k T h' tk ps', (ExtB P s.heap h') → s.heap.get? g = none → CT h' c P ps' →
      (∀ pos', ((pos.line : Int) == (pos'.line : Int) && (pos.col : Int) == (pos'.col : Int)) = false → codeAmong pos' ps'.toList = codeAmong pos' ps.toList) → codeAmong pos ps'.toList = some (.ref k) → FC q h' k →
      h'.get? g = some (FO name (params) body (scope) (q) [(cn, cell)] (.ref T) (nm) k) →
      Q (.ref g) { s with heap := h', toks := tk }) :
    wpAny M A (makeFunction name q params (.stmts body) scope env [] [] [] pos fl) Q E s :=
  mkfn hg hcode (fun b e => by cases e; exact hdoc) hclo hct he hP3 hPb e3 l1 l2 hbm eb hb1 hb2 hb3 fun g k T h' tk ps' a1 a2 a3 a4 a5 a6 _ c1 a7 => by
    obtain ⟨t, rfl⟩ := c1 (fun e => nomatch e)
    exact hQ g k t h' tk ps' a1 a2 a3 a4 a5 a6 a7
noncomputable abbrev SCB : Scope := { kind := .class, names := [(Str.ofString "__module__", .local), (Str.ofString "__slots__", .local), (Str.ofString "__init__", .local), (Str.ofString "__lt__", .local), (Str.ofString "__gt__", .local), (Str.ofString "__eq__", .local), (Str.ofString "__le__", .local), (Str.ofString "__ge__", .local), (Str.ofString "__hash__", .local), (Str.ofString "mycmp", .free)], isGenerator := false, isCoroutine := false }
noncomputable abbrev BE (N FA k c : Addr) : Env := { scope := SCB, locals := N, globals := 3, cells := [(Str.ofString "mycmp", c)], qual := qK ++ Str.ofString ".", code := .ref k, frame := some FA }
end
local macro_rules | `(tactic| wtm_at "sc") => `(tactic| repeat k_call_by "rf" ["kI kBI kBR kTI wB wpAny_pure wpAny_holding wpAny_rule wpAny_standAt wpAny_point wpAny_fresh' wpAny_askSetting tcw wpAny_onRaise"])
local macro_rules | `(tactic| k_call_by "nt" [$xs,*]) => do
  let ts := xs.getElems
  `(tactic| fail_if_success (with_reducible first $[| show wpAny _ _ $ts _ _ _]*))
local macro_rules | `(tactic| wtm_at "wone") => `(tactic| ((first | wp_delta | wtm_at "ld" | wtm_at "fts" | wtm_at "ifa" | ((with_reducible show wpAny _ _ (ite _ _ _) _ _ _); k_node) | wtm_at "wb"); wtm_at "sc"))
local macro_rules | `(tactic| wtm_at "wtwo") => `(tactic| first | ((with_reducible refine Calls.wpAny_keep ?_); wtm_at "sc") | wtm_at "wone")
section
noncomputable def psh (es : Array DictEntry) (x : Str) (hh : Int) (tk : Tok) (v : Value) : Array DictEntry := es.push ⟨hh, .str x tk, v⟩
structure NewName (es : Array DictEntry) (m : Nat) (x : Str) : Prop where
  ro : decide (aRefKeyMayBeTheName x es = true) = false
  put : ∀ hh tk v, Obj.putName x hh (.str x tk) v (OE es m) = OE (psh es x hh tk v) (m + 1)
set_option maxRecDepth 100000 in
set_option maxHeartbeats 1000000 in
theorem storeK {w : World} {prog : Program} {A : Around} {E : Value → Shared → Prop} {h : Heap} {g : Array GenState} {d : Drawn} {t : Nat} {os : OsState} {x : Str} {N FA k c : Addr} {v : Value} {Q : Unit → Shared → Prop} {es : Array DictEntry} {m : Nat}
   (hk : (BE N FA k c).kindOf x = some .local) (hs : decide ((N == sysModules) = true) = false) (eN : h.get? N = some (OE es m)) (hz : es.size ≤ 100) (nn : NewName es m x)
   (hq : ∀ h' hh tk tk', (ExtB N h h') → h'.get? N = some (OE (psh es x hh tk v) (m + 1)) → Q () ⟨h', g, d, tk', os⟩) :
    wpAny (model prog w) A (storeName (BE N FA k c) x v) Q E ⟨h, g, d, t, os⟩ := by
  have zz : decide ((decide (es.size > sizeLine) && noSuchName x es) = true) = false := by rw [show decide (es.size > sizeLine) = false from decide_eq_false (by rw [sizeLine_eq]; exact Nat.not_lt_of_le (lc (lR1 _) (.h z0 (lN 100) (.g z0 (lN 16777216))) lT hz))]; rfl
  obtain ⟨ro, put⟩ := nn
  unfold storeName
  rw [hk]
  (repeat wtm_at "wone")
  refine upP eN (by rw [put]; rfl) ?_
  intro h' u e
  exact hq h' _ _ _ u (e.trans (congrArg some (put _ _ _)))
set_option maxRecDepth 100000 in
set_option maxHeartbeats 1000000 in
theorem storeKn {w : World} {prog : Program} {A : Around} {E : Value → Shared → Prop} {h : Heap} {g : Array GenState} {d : Drawn} {t : Nat} {os : OsState} {x : Str} {N FA k c : Addr} {v : Value} {Q : Unit → Shared → Prop} {es : Array DictEntry} {m : Nat}
   (hk : (BE N FA k c).kindOf x = none) (hcn : compilersOwnNames.contains x = true) (hs : decide ((N == sysModules) = true) = false) (eN : h.get? N = some (OE es m)) (hz : es.size ≤ 100) (nn : NewName es m x)
   (hq : ∀ h' hh tk tk', (ExtB N h h') → h'.get? N = some (OE (psh es x hh tk v) (m + 1)) → Q () ⟨h', g, d, tk', os⟩) :
    wpAny (model prog w) A (storeName (BE N FA k c) x v) Q E ⟨h, g, d, t, os⟩ := by
  have zz : decide ((decide (es.size > sizeLine) && noSuchName x es) = true) = false := by rw [show decide (es.size > sizeLine) = false from decide_eq_false (by rw [sizeLine_eq]; exact Nat.not_lt_of_le (lc (lR1 _) (.h z0 (lN 100) (.g z0 (lN 16777216))) lT hz))]; rfl
  obtain ⟨ro, put⟩ := nn
  unfold storeName
  rw [hk]
  (repeat wtm_at "wone")
  refine wpAny_ite_false (by rw [hcn]; rfl) ?_
  (repeat wtm_at "wone")
  refine upP eN (by rw [put]; rfl) ?_
  intro h' u e
  exact hq h' _ _ _ u (e.trans (congrArg some (put _ _ _)))
structure OldName (es : Array DictEntry) (m : Nat) (x : Str) (v : Value) (es' : Array DictEntry) : Prop where
  ro : decide (aRefKeyMayBeTheName x es = true) = false
  put : ∀ hh tk, Obj.putName x hh (.str x tk) v (OE es m) = OE es' m
set_option maxRecDepth 100000 in
set_option maxHeartbeats 1000000 in
theorem storeKo {w : World} {prog : Program} {A : Around} {E : Value → Shared → Prop} {h : Heap} {g : Array GenState} {d : Drawn} {t : Nat} {os : OsState} {x : Str} {N FA k c : Addr} {v : Value} {Q : Unit → Shared → Prop} {es : Array DictEntry} {m : Nat}
   (hk : (BE N FA k c).kindOf x = some .local) (hs : decide ((N == sysModules) = true) = false) (eN : h.get? N = some (OE es m)) (hz : es.size ≤ 100) {es' : Array DictEntry} (nn : OldName es m x v es')
   (hq : ∀ h' tk', (ExtB N h h') → h'.get? N = some (OE es' m) → Q () ⟨h', g, d, tk', os⟩) :
    wpAny (model prog w) A (storeName (BE N FA k c) x v) Q E ⟨h, g, d, t, os⟩ := by
  have zz : decide ((decide (es.size > sizeLine) && noSuchName x es) = true) = false := by rw [show decide (es.size > sizeLine) = false from decide_eq_false (by rw [sizeLine_eq]; exact Nat.not_lt_of_le (lc (lR1 _) (.h z0 (lN 100) (.g z0 (lN 16777216))) lT hz))]; rfl
  obtain ⟨ro, put⟩ := nn
  unfold storeName
  rw [hk]
  (repeat wtm_at "wone")
  refine upP eN (by rw [put]; rfl) ?_
  intro h' u e
  exact hq h' _ u (e.trans (congrArg some (put _ _)))
noncomputable def oldBut (P N : Addr) (h h' : Heap) : Prop := ∀ b o, b ≠ P → b ≠ N → h.get? b = some o → h'.get? b = some o
set_option maxRecDepth 100000 in
set_option maxHeartbeats 1000000 in
theorem defK1 {w : World} {prog : Program} {A : Around} {E : Value → Shared → Prop} {h : Heap} {g : Array GenState} {d : Drawn} {t : Nat} {os : OsState} {name bind a1 a2 : Str} {p1 p2 : Pos} {body : List Stmt} {names : List (Str × NameKind)} {pos : Pos} {N FA k c P : Addr} {ps : Array Value} {o3 ob : Obj} {nm : Value} {Q : Flow → Shared → Prop} {es : Array DictEntry} {m : Nat}
   (hk : (BE N FA k c).kindOf bind = some .local) (hdoc : docOf body = none) (hclo : closureFor {kind := .function, names := names, isGenerator := false, isCoroutine := false} (BE N FA k c) = pure [(Str.ofString "mycmp", c)])
   (nn : NewName es m bind) (hz : es.size ≤ 100) (he : Entry (FC (qualnameIn (BE N FA k c) name bind)) h pos ps)
   (hP3 : P ≠ 3) (hPb : P ≠ 4) (hct : CT h k P ps) (hPN : P ≠ N) (hs : decide ((N == sysModules) = true) = false)
   (e3 : h.get? 3 = some o3) (l1 : nsLook (Str.ofString "__builtins__") o3 = pure (some (.ref 4))) (l2 : nsLook (Str.ofString "__name__") o3 = pure (some nm))
   (eb : h.get? 4 = some ob) (hb1 : ob.data = .plain) (hb2 : ob.dict = some builtinsNs) (hb3 : ob.cls = .type "module") (eN : h.get? N = some (OE es m))
   (hQ : ∀ h' G cd T ps' hh tk tk', oldBut P N h h' → h.get? G = none → CT h' k P ps' →
      (∀ pos', ((pos.line : Int) == (pos'.line : Int) && (pos.col : Int) == (pos'.col : Int)) = false → codeAmong pos' ps'.toList = codeAmong pos' ps.toList) → Entry (FC (qualnameIn (BE N FA k c) name bind)) h' pos ps' →
      FC (qualnameIn (BE N FA k c) name bind) h' cd →
      h'.get? G = some (FO name ({ posonlyargs := [], args := [{ arg := a1, annotation := none, pos := p1 }, { arg := a2, annotation := none, pos := p2 }], vararg := none, kwonlyargs := [], kw_defaults := [], kwarg := none, defaults := [] }) body ({kind := .function, names := names, isGenerator := false, isCoroutine := false}) (qualnameIn (BE N FA k c) name bind) [(Str.ofString "mycmp", c)] (.ref T) (nm) cd) →
      h'.get? N = some (OE (psh es bind hh tk (.ref G)) (m + 1)) → Q .next ⟨h', g, d, tk', os⟩) :
    wpAny (model prog w) A (exec (.FunctionDef name { posonlyargs := [], args := [{ arg := a1, annotation := none, pos := p1 }, { arg := a2, annotation := none, pos := p2 }], vararg := none, kwonlyargs := [], kw_defaults := [], kwarg := none, defaults := [] } body [] none [] {kind := .function, names := names, isGenerator := false, isCoroutine := false} none bind pos) (BE N FA k c)) Q E ⟨h, g, d, t, os⟩ := by
  rw [arm_exec_FunctionDef]
  rw [show evalEach [] (BE N FA k c) = [] from rfl]
  rw [show defaultsOf { posonlyargs := [], args := [{ arg := a1, annotation := none, pos := p1 }, { arg := a2, annotation := none, pos := p2 }], vararg := none, kwonlyargs := [], kw_defaults := [], kwarg := none, defaults := [] } (BE N FA k c) = ([], []) from rfl]
  unfold defStmt
  rw [if_neg (by simp)]
  wtm_at "sc"
  repeat ((fail_if_success (with_reducible show wpAny _ _ (makeFunction _ _ _ _ _ _ _ _ _ _ _) _ _ _)); first | (wp_delta; wtm_at "sc") | (wtm_at "ld"; wtm_at "sc") | (wtm_at "fts"; wtm_at "sc") | (wtm_at "ifa"; wtm_at "sc") | ((with_reducible show wpAny _ _ (ite _ _ _) _ _ _); k_node; wtm_at "sc") | (wtm_at "wb"; wtm_at "sc"))
  refine mkfn1 (cn := Str.ofString "mycmp") (cell := c) (bm := 4) rfl rfl hdoc hclo hct he hP3 hPb e3 l1 l2 (by decide) eb hb1 hb2 hb3 ?_
  intro G cd T h1 tk1 ps1 k1 nG hct1 hoth hcd hfc eG
  have eN0 := eN
  replace eN := k1 _ _ (Ne.symm hPN) eN
  have hGN : G ≠ N := fun e => by rw [e] at nG; rw [nG] at eN0; cases eN0
  have hcdN : cd ≠ N := fun e => by
    obtain ⟨o, a, b⟩ := hfc.2
    rw [e, eN] at a; cases a; simp at b
  have hkN : k ≠ N := fun e => by
    obtain ⟨o, a, b⟩ := hct1.code
    rw [e, eN] at a; cases a; simp at b
  have hcr := hfc.1
  wtm_at "sc"
  repeat ((fail_if_success (with_reducible show wpAny _ _ (storeName _ _ _) _ _ _)); first | (wp_delta; wtm_at "sc") | (wtm_at "ld"; wtm_at "sc") | (wtm_at "fts"; wtm_at "sc") | (wtm_at "ifa"; wtm_at "sc") | ((with_reducible show wpAny _ _ (ite _ _ _) _ _ _); k_node; wtm_at "sc") | (wtm_at "wb"; wtm_at "sc"))
  refine storeK hk hs eN hz nn fun h2 hh tk2 tk3 k2 e2 => ?_
  wtm_at "sc"
  have hfc2 := hfc.extBut k2 hcdN
  refine hQ h2 G cd T ps1 hh _ _ (fun b o hb hN e => k2 b o hN (k1 b o hb e)) nG (hct1.extBut k2 hkN hPN) hoth (.inr ⟨cd, hcd, hfc2⟩) hfc2 (k2 _ _ hGN eG) e2
set_option maxRecDepth 100000 in
set_option maxHeartbeats 1000000 in
theorem defK0 {w : World} {prog : Program} {A : Around} {E : Value → Shared → Prop} {h : Heap} {g : Array GenState} {d : Drawn} {t : Nat} {os : OsState} {name bind a1 a2 : Str} {p1 p2 : Pos} {body : List Stmt} {names : List (Str × NameKind)} {pos : Pos} {N FA k c P : Addr} {ps : Array Value} {o3 ob : Obj} {nm : Value} {Q : Flow → Shared → Prop} {es : Array DictEntry} {m : Nat}
   (hk : (BE N FA k c).kindOf bind = some .local) (hdoc : docOf body = none) (hclo : closureFor {kind := .function, names := names, isGenerator := false, isCoroutine := false} (BE N FA k c) = pure [])
   (nn : NewName es m bind) (hz : es.size ≤ 100) (he : Entry (FC (qualnameIn (BE N FA k c) name bind)) h pos ps)
   (hP3 : P ≠ 3) (hPb : P ≠ 4) (hct : CT h k P ps) (hPN : P ≠ N) (hs : decide ((N == sysModules) = true) = false)
   (e3 : h.get? 3 = some o3) (l1 : nsLook (Str.ofString "__builtins__") o3 = pure (some (.ref 4))) (l2 : nsLook (Str.ofString "__name__") o3 = pure (some nm))
   (eb : h.get? 4 = some ob) (hb1 : ob.data = .plain) (hb2 : ob.dict = some builtinsNs) (hb3 : ob.cls = .type "module") (eN : h.get? N = some (OE es m))
   (hQ : ∀ h' G cd ps' hh tk tk', oldBut P N h h' → h.get? G = none → CT h' k P ps' →
      (∀ pos', ((pos.line : Int) == (pos'.line : Int) && (pos.col : Int) == (pos'.col : Int)) = false → codeAmong pos' ps'.toList = codeAmong pos' ps.toList) → Entry (FC (qualnameIn (BE N FA k c) name bind)) h' pos ps' →
      FC (qualnameIn (BE N FA k c) name bind) h' cd →
      h'.get? G = some (FO name ({ posonlyargs := [], args := [{ arg := a1, annotation := none, pos := p1 }, { arg := a2, annotation := none, pos := p2 }], vararg := none, kwonlyargs := [], kw_defaults := [], kwarg := none, defaults := [] }) body ({kind := .function, names := names, isGenerator := false, isCoroutine := false}) (qualnameIn (BE N FA k c) name bind) [] (.none) (nm) cd) →
      h'.get? N = some (OE (psh es bind hh tk (.ref G)) (m + 1)) → Q .next ⟨h', g, d, tk', os⟩) :
    wpAny (model prog w) A (exec (.FunctionDef name { posonlyargs := [], args := [{ arg := a1, annotation := none, pos := p1 }, { arg := a2, annotation := none, pos := p2 }], vararg := none, kwonlyargs := [], kw_defaults := [], kwarg := none, defaults := [] } body [] none [] {kind := .function, names := names, isGenerator := false, isCoroutine := false} none bind pos) (BE N FA k c)) Q E ⟨h, g, d, t, os⟩ := by
  rw [arm_exec_FunctionDef]
  rw [show evalEach [] (BE N FA k c) = [] from rfl]
  rw [show defaultsOf { posonlyargs := [], args := [{ arg := a1, annotation := none, pos := p1 }, { arg := a2, annotation := none, pos := p2 }], vararg := none, kwonlyargs := [], kw_defaults := [], kwarg := none, defaults := [] } (BE N FA k c) = ([], []) from rfl]
  unfold defStmt
  rw [if_neg (by simp)]
  wtm_at "sc"
  repeat ((fail_if_success (with_reducible show wpAny _ _ (makeFunction _ _ _ _ _ _ _ _ _ _ _) _ _ _)); first | (wp_delta; wtm_at "sc") | (wtm_at "ld"; wtm_at "sc") | (wtm_at "fts"; wtm_at "sc") | (wtm_at "ifa"; wtm_at "sc") | ((with_reducible show wpAny _ _ (ite _ _ _) _ _ _); k_node; wtm_at "sc") | (wtm_at "wb"; wtm_at "sc"))
  refine mkfn0 (bm := 4) rfl rfl hdoc hclo hct he hP3 hPb e3 l1 l2 (by decide) eb hb1 hb2 hb3 ?_
  intro G cd h1 tk1 ps1 k1 nG hct1 hoth hcd hfc eG
  have eN0 := eN
  replace eN := k1 _ _ (Ne.symm hPN) eN
  have hGN : G ≠ N := fun e => by rw [e] at nG; rw [nG] at eN0; cases eN0
  have hcdN : cd ≠ N := fun e => by
    obtain ⟨o, a, b⟩ := hfc.2
    rw [e, eN] at a; cases a; simp at b
  have hkN : k ≠ N := fun e => by
    obtain ⟨o, a, b⟩ := hct1.code
    rw [e, eN] at a; cases a; simp at b
  have hcr := hfc.1
  wtm_at "sc"
  repeat ((fail_if_success (with_reducible show wpAny _ _ (storeName _ _ _) _ _ _)); first | (wp_delta; wtm_at "sc") | (wtm_at "ld"; wtm_at "sc") | (wtm_at "fts"; wtm_at "sc") | (wtm_at "ifa"; wtm_at "sc") | ((with_reducible show wpAny _ _ (ite _ _ _) _ _ _); k_node; wtm_at "sc") | (wtm_at "wb"; wtm_at "sc"))
  refine storeK hk hs eN hz nn fun h2 hh tk2 tk3 k2 e2 => ?_
  wtm_at "sc"
  have hfc2 := hfc.extBut k2 hcdN
  refine hQ h2 G cd ps1 hh _ _ (fun b o hb hN e => k2 b o hN (k1 b o hb e)) nG (hct1.extBut k2 hkN hPN) hoth (.inr ⟨cd, hcd, hfc2⟩) hfc2 (k2 _ _ hGN eG) e2

end
-- N15
section
open PySem PySem.W PyProof.Rows PySem.Calls PySem.Spec PySem.Builtin.Str
theorem m1 : typeLookup (.type "dict") (Str.ofString "__getitem__") = pure (some (.builtin "dict.__getitem__")) := by rw [typeLookup_type, builtinLookup_eq_fast]; kernel_rfl
noncomputable abbrev fiveK (nm : String) : Str := (qK ++ Str.ofString ".") ++ Str.ofString nm
noncomputable abbrev pI : Pos := ⟨24, 8, 25, 26⟩
noncomputable abbrev pL : Pos := ⟨27, 8, 28, 49⟩
noncomputable abbrev pG : Pos := ⟨30, 8, 31, 49⟩
noncomputable abbrev pE : Pos := ⟨33, 8, 34, 50⟩
noncomputable abbrev pLE : Pos := ⟨36, 8, 37, 50⟩
noncomputable abbrev pGE : Pos := ⟨39, 8, 40, 50⟩
noncomputable def sixK : List (Pos × Str) := [(pI, fiveK "__init__"), (pL, fiveK "__lt__"), (pG, fiveK "__gt__"), (pE, fiveK "__eq__"), (pLE, fiveK "__le__"), (pGE, fiveK "__ge__")]
noncomputable def AllE (h : Heap) (ps : Array Value) : Prop := ∀ x ∈ sixK, Entry (FC x.2) h x.1 ps
theorem AllE.step {h h' : Heap} {P N : Addr} {ps ps' : Array Value} {pos : Pos} {q : Str} {es : Array DictEntry} {m : Nat} (hE : AllE h ps) (ho : oldBut P N h h') (tP : h.get? P = some { cls := .none, data := .fields ps }) (eN : h.get? N = some (OE es m))
    (hp : ∀ pos', ((pos.line : Int) == (pos'.line : Int) && (pos.col : Int) == (pos'.col : Int)) = false → codeAmong pos' ps'.toList = codeAmong pos' ps.toList) (hn : Entry (FC q) h' pos ps')
    (hd : ∀ x ∈ sixK, ((pos.line : Int) == (x.1.line : Int) && (pos.col : Int) == (x.1.col : Int)) = true → x = (pos, q)) : AllE h' ps' := by
  intro x hx
  cases e : ((pos.line : Int) == (x.1.line : Int) && (pos.col : Int) == (x.1.col : Int)) with
  | true => rw [hd x hx e]; exact hn
  | false =>
    rcases hE x hx with a | ⟨c, a, b⟩
    · exact .inl ((hp _ e).trans a)
    · refine .inr ⟨c, (hp _ e).trans a, ?_⟩
      have h1 : c ≠ P := b.2.ne tP
      have h2 : c ≠ N := fun q => by
        obtain ⟨o, x1, x2⟩ := b.2
        rw [q, eN] at x1; cases x1; simp at x2
      obtain ⟨⟨c₂, o₂, vs₂, t₂, e₂, g₂, r₂⟩, o, b', c'⟩ := b
      cases e₂
      exact ⟨⟨_, o₂, vs₂, t₂, rfl, ho _ _ h1 h2 g₂, r₂⟩, o, ho _ _ h1 h2 b', c'⟩
theorem cls_ne {h : Heap} {a b : Addr} {o o' : Obj} (ha : h.get? a = some o) (hb : h.get? b = some o') (hn : o.cls ≠ o'.cls) : a ≠ b := fun e => by
  subst e; rw [ha] at hb; cases hb; exact hn rfl
theorem CodeRec.but {h h' : Heap} {P N cd : Addr} {q : Str} {ps : Array Value} {es : Array DictEntry} {m : Nat} (x : FC q h cd) (u : oldBut P N h h') (tP : h.get? P = some { cls := .none, data := .fields ps }) (eN : h.get? N = some (OE es m)) : FC q h' cd := by
  have h1 : cd ≠ P := x.2.ne tP
  have h2 : cd ≠ N := fun q => by
    obtain ⟨o, x1, x2⟩ := x.2
    rw [q, eN] at x1; cases x1; simp at x2
  obtain ⟨⟨c₂, o₂, vs₂, t₂, e₂, g₂, r₂⟩, o, b', c'⟩ := x
  cases e₂
  exact ⟨⟨_, o₂, vs₂, t₂, rfl, u _ _ h1 h2 g₂, r₂⟩, o, u _ _ h1 h2 b', c'⟩
structure KPar where
  x : Nat → Int
  y : Nat → Tok
  a : Nat → Addr
noncomputable abbrev esQ (p : KPar) : Array DictEntry := #[⟨p.x 0, .str (Str.ofString "__module__") (p.y 0), .str (Str.ofString "cpy313.functools") (p.y 20)⟩, ⟨p.x 1, .str (Str.ofString "__firstlineno__") (p.y 1), .int 20 (p.y 21)⟩, ⟨p.x 2, .str (Str.ofString "__slots__") (p.y 2), .ref (p.a 2)⟩,
  ⟨p.x 3, .str (Str.ofString "__init__") (p.y 3), .ref (p.a 3)⟩, ⟨p.x 4, .str (Str.ofString "__lt__") (p.y 4), .ref (p.a 4)⟩, ⟨p.x 5, .str (Str.ofString "__gt__") (p.y 5), .ref (p.a 5)⟩, ⟨p.x 6, .str (Str.ofString "__eq__") (p.y 6), .ref (p.a 6)⟩,
  ⟨p.x 7, .str (Str.ofString "__le__") (p.y 7), .ref (p.a 7)⟩, ⟨p.x 8, .str (Str.ofString "__ge__") (p.y 8), .ref (p.a 8)⟩, ⟨p.x 9, .str (Str.ofString "__hash__") (p.y 9), .none⟩, ⟨p.x 10, .str (Str.ofString "__static_attributes__") (p.y 10), .ref (p.a 10)⟩]
noncomputable abbrev esP (p : KPar) : Array DictEntry := ((esQ p).push ⟨p.x 11, .str (Str.ofString "obj") (p.y 11), .ref (p.a 11)⟩).push ⟨p.x 12, .str (Str.ofString "__doc__") (p.y 12), .none⟩
theorem harm_one {h : Heap} {hh : Int} {x : Str} {tk : Tok} {v : Value} (hl : Builtin.laidUnderItsOwnName (.str x tk) v = false) (hv : (Ex3 fun a T o => And4 (v = .ref a) (h.get? a = some o) (o.cls = .type T) (typeLookup (.type T) (Str.ofString "__set_name__") = pure none)) ∨ specialOf v (Str.ofString "__set_name__") = pure none) :
    Harm h ⟨hh, .str x tk, v⟩ := ⟨⟨_, _, rfl⟩, hl, hv⟩
theorem sn_fn : typeLookup (.type "function") (Str.ofString "__set_name__") = pure none := by rw [typeLookup_type, builtinLookup_eq_fast]; kernel_rfl
theorem sn_list : typeLookup (.type "list") (Str.ofString "__set_name__") = pure none := by rw [typeLookup_type, builtinLookup_eq_fast]; kernel_rfl
theorem sn_tuple : typeLookup (.type "tuple") (Str.ofString "__set_name__") = pure none := by rw [typeLookup_type, builtinLookup_eq_fast]; kernel_rfl
noncomputable def clsStmts (w : World) : List Stmt := match bodyCK w with
  | [_, .ClassDef _ _ _ b .., _] => b
  | _ => []
noncomputable def defAt (w : World) (i : Nat) : Arguments × List Stmt × Scope := match (clsStmts w)[i]? with
  | some (.FunctionDef _ a b _ _ _ sc ..) => (a, b, sc)
  | _ => ({ posonlyargs := [], args := [], vararg := none, kwonlyargs := [], kw_defaults := [], kwarg := none, defaults := [] }, [], SCK)
noncomputable abbrev FnK (nm : String) (prm : Arguments) (body : List Stmt) (scope : Scope) (clo : List (Str × Addr)) (T : Value) (cd : Addr) : Obj := { cls := .type "function", data := .func { name := Str.ofString nm, qualname := fiveK nm, params := prm, body := .stmts body, scope := scope, globals := 3, closure := clo, closureTuple := T, defaults := .none, kwdefaults := .none, pyModule := .str (Str.ofString "law_in0041_01") 630, code := .ref cd, builtins := builtinsNs } }
structure KD where
  p : KPar
  bT : Addr
  N : Addr
  cdI : Addr
  cdL : Addr
  TL : Addr
  c : Addr
  tk : Tok
  tq : Tok
  tm : Tok
structure KCls (w : World) (h : Heap) (C f : Addr) (k : KD) : Prop where
  eC : h.get? C = some (CO k.bT k.N k.tk k.tq qK [.ref C, .type "object"] false [Str.ofString "obj"] false [some (.builtin "object.__new__"), some (.bool false)])
  eN : h.get? k.N = some (OE (esP k.p) 3)
  eM : h.get? (k.p.a 11) = some ⟨.type "member_descriptor", none, .fields #[.str (Str.ofString "obj") k.tm, .ref C, .builtin "proto.slot", .builtin "proto.slot#set", rawInt 0], #[]⟩
  eI : h.get? (k.p.a 3) = some (FnK "__init__" (defAt w 2).1 (defAt w 2).2.1 (defAt w 2).2.2 [] .none k.cdI)
  eL : h.get? (k.p.a 4) = some (FnK "__lt__" (defAt w 3).1 (defAt w 3).2.1 (defAt w 3).2.2 [(Str.ofString "mycmp", k.c)] (.ref k.TL) k.cdL)
  fI : FC (fiveK "__init__") h k.cdI
  fL : FC (fiveK "__lt__") h k.cdL
  cell : h.IsCell k.c (some (.ref f))
theorem KCls.keeps {w : World} {h h' : Heap} {C f : Addr} {k : KD} (x : KCls w h C f k) (hk : Ext h h') : KCls w h' C f k :=
  ⟨hk _ _ x.eC, hk _ _ x.eN, hk _ _ x.eM, hk _ _ x.eI, hk _ _ x.eL, x.fI.keeps hk, x.fL.keeps hk, x.cell.keeps hk⟩
theorem CT.mono {h h' : Heap} {c P : Addr} {ps : Array Value} (x : CT h c P ps) (hc : ∀ o, h.get? c = some o → h'.get? c = some o) (hP : ∀ o, h.get? P = some o → h'.get? P = some o) : CT h' c P ps := by
  obtain ⟨⟨o, vs, file, tf, flags, tg, inF, text, tt, op, ho, hd, h11, h2, h7, h9, h10, hop, hpd, htr, hne⟩, ⟨⟨oc, vc, hoc, hcc, hdc, h11c⟩, htP⟩⟩ := x
  exact ⟨⟨o, vs, file, tf, flags, tg, inF, text, tt, op, hc _ ho, hd, h11, h2, h7, h9, h10, hP _ hop, hpd, htr, hne⟩, ⟨⟨oc, vc, hc _ hoc, hcc, hdc, h11c⟩, hP _ htP⟩⟩
theorem TabK.offD {six : List (Pos × Str)} {h : Heap} {Z : List Addr} (x : TabK six h Z) {b : Addr} {o : Obj} (e : h.get? b = some o) (hn : ∀ vs, o.data ≠ .fields vs) : b ∉ Z := by
  intro hb
  have : ∃ vs, h.get? b = some { cls := .none, data := .fields vs } := by
    obtain ⟨ps, hct, ⟨_, rfl⟩ | ⟨k, Pk, _, hkc, rfl⟩⟩ := x
    · simp at hb; subst hb; exact ⟨ps, hct.table⟩
    · simp at hb
      rcases hb with rfl | rfl
      · exact ⟨ps, hct.table⟩
      · obtain ⟨psk, hpk, _⟩ := hkc.tab; exact ⟨psk, hpk.table⟩
  obtain ⟨vs, e'⟩ := this
  rw [e'] at e; cases e; exact hn vs rfl
theorem FC.neD {q : Str} {h : Heap} {k b : Addr} {o' : Obj} {es : Array DictEntry} {ep : Nat} (x : FC q h k) (e : h.get? b = some o') (d : o'.data = .dict es ep) : k ≠ b := fun y => by
  obtain ⟨⟨c₂, o₂, vs₂, t₂, e₂, g₂, r₂, _⟩, _⟩ := x
  cases e₂
  rw [y, e] at g₂; cases g₂; rw [d] at r₂; cases r₂
theorem FC.mono {q : Str} {h h' : Heap} {k : Addr} (x : FC q h k) (hs : ∀ o, h.get? k = some o → h'.get? k = some o) : FC q h' k := by
  obtain ⟨⟨c₂, o₂, vs₂, t₂, e₂, g₂, r₂⟩, o, b, c⟩ := x
  cases e₂
  exact ⟨⟨_, o₂, vs₂, t₂, rfl, hs _ g₂, r₂⟩, o, hs _ b, c⟩
structure KB (hb : Heap) (Pk N k : Addr) (h : Heap) (es : Array DictEntry) (m : Nat) (ps : Array Value) (L : List (Addr × Obj)) (fcs : List (Str × Addr)) : Prop where
  old : ∀ b o, b ≠ Pk → b ≠ N → hb.get? b = some o → h.get? b = some o
  eN : h.get? N = some (OE es m)
  tP : CT h k Pk ps
  six : AllE h ps
  fn : ∀ q ∈ L, h.get? q.1 = some q.2 ∧ q.1 ≠ N ∧ q.1 ≠ Pk
  fc : ∀ q ∈ fcs, FC q.1 h q.2
theorem codeNe {h : Heap} {b N : Addr} {es : Array DictEntry} {m : Nat} (c : isCode h b) (eN : h.get? N = some (OE es m)) : b ≠ N := fun e => by
  obtain ⟨o, a, b⟩ := c
  rw [e, eN] at a; cases a; simp at b
section
variable {hb h h' : Heap} {Pk N k : Addr} {es es' : Array DictEntry} {m m' : Nat} {ps ps' : Array Value} {L : List (Addr × Obj)} {fcs : List (Str × Addr)}
theorem KB.PN (x : KB hb Pk N k h es m ps L fcs) : Pk ≠ N := fun e => by have a := x.tP.table; rw [e, x.eN] at a; cases a
theorem KB.store (x : KB hb Pk N k h es m ps L fcs) (u : ExtB N h h') (e : h'.get? N = some (OE es' m')) : KB hb Pk N k h' es' m' ps L fcs where
  old := fun b o p q r => u b o q (x.old b o p q r)
  eN := e
  tP := x.tP.mono (fun o => u _ o (codeNe x.tP.code x.eN)) (fun o => u _ o x.PN)
  six := fun y hy => by
    rcases x.six y hy with a | ⟨c, a, b⟩
    · exact .inl a
    · exact .inr ⟨c, a, b.mono fun o => u _ o (codeNe b.2 x.eN)⟩
  fn := fun q hq => ⟨u _ _ (x.fn q hq).2.1 (x.fn q hq).1, (x.fn q hq).2⟩
  fc := fun q hq => (x.fc q hq).mono fun o => u _ o (codeNe (x.fc q hq).2 x.eN)
theorem KB.put (x : KB hb Pk N k h es m ps L fcs) (u : Ext h h') {a : Addr} {o : Obj} (n : h.get? a = none) (e : h'.get? a = some o) : KB hb Pk N k h' es m ps ((a, o) :: L) fcs where
  old := fun b o p q r => u b o (x.old b o p q r)
  eN := u _ _ x.eN
  tP := x.tP.keeps u
  six := fun y hy => (x.six y hy).keeps u
  fn := fun q hq => by
    rcases List.mem_cons.mp hq with rfl | hq
    · exact ⟨e, fun (r : a = N) => (by rw [r, x.eN] at n; cases n), fun (r : a = Pk) => (by rw [r, x.tP.table] at n; cases n)⟩
    · exact ⟨u _ _ (x.fn q hq).1, (x.fn q hq).2⟩
  fc := fun q hq => (x.fc q hq).keeps u
theorem KB.df (x : KB hb Pk N k h es m ps L fcs) {pos : Pos} {q : Str} {G cd : Addr} {o : Obj} (u : oldBut Pk N h h') (n : h.get? G = none) (ct : CT h' k Pk ps')
    (hp : ∀ pos', ((pos.line : Int) == (pos'.line : Int) && (pos.col : Int) == (pos'.col : Int)) = false → codeAmong pos' ps'.toList = codeAmong pos' ps.toList) (en : Entry (FC q) h' pos ps') (f : FC q h' cd) (eG : h'.get? G = some o) (e : h'.get? N = some (OE es' m'))
    (hd : ∀ x ∈ sixK, ((pos.line : Int) == (x.1.line : Int) && (pos.col : Int) == (x.1.col : Int)) = true → x = (pos, q)) : KB hb Pk N k h' es' m' ps' ((G, o) :: L) ((q, cd) :: fcs) where
  old := fun b o p r s => u b o p r (x.old b o p r s)
  eN := e
  tP := ct
  six := AllE.step x.six u x.tP.table x.eN hp en hd
  fn := fun y hy => by
    rcases List.mem_cons.mp hy with rfl | hy
    · exact ⟨eG, fun (r : G = N) => (by rw [r, x.eN] at n; cases n), fun (r : G = Pk) => (by rw [r, x.tP.table] at n; cases n)⟩
    · exact ⟨u _ _ (x.fn y hy).2.2 (x.fn y hy).2.1 (x.fn y hy).1, (x.fn y hy).2⟩
  fc := fun y hy => by
    rcases List.mem_cons.mp hy with rfl | hy
    · exact f
    · exact CodeRec.but (x.fc y hy) u x.tP.table x.eN
end
theorem cutQE {α : Type} {M : Model} {A : Around} {t : Sem α} {Q : α → Shared → Prop} {E : Value → Shared → Prop} {s : Shared} (h : ∀ Q' E', (∀ a s, Q a s → Q' a s) → wpAny M A t Q' E' s) : wpAny M A t Q E s := h Q E fun _ _ x => x

theorem lstK {prog : Program} {w : World} {A : Around} {E : Value → Shared → Prop} {h : Heap} {g : Array GenState} {d : Drawn} {t : Nat} {os : OsState} {env : Env} {x : Str} {k : Nat} {p1 pos : Pos} {Q : Value → Shared → Prop} (hs : starEach [.Constant (.str x) k p1] env = [(false, eval (.Constant (.str x) k p1) env)])
  (hq : ∀ a h', (Ext h h') → h.get? a = none → h'.get? a = some { cls := .type "list", data := .seq #[.str x t] } → Q (.ref a) ⟨h', g, d, t + 1, os⟩) : wpAny (model prog w) A (eval (.List [.Constant (.str x) k p1] pos) env) Q E ⟨h, g, d, t, os⟩ := by
  refine wpAny_List_spliced ?_
  rw [hs]
  exact sp1 (Calls.Constant_str (k := k) (pos := p1) ⟨by simp [sizeLine_eq], hq _ _ (fun _ _ e => Heap.get?_push_of_some _ e) (Heap.get?_none_of_le (Nat.le_refl _)) (Heap.get?_push_size _ rfl)⟩)
set_option maxRecDepth 100000 in
set_option maxHeartbeats 4000000 in
theorem ckb {w : World} {A : Around} {Q : Flow → Shared → Prop} {E : Value → Shared → Prop} {h : Heap} {g : Array GenState} {d : Drawn} {t : Nat} {os : OsState} {L c f : Addr}
  (X : (KF w).In h) {Z : List Addr} (hZ : TabK sixK h Z) (hlim : h.NoLimit) (hroom : A.depth < recursionLimit) (hL : h.Ns L (fun _ => none)) (hc : h.IsCell c (some (.ref f)))
  (hq : ∀ h' tk' C Z' k, KCls w h' C f k → (∀ b o, b ∉ Z → b ≠ L → h.get? b = some o → h'.get? b = some o) → h.get? C = none → TabK sixK h' Z' → (∀ b ∈ Z', b ∈ Z ∨ h.get? b = none) → (∀ b ∈ Z, b ∈ Z') → Q (.ret (.ref C)) ⟨h', g, d, tk', os⟩) :
    wpAny (model PG w) A (execs (bodyCK w) (CE L c)) Q E ⟨h, g, d, t, os⟩ := by
  obtain ⟨o0, t0, e0, l01, l02⟩ : ∃ o0, And4 (notTab o0 = true) (h.get? 0 = some o0) (nsLook (Str.ofString "__build_class__") o0 = pure (some (.builtin "__build_class__"))) (nsLook (Str.ofString "object") o0 = pure (some (.type "object"))) := ⟨_, by kernel_rfl, X 0 _ rfl, by kernel_rfl, by kernel_rfl⟩
  obtain ⟨o3, t3, e3, l31, l32, l33⟩ : ∃ o3, And5 (notTab o3 = true) (h.get? 3 = some o3) (nsLook (Str.ofString "object") o3 = pure none) (nsLook (Str.ofString "__name__") o3 = pure (some (.str (Str.ofString "law_in0041_01") 630))) (nsLook (Str.ofString "__builtins__") o3 = pure (some (.ref 4))) := ⟨_, by kernel_rfl, X 3 _ rfl, by kernel_rfl, by kernel_rfl, by kernel_rfl⟩
  refine eCons ?_
  wtm_at "sc"
  repeat (first | (k_call_by "ft" (l01); wtm_at "sc") | (k_call_by "ft" (l02); wtm_at "sc") | (k_call_by "ft" (l31); wtm_at "sc") | (k_call_by "ft" (l32); wtm_at "sc") | (wp_delta; wtm_at "sc") | (wtm_at "ld"; wtm_at "sc") | (wtm_at "fts"; wtm_at "sc") | (wtm_at "ifa"; wtm_at "sc") | ((with_reducible show wpAny _ _ (ite _ _ _) _ _ _); k_node; wtm_at "sc") | (wtm_at "wb"; wtm_at "sc"))
  refine al (by rfl) ?_
  intro bT h1 k0 nT eT
  replace eT : h1.get? bT = some ⟨.type "tuple", none, .seq #[.type "object"] 0, #[]⟩ := eT
  wtm_at "sc"
  iterate 30 (first | (k_call_by "ft" (l01); wtm_at "sc") | (k_call_by "ft" (l02); wtm_at "sc") | (k_call_by "ft" (l31); wtm_at "sc") | (k_call_by "ft" (l32); wtm_at "sc") | (k_call_by "ft" (f3); wtm_at "sc") | (k_call_by "ft" (g11); wtm_at "sc") | (k_call_by "ft" (g10); wtm_at "sc") | (wp_delta; wtm_at "sc") | (wtm_at "ld"; wtm_at "sc") | (wtm_at "fts"; wtm_at "sc") | (wtm_at "ifa"; wtm_at "sc") | ((with_reducible show wpAny _ _ (ite _ _ _) _ _ _); k_node; wtm_at "sc") | (wtm_at "wb"; wtm_at "sc"))
  refine wpAny_mono prep_x (fun v s' hv => ?_) fun _ _ e => e
  obtain ⟨h2, PS, id, k2, ePS, rfl, rfl, rfl⟩ := hv
  replace k0 : Ext h h2 := fun b o e => k2 b o (k0 b o e)
  replace eT := k2 _ _ eT
  wtm_at "sc"
  repeat (first | (k_call_by "ft" (l01); wtm_at "sc") | (k_call_by "ft" (l02); wtm_at "sc") | (k_call_by "ft" (l31); wtm_at "sc") | (k_call_by "ft" (l32); wtm_at "sc") | (k_call_by "ft" (f3); wtm_at "sc") | (k_call_by "ft" (g11); wtm_at "sc") | (k_call_by "ft" (g10); wtm_at "sc") | (wp_delta; wtm_at "sc") | (wtm_at "ld"; wtm_at "sc") | (wtm_at "fts"; wtm_at "sc") | (wtm_at "ifa"; wtm_at "sc") | ((with_reducible show wpAny _ _ (ite _ _ _) _ _ _); k_node; wtm_at "sc") | (wtm_at "wb"; wtm_at "sc"))
  show wpAny _ _ (call (.ref PS) [.str (Str.ofString "K") (t + 1), .ref bT] []) _ _ _
  refine wpAny_mono (prep_y ePS) (fun v s' hv => ?_) fun _ _ e => e
  obtain ⟨h3, N, k3, eN, nN, rfl, rfl⟩ := hv
  have oN : ∀ b o, h.get? b = some o → b ≠ N := fun b o e => ne_new nN (k0 b o e)
  replace k0 : Ext h h3 := fun b o e => k3 b o (k0 b o e)
  replace eT := k3 _ _ eT
  have hsN : decide ((N == sysModules) = true) = false := by
    have := oN sysModules _ (X 1 _ rfl)
    simp; exact fun e => this e.symm
  wtm_at "sc"
  iterate 13 (first | (k_call_by "ft" (m1); wtm_at "sc") | (k_call_by "ft" (l31); wtm_at "sc") | (k_call_by "ft" (l32); wtm_at "sc") | (wp_delta; wtm_at "sc") | (wtm_at "ld"; wtm_at "sc") | (wtm_at "fts"; wtm_at "sc") | (wtm_at "ifa"; wtm_at "sc") | ((with_reducible show wpAny _ _ (ite _ _ _) _ _ _); k_node; wtm_at "sc") | (wtm_at "wb"; wtm_at "sc"))
  rw [show qualnameIn (CE L c) (Str.ofString "K") (Str.ofString "K") = qK from by kernel_rfl]
  have kPk := k0
  refine classCode_K (six := sixK) (Z := Z) rfl (hZ.keeps k0) (fun ctx Q hq => wpAny_newCodeX hq) ?_
  intro k Pk psk ps h4 tk4 k4 hPk h61 hps hfk hoff hpk hsix h57 hZb
  have oN0 : h.get? N = none := by cases q : h.get? N with | none => rfl | some o => exact absurd rfl (oN N o q)
  replace eN := k4 _ _ (hZ.new oN0) eN
  replace eT := k4 _ _ (hZ.new nT) eT
  have h61P : (61:Addr) ≠ Pk := h61.code.ne hpk.table
  have h61N : (61:Addr) ≠ N := fun q => by obtain ⟨o, x1, x2⟩ := h61.code; rw [q, eN] at x1; cases x1; simp at x2
  have h57N : (57:Addr) ≠ N := fun q => by have := h61.table; rw [q, eN] at this; cases this
  have hkP : k ≠ Pk := hfk.2.ne hpk.table
  replace k0 : ExtZ Z h h4 := fun b o hb e => k4 b o hb (k0 b o e)
  have e3' := k0 3 _ (hZ.off e3 t3) e3
  have e4' := k0 4 _ (hZ.off (X 4 _ rfl) (by rfl)) (X 4 _ rfl)
  wtm_at "sc"
  repeat (first | (k_call_by "ft" (l31); wtm_at "sc") | (k_call_by "ft" (l32); wtm_at "sc") | (k_call_by "ft" (l33); wtm_at "sc") | (wp_delta; wtm_at "sc") | (wtm_at "ld"; wtm_at "sc") | (wtm_at "fts"; wtm_at "sc") | (wtm_at "ifa"; wtm_at "sc") | ((with_reducible show wpAny _ _ (ite _ _ _) _ _ _); k_node; wtm_at "sc") | (wtm_at "wb"; wtm_at "sc"))
  refine al (by rfl) ?_
  intro FA h5 k5 nF eF
  have x0 : KB h5 Pk N k h5 #[] 0 psk [] [] := ⟨fun _ _ _ _ e => e, k5 _ _ eN, hpk.keeps k5, fun x hx => (hsix x hx).keeps k5, fun _ h => (nomatch h), fun _ h => (nomatch h)⟩
  replace k0 : ExtZ Z h h5 := fun b o hb e => k5 b o (k0 b o hb e)
  have kb : ∀ b o, b ≠ Pk → b ≠ N → h4.get? b = some o → h5.get? b = some o := fun b o _ _ e => k5 b o e
  have oPk : ∀ b o, b ∉ Z → h.get? b = some o → b ≠ Pk := fun b o hb e q => by
    rcases hPk with a | a
    · exact hb (q ▸ a)
    · rw [← q, kPk b o e] at a; cases a
  have nF : N ≠ FA ∧ FA ≠ Pk := ⟨ne_new nF eN, fun q => by rw [q, hpk.table] at nF; cases nF⟩
  replace e3' := k5 _ _ e3'
  replace e4' := k5 _ _ e4'
  replace eT := k5 _ _ eT
  have nT : bT ≠ Pk ∧ bT ≠ N := ⟨cls_ne eT x0.tP.table (by simp), cls_ne eT x0.eN (by simp)⟩
  have n3 : (3 : Addr) ≠ Pk ∧ (3 : Addr) ≠ N := ⟨oPk 3 _ (hZ.off e3 t3) e3, oN _ _ e3⟩
  have n4 : (4 : Addr) ≠ Pk ∧ (4 : Addr) ≠ N := ⟨oPk 4 _ (hZ.off (X 4 _ rfl) (by rfl)) (X 4 _ rfl), oN _ _ (X 4 _ rfl)⟩
  have hkN : k ≠ N := codeNe x0.tP.code x0.eN
  clear eN hsix
  have hlim5 : h5.NoLimit := by
    obtain ⟨mc, hns, hnone⟩ := hlim
    exact ⟨mc, hns.at' (fun o e => k0 _ _ (hZ.off (X 2 _ rfl) (by kernel_rfl)) e), hnone⟩
  have eN := x0.eN
  wtm_at "sc"
  iterate 46 (first | (k_call_by "ft" (l31); wtm_at "sc") | (k_call_by "ft" (l32); wtm_at "sc") | (k_call_by "ft" (l33); wtm_at "sc") | (wp_delta; wtm_at "sc") | (wtm_at "ld"; wtm_at "sc") | (wtm_at "fts"; wtm_at "sc") | (wtm_at "ifa"; wtm_at "sc") | ((with_reducible show wpAny _ _ (ite _ _ _) _ _ _); k_node; wtm_at "sc") | (wtm_at "wb"; wtm_at "sc"))
  refine wpAny_enterFrame hlim5 hroom ?_
  wtm_at "sc"
  repeat ((fail_if_success (with_reducible show wpAny _ _ (storeName _ _ _) _ _ _)); first | (k_call_by "ft" (l31); wtm_at "sc") | (k_call_by "ft" (l32); wtm_at "sc") | (k_call_by "ft" (l33); wtm_at "sc") | (wp_delta; wtm_at "sc") | (wtm_at "ld"; wtm_at "sc") | (wtm_at "fts"; wtm_at "sc") | (wtm_at "ifa"; wtm_at "sc") | ((with_reducible show wpAny _ _ (ite _ _ _) _ _ _); k_node; wtm_at "sc") | (wtm_at "wb"; wtm_at "sc"))
  refine storeK (h := h5) (g := g) (d := d) (os := os) (N := N) (FA := FA) (k := k) (c := c) (by rfl) hsN x0.eN (Nat.le_of_ble_eq_true (by kernel_rfl)) ⟨by kernel_rfl, fun _ _ _ => by kernel_rfl⟩ fun h6 x1 y1 z6 u6 e6 => ?_
  have x6 := x0.store u6 e6
  have e3_ := x6.old _ _ n3.1 n3.2 e3'
  clear eN
  wtm_at "sc"
  repeat ((fail_if_success (with_reducible show wpAny _ _ (storeName _ _ _) _ _ _)); first | (k_call_by "ft" (l31); wtm_at "sc") | (k_call_by "ft" (l32); wtm_at "sc") | (k_call_by "ft" (l33); wtm_at "sc") | (wp_delta; wtm_at "sc") | (wtm_at "ld"; wtm_at "sc") | (wtm_at "fts"; wtm_at "sc") | (wtm_at "ifa"; wtm_at "sc") | ((with_reducible show wpAny _ _ (ite _ _ _) _ _ _); k_node; wtm_at "sc") | (wtm_at "wb"; wtm_at "sc"))
  refine storeKn (h := h6) (g := g) (d := d) (os := os) (N := N) (FA := FA) (k := k) (c := c) (by rfl) (by decide +kernel) hsN x6.eN (Nat.le_of_ble_eq_true (by kernel_rfl)) ⟨by kernel_rfl, fun _ _ _ => by kernel_rfl⟩ fun h7 x7 y7 z7 u7 e7 => ?_
  have x7_ := x6.store u7 e7
  clear e3_
  have e3_ := x7_.old _ _ n3.1 n3.2 e3'
  wtm_at "sc"
  repeat ((fail_if_success (with_reducible show wpAny _ _ (storeName _ _ _) _ _ _)); first | (k_call_by "ft" (l31); wtm_at "sc") | (k_call_by "ft" (l32); wtm_at "sc") | (k_call_by "ft" (l33); wtm_at "sc") | (wp_delta; wtm_at "sc") | (wtm_at "ld"; wtm_at "sc") | (wtm_at "fts"; wtm_at "sc") | (wtm_at "ifa"; wtm_at "sc") | ((with_reducible show wpAny _ _ (ite _ _ _) _ _ _); k_node; wtm_at "sc") | (wtm_at "wb"; wtm_at "sc"))
  refine storeKn (h := h7) (g := g) (d := d) (os := os) (N := N) (FA := FA) (k := k) (c := c) (by rfl) (by decide +kernel) hsN x7_.eN (Nat.le_of_ble_eq_true (by kernel_rfl)) ⟨by kernel_rfl, fun _ _ _ => by kernel_rfl⟩ fun h8 x8 y8 z8 u8 e8 => ?_
  have x8_ := x7_.store u8 e8
  clear e3_ x6 x7_ x0 u6 e6 u7 e7 u8 e8
  wtm_at "sc"
  repeat ((fail_if_success (with_reducible show wpAny _ _ (run _) _ _ _)); first | (wp_delta; wtm_at "sc") | (wtm_at "ld"; wtm_at "sc") | (wtm_at "fts"; wtm_at "sc") | (wtm_at "ifa"; wtm_at "sc") | ((with_reducible show wpAny _ _ (ite _ _ _) _ _ _); k_node; wtm_at "sc") | (wtm_at "wb"; wtm_at "sc"))
  refine wpAny_run (codeAny_body (by rfl) (by rfl) ?_)
  show wpAny _ _ (execs _ (BE N FA k c)) _ _ _
  refine cutQE fun Q' E' hQ' => ?_
  refine eCons (eAsg (Calls.Constant_str ?_))
  refine storeKo (h := h8) (g := g) (d := d) (os := os) (N := N) (FA := FA) (k := k) (c := c) (by rfl) hsN x8_.eN (Nat.le_of_ble_eq_true (by kernel_rfl)) (es' := psh (psh (psh #[] (Str.ofString "__module__") x1 y1 _) _ _ _ _) _ _ _ _) ⟨by kernel_rfl, fun _ _ => by with_unfolding_all rfl⟩ fun h9 z9 u9 e9 => ?_
  have x9 := x8_.store u9 e9
  refine eCons (eAsg (lstK (h := h9) (g := g) (d := d) (os := os) (by rfl) fun SL h10 u10 nS eS => ?_))
  refine storeK (h := h10) (g := g) (d := d) (os := os) (N := N) (FA := FA) (k := k) (c := c) (by rfl) hsN (u10 _ _ x9.eN) (Nat.le_of_ble_eq_true (by kernel_rfl)) ⟨by kernel_rfl, fun _ _ _ => by kernel_rfl⟩ fun h11 x11 y11 z11 u11 e11 => ?_
  have xa := (x9.put u10 nS eS).store u11 e11
  clear x9 u9 e9 u10 nS eS u11 e11 x8_
  refine eCons (defK0 (h := h11) (g := g) (d := d) (os := os) (N := N) (FA := FA) (k := k) (c := c) (P := Pk) (by rfl) (by rfl) (by kernel_rfl) ⟨by kernel_rfl, fun _ _ _ => by kernel_rfl⟩ (Nat.le_of_ble_eq_true (by kernel_rfl)) (xa.six (pI, fiveK "__init__") (by simp [sixK])) n3.1.symm n4.1.symm xa.tP xa.PN hsN (xa.old _ _ n3.1 n3.2 e3') l33 l32 (xa.old _ _ n4.1 n4.2 e4') rfl rfl rfl xa.eN fun hFI GI cdI psFI xFI yFI zFI uFI nGI hctI hothI henI hcrI eGI eNI => ?_)
  have bI := xa.df (q := fiveK "__init__") (pos := pI) uFI nGI hctI hothI henI hcrI eGI eNI (by decide +kernel)
  clear uFI nGI hctI hothI henI hcrI eGI eNI xa
  refine eCons (defK1 (h := hFI) (g := g) (d := d) (os := os) (N := N) (FA := FA) (k := k) (c := c) (P := Pk) (by rfl) (by rfl) (by kernel_rfl) ⟨by kernel_rfl, fun _ _ _ => by kernel_rfl⟩ (Nat.le_of_ble_eq_true (by kernel_rfl)) (bI.six (pL, fiveK "__lt__") (by simp [sixK])) n3.1.symm n4.1.symm bI.tP bI.PN hsN (bI.old _ _ n3.1 n3.2 e3') l33 l32 (bI.old _ _ n4.1 n4.2 e4') rfl rfl rfl bI.eN fun hFL GL cdL TL psFL xFL yFL zFL uFL nGL hctL hothL henL hcrL eGL eNL => ?_)
  have bL := bI.df (q := fiveK "__lt__") (pos := pL) uFL nGL hctL hothL henL hcrL eGL eNL (by decide +kernel)
  clear uFL nGL hctL hothL henL hcrL eGL eNL bI
  refine eCons (defK1 (h := hFL) (g := g) (d := d) (os := os) (N := N) (FA := FA) (k := k) (c := c) (P := Pk) (by rfl) (by rfl) (by kernel_rfl) ⟨by kernel_rfl, fun _ _ _ => by kernel_rfl⟩ (Nat.le_of_ble_eq_true (by kernel_rfl)) (bL.six (pG, fiveK "__gt__") (by simp [sixK])) n3.1.symm n4.1.symm bL.tP bL.PN hsN (bL.old _ _ n3.1 n3.2 e3') l33 l32 (bL.old _ _ n4.1 n4.2 e4') rfl rfl rfl bL.eN fun hFG GG cdG TG psFG xFG yFG zFG uFG nGG hctG hothG henG hcrG eGG eNG => ?_)
  have bG := bL.df (q := fiveK "__gt__") (pos := pG) uFG nGG hctG hothG henG hcrG eGG eNG (by decide +kernel)
  clear uFG nGG hctG hothG henG hcrG eGG eNG bL
  refine eCons (defK1 (h := hFG) (g := g) (d := d) (os := os) (N := N) (FA := FA) (k := k) (c := c) (P := Pk) (by rfl) (by rfl) (by kernel_rfl) ⟨by kernel_rfl, fun _ _ _ => by kernel_rfl⟩ (Nat.le_of_ble_eq_true (by kernel_rfl)) (bG.six (pE, fiveK "__eq__") (by simp [sixK])) n3.1.symm n4.1.symm bG.tP bG.PN hsN (bG.old _ _ n3.1 n3.2 e3') l33 l32 (bG.old _ _ n4.1 n4.2 e4') rfl rfl rfl bG.eN fun hFE GE cdE TE psFE xFE yFE zFE uFE nGE hctE hothE henE hcrE eGE eNE => ?_)
  have bE := bG.df (q := fiveK "__eq__") (pos := pE) uFE nGE hctE hothE henE hcrE eGE eNE (by decide +kernel)
  clear uFE nGE hctE hothE henE hcrE eGE eNE bG
  refine eCons (defK1 (h := hFE) (g := g) (d := d) (os := os) (N := N) (FA := FA) (k := k) (c := c) (P := Pk) (by rfl) (by rfl) (by kernel_rfl) ⟨by kernel_rfl, fun _ _ _ => by kernel_rfl⟩ (Nat.le_of_ble_eq_true (by kernel_rfl)) (bE.six (pLE, fiveK "__le__") (by simp [sixK])) n3.1.symm n4.1.symm bE.tP bE.PN hsN (bE.old _ _ n3.1 n3.2 e3') l33 l32 (bE.old _ _ n4.1 n4.2 e4') rfl rfl rfl bE.eN fun hFLE GLE cdLE TLE psFLE xFLE yFLE zFLE uFLE nGLE hctLE hothLE henLE hcrLE eGLE eNLE => ?_)
  have bLE := bE.df (q := fiveK "__le__") (pos := pLE) uFLE nGLE hctLE hothLE henLE hcrLE eGLE eNLE (by decide +kernel)
  clear uFLE nGLE hctLE hothLE henLE hcrLE eGLE eNLE bE
  refine eCons (defK1 (h := hFLE) (g := g) (d := d) (os := os) (N := N) (FA := FA) (k := k) (c := c) (P := Pk) (by rfl) (by rfl) (by kernel_rfl) ⟨by kernel_rfl, fun _ _ _ => by kernel_rfl⟩ (Nat.le_of_ble_eq_true (by kernel_rfl)) (bLE.six (pGE, fiveK "__ge__") (by simp [sixK])) n3.1.symm n4.1.symm bLE.tP bLE.PN hsN (bLE.old _ _ n3.1 n3.2 e3') l33 l32 (bLE.old _ _ n4.1 n4.2 e4') rfl rfl rfl bLE.eN fun hFGE GGE cdGE TGE psFGE xFGE yFGE zFGE uFGE nGGE hctGE hothGE henGE hcrGE eGGE eNGE => ?_)
  have bGE := bLE.df (q := fiveK "__ge__") (pos := pGE) uFGE nGGE hctGE hothGE henGE hcrGE eGGE eNGE (by decide +kernel)
  clear uFGE nGGE hctGE hothGE henGE hcrGE eGGE eNGE bLE
  refine eCons (eAsg (wpAny_Constant_none ?_))
  refine storeK (h := hFGE) (g := g) (d := d) (os := os) (N := N) (FA := FA) (k := k) (c := c) (by rfl) hsN bGE.eN (Nat.le_of_ble_eq_true (by kernel_rfl)) ⟨by kernel_rfl, fun _ _ _ => by kernel_rfl⟩ fun h12 x12 y12 z12 u12 e12 => ?_
  have xb := bGE.store u12 e12
  clear bGE u12 e12
  refine wpAny_execs_nil (hQ' _ _ ?_)
  have eF_ := xb.old _ _ nF.2 (Ne.symm nF.1) eF
  have eT_ := xb.old _ _ nT.1 nT.2 eT
  have eN := xb.eN
  wtm_at "sc"
  repeat ((fail_if_success (with_reducible show wpAny _ _ (alloc _) _ _ _)); first | (wp_delta; wtm_at "sc") | (wtm_at "ld"; wtm_at "sc") | (wtm_at "fts"; wtm_at "sc") | (wtm_at "ifa"; wtm_at "sc") | ((with_reducible show wpAny _ _ (ite _ _ _) _ _ _); k_node; wtm_at "sc") | (wtm_at "wb"; wtm_at "sc"))
  refine al (by rfl) ?_
  intro TS h13 u13 nTS eTS
  have xc := xb.put u13 nTS eTS
  replace eF_ := u13 _ _ eF_
  replace eT_ := u13 _ _ eT_
  replace eN := xc.eN
  wtm_at "sc"
  repeat ((fail_if_success (with_reducible show wpAny _ _ (storeName _ _ _) _ _ _)); first | (k_call_by "ft" (l31); wtm_at "sc") | (k_call_by "ft" (l32); wtm_at "sc") | (k_call_by "ft" (l33); wtm_at "sc") | (wp_delta; wtm_at "sc") | (wtm_at "ld"; wtm_at "sc") | (wtm_at "fts"; wtm_at "sc") | (wtm_at "ifa"; wtm_at "sc") | ((with_reducible show wpAny _ _ (ite _ _ _) _ _ _); k_node; wtm_at "sc") | (wtm_at "wb"; wtm_at "sc"))
  refine storeKn (h := h13) (g := g) (d := d) (os := os) (N := N) (FA := FA) (k := k) (c := c) (by rfl) (by decide +kernel) hsN xc.eN (Nat.le_of_ble_eq_true (by kernel_rfl)) ⟨by kernel_rfl, fun _ _ _ => by kernel_rfl⟩ fun h14 x14 y14 z14 u14 e14 => ?_
  have xd := xc.store u14 e14
  clear xb xc eF_ eT_ eN u13 nTS eTS u14 e14
  have eF := xd.old _ _ nF.2 (Ne.symm nF.1) eF
  have eT := xd.old _ _ nT.1 nT.2 eT
  have eN := xd.eN
  replace k0 : ExtZ Z h h14 := fun b o hb e => xd.old b o (oPk b o hb e) (oN b o e) (k0 b o hb e)
  replace kb : ∀ b o, b ≠ Pk → b ≠ N → h4.get? b = some o → h14.get? b = some o := fun b o hP hN e => xd.old b o hP hN (kb b o hP hN e)
  have eTS' := (xd.fn _ (.head _)).1
  have eGGE := (xd.fn _ (.tail _ (.head _))).1
  have eGLE := (xd.fn _ (.tail _ (.tail _ (.head _)))).1
  have eGE := (xd.fn _ (.tail _ (.tail _ (.tail _ (.head _))))).1
  have eGG := (xd.fn _ (.tail _ (.tail _ (.tail _ (.tail _ (.head _)))))).1
  have eGL := (xd.fn _ (.tail _ (.tail _ (.tail _ (.tail _ (.tail _ (.head _))))))).1
  have eGI := (xd.fn _ (.tail _ (.tail _ (.tail _ (.tail _ (.tail _ (.tail _ (.head _)))))))).1
  have eS := (xd.fn _ (.tail _ (.tail _ (.tail _ (.tail _ (.tail _ (.tail _ (.tail _ (.head _))))))))).1
  have hcrL := xd.fc _ (.tail _ (.tail _ (.tail _ (.tail _ (.head _)))))
  have hcrI := xd.fc _ (.tail _ (.tail _ (.tail _ (.tail _ (.tail _ (.head _))))))
  have hpk := xd.tP
  have hsix := xd.six
  wtm_at "sc"
  repeat ((fail_if_success (with_reducible show wpAny _ _ (call _ _ _) _ _ _)); first | (wp_delta; wtm_at "sc") | (wtm_at "ld"; wtm_at "sc") | (wtm_at "fts"; wtm_at "sc") | (wtm_at "ifa"; wtm_at "sc") | ((with_reducible show wpAny _ _ (ite _ _ _) _ _ _); k_node; wtm_at "sc") | (wtm_at "wb"; wtm_at "sc"))
  obtain ⟨oS, eSt, lS1, lS2⟩ : ∃ oS, And3 (h.get? cStatics = some oS) (notTab oS = true) (nsLook (Str.ofString "thirdparty.any") oS = pure none) := ⟨_, X cStatics _ (by rfl), by kernel_rfl, by kernel_rfl⟩
  have eSt' := k0 _ _ (hZ.off eSt lS1) eSt
  show wpAny _ _ (call (.type "type") [.str (Str.ofString "K") (t + 1), .ref bT, .ref N] []) _ _ _
  have harm : ∀ e ∈ (#[⟨x1, .str (Str.ofString "__module__") y1, .str (Str.ofString "cpy313.functools") z8⟩, ⟨x8, .str (Str.ofString "__firstlineno__") y8, .int 20 z7⟩, ⟨x11, .str (Str.ofString "__slots__") y11, .ref SL⟩, ⟨xFI, .str (Str.ofString "__init__") yFI, .ref GI⟩, ⟨xFL, .str (Str.ofString "__lt__") yFL, .ref GL⟩, ⟨xFG, .str (Str.ofString "__gt__") yFG, .ref GG⟩, ⟨xFE, .str (Str.ofString "__eq__") yFE, .ref GE⟩, ⟨xFLE, .str (Str.ofString "__le__") yFLE, .ref GLE⟩, ⟨xFGE, .str (Str.ofString "__ge__") yFGE, .ref GGE⟩, ⟨x12, .str (Str.ofString "__hash__") y12, .none⟩, ⟨x14, .str (Str.ofString "__static_attributes__") y14, .ref TS⟩] : Array DictEntry), Harm h14 e := fun e he => (fcons (harm_one (by kernel_rfl) (.inr (by kernel_rfl))) <|
    fcons (harm_one (by kernel_rfl) (.inr (by kernel_rfl))) <|
    fcons (harm_one (by kernel_rfl) (.inl ⟨_, _, _, rfl, eS, rfl, sn_list⟩)) <|
    fcons (harm_one (by kernel_rfl) (.inl ⟨_, _, _, rfl, eGI, rfl, sn_fn⟩)) <|
    fcons (harm_one (by kernel_rfl) (.inl ⟨_, _, _, rfl, eGL, rfl, sn_fn⟩)) <|
    fcons (harm_one (by kernel_rfl) (.inl ⟨_, _, _, rfl, eGG, rfl, sn_fn⟩)) <|
    fcons (harm_one (by kernel_rfl) (.inl ⟨_, _, _, rfl, eGE, rfl, sn_fn⟩)) <|
    fcons (harm_one (by kernel_rfl) (.inl ⟨_, _, _, rfl, eGLE, rfl, sn_fn⟩)) <|
    fcons (harm_one (by kernel_rfl) (.inl ⟨_, _, _, rfl, eGGE, rfl, sn_fn⟩)) <|
    fcons (harm_one (by kernel_rfl) (.inr (by kernel_rfl))) <|
    fcons (harm_one (by kernel_rfl) (.inl ⟨_, _, _, rfl, eTS', rfl, sn_tuple⟩)) <| fnil) e (List.mem_toArray.mp he)
  refine tcall (to := _) (tq := z6) (t3 := y11) (k3 := x11) (sq := qK) (sl := SL) (veq := .ref GE) (m2 := 1) { hb := eT, hn := eN, hs := hsN, hsl := eS, hf := by kernel_rfl, ho := by kernel_rfl, hm := by kernel_rfl, hz := Nat.le_of_ble_eq_true (by kernel_rfl), q1 := by kernel_rfl, d1 := by kernel_rfl, q2 := by kernel_rfl, harm := harm, hdel := by kernel_rfl, eo := by kernel_rfl, hz2 := Nat.le_of_ble_eq_true (by kernel_rfl), nobj := by kernel_rfl, ro := by kernel_rfl, po := fun _ _ _ => by kernel_rfl, ndoc := fun _ _ _ => by kernel_rfl, rd := fun _ _ _ => by kernel_rfl, pd := fun _ _ _ _ _ => by kernel_rfl, e2 := eSt', ls := lS2, hsq := rfl, nisub := fun _ _ _ _ _ => by kernel_rfl, neq := fun _ _ _ _ _ => by kernel_rfl, nhash := fun _ _ _ _ _ => by kernel_rfl, n0 := by kernel_rfl, n1 := by kernel_rfl, n2 := by kernel_rfl, n3 := by kernel_rfl, n4 := by kernel_rfl, n5 := by kernel_rfl, n6 := by kernel_rfl, n7 := by kernel_rfl } ?_
  intro h15 C N2 MD xo yo xd yd z15 u15 nC14 nN14 eC eN2 eMD
  wtm_at "sc"
  repeat ((fail_if_success (with_reducible show wpAny _ _ (storeName _ _ _) _ _ _)); first | (wp_delta; wtm_at "sc") | (wtm_at "ld"; wtm_at "sc") | (wtm_at "fts"; wtm_at "sc") | (wtm_at "ifa"; wtm_at "sc") | ((with_reducible show wpAny _ _ (ite _ _ _) _ _ _); k_node; wtm_at "sc") | (wtm_at "wb"; wtm_at "sc"))
  have hLZ : L ∉ Z := by
    obtain ⟨o, es, ep, a, b, _⟩ := hL
    exact hZ.offD a fun vs e => by rw [b] at e; cases e
  have hcZ : c ∉ Z := by
    obtain ⟨o, a, b⟩ := hc
    exact hZ.offD a fun vs e => by rw [b] at e; cases e
  have hL15 : h15.Ns L (fun _ => none) := hL.at' fun o e => u15 _ _ (k0 _ _ hLZ e)
  refine wpAny_storeName_local (env := CE L c) (by rfl) hL15 (fun h16 hL16 u16 => ?_) (by rfl)
  dsimp only
  wtm_at "sc"
  show wpAny _ _ (execs _ (CE L c)) _ _ _
  refine eCons ?_
  wtm_at "sc"
  refine eRet (wpAny_Name (wpAny_loadName_local (env := CE L c) (by rfl) (by rfl) hL16 (by rfl) ?_) (by decide))
  show Q (.ret (.ref C)) _
  have h61' : CT h14 61 57 ps := h61.mono (fun o => kb _ _ h61P h61N) (fun o => kb _ _ (Ne.symm hoff) h57N)
  have nC : h.get? C = none := by
    cases q : h.get? C with
    | none => rfl
    | some o =>
      exfalso
      by_cases hz : C ∈ Z
      · rcases hZb C hz with e | e
        · rw [e, h61'.table] at nC14; cases nC14
        · rw [e, hpk.table] at nC14; cases nC14
      · rw [k0 _ _ hz q] at nC14; cases nC14
  have k16 : ExtB L h15 h16 := fun b o hb e => u16.extBut b o hb e
  obtain ⟨oL, esL, epL, eL, dL, _⟩ := hL15
  have kD : ∀ b o, h15.get? b = some o → (∀ es ep, o.data ≠ .dict es ep) → h16.get? b = some o := fun b o e x => k16 b o (fun q => by
    rw [q, eL] at e; cases e; exact x _ _ dL) e
  have fcUp : ∀ q a, FC q h14 a → FC q h16 a := fun q a x => (x.keeps u15).mono fun o => k16 _ o ((x.keeps u15).neD eL dL)
  have ctUp : ∀ a b ps, CT h14 a b ps → CT h16 a b ps := fun a b ps x => by
    have y := x.keeps u15
    refine y.mono (fun o e => kD _ _ e fun es ep e' => ?_) (fun o e => kD _ _ e fun es ep e' => ?_)
    · obtain ⟨⟨oc, vc, hoc, _, hdc, _⟩, _⟩ := y.tab
      rw [hoc] at e; cases e; rw [hdc] at e'; cases e'
    · rw [y.table] at e; cases e; cases e'
  have nNL : N2 ≠ L := fun e => by
    obtain ⟨o, _, _, a, _⟩ := hL
    rw [e, k0 _ _ hLZ a] at nN14; cases nN14
  have hfk' : FC qK h14 k := hfk.mono fun o => kb _ o hkP hkN
  obtain ⟨tC, eC'⟩ : ∃ tC, h15.get? C = some (CO bT N2 tC z6 qK [.ref C, .type "object"] false [Str.ofString "obj"] false [some (.builtin "object.__new__"), some (.bool false)]) := ⟨_, eC⟩
  obtain ⟨tM, eM'⟩ : ∃ tM, h15.get? MD = some ⟨.type "member_descriptor", none, .fields #[.str (Str.ofString "obj") tM, .ref C, .builtin "proto.slot", .builtin "proto.slot#set", rawInt 0], #[]⟩ := ⟨_, eMD⟩
  refine hq h16 _ C [57, Pk] ⟨⟨fun i => [x1, x8, x11, xFI, xFL, xFG, xFE, xFLE, xFGE, x12, x14, xo, xd].getD i 0, fun i => [y1, y8, y11, yFI, yFL, yFG, yFE, yFLE, yFGE, y12, y14, yo, yd, 0, 0, 0, 0, 0, 0, 0, z8, z7].getD i 0, fun i => [0, 0, SL, GI, GL, GG, GE, GLE, GGE, 0, TS, MD].getD i 0⟩, bT, N2, cdI, cdL, TL, c, tC, z6, tM⟩ ⟨?_, ?_, ?_, ?_, ?_, ?_, ?_, ?_⟩ (fun b o hz hb e => k16 b o hb (u15 _ _ (k0 b o hz e))) nC ⟨ps, ctUp _ _ _ h61', .inr ⟨k, Pk, hps, ⟨fcUp _ _ hfk', hoff, psFGE, ctUp _ _ _ hpk, fun x hx => ?_⟩, rfl⟩⟩ ?_ (fun b hb => by rcases hZb b hb with rfl | rfl <;> simp)
  · exact kD _ _ eC' fun _ _ e => by cases e
  · exact k16 _ _ nNL eN2
  · exact kD _ _ eM' fun _ _ e => by cases e
  · exact kD _ _ (u15 _ _ eGI) fun _ _ e => by cases e
  · exact kD _ _ (u15 _ _ eGL) fun _ _ e => by cases e
  · exact fcUp _ _ hcrI
  · exact fcUp _ _ hcrL
  · obtain ⟨o, a, b⟩ := hc
    exact ⟨o, kD _ _ (u15 _ _ (k0 _ _ hcZ a)) (fun _ _ e => by rw [b] at e; cases e), b⟩
  · rcases hsix x hx with a | ⟨c, a, b⟩
    · exact .inl a
    · exact .inr ⟨c, a, fcUp _ _ b⟩
  · intro b hb
    simp only [List.mem_cons, List.not_mem_nil, or_false] at hb
    rcases hb with rfl | rfl
    · exact .inl h57
    · rcases hPk with a | a
      · exact .inl a
      · refine .inr ?_
        cases q : h.get? b with
        | none => rfl
        | some o => rw [kPk _ _ q] at a; cases a

end
-- N16
section
open PySem PySem.W PyProof.Rows PySem.Calls PySem.Spec PySem.Builtin.Str
theorem cmpkey {w : World} {A : Around} {Q : Value → Shared → Prop} {E : Value → Shared → Prop} {s : Shared} {p : Program} {loose : List Str} {mean : ExcName → Option Value} {mg mb : Str → Option Value} {f : Addr} {Z : List Addr}
  (X : (KF w).In s.heap) (T : Top p loose mean mg mb s.heap) (hZ : TabK sixK s.heap Z) (hroom : A.depth + 1 < recursionLimit)
  (hq : ∀ h' tk' C Z' k, KCls w h' C f k → (ExtZ Z s.heap h') → s.heap.get? C = none → TabK sixK h' Z' → (∀ b ∈ Z', b ∈ Z ∨ s.heap.get? b = none) → (∀ b ∈ Z, b ∈ Z') → Q (.ref C) { s with heap := h', toks := tk' }) :
   wpAny (model PG w) A (call (.ref 62) [.ref f]) Q E s := by
  obtain ⟨h, g, d, t, os⟩ := s
  dsimp only at *
  refine ck X T (by exact ar16 ‹_›) fun A' h₁ L c tk hA k₁ nL nc hLc hns hcell => ?_
  refine ckb (fun a o e => k₁ _ _ (X a o e)) (hZ.keeps k₁) ?_ ?_ hns hcell fun h' tk' C Z' k hK hold hC hZ' hin hsub => ?_
  · obtain ⟨mc, a, b⟩ := T.nolimit
    exact ⟨mc, a.at' fun o e => k₁ _ _ e, b⟩
  · exact ar34 ‹_› ‹_›
  · refine hq h' tk' C Z' k hK (fun b o hz e => hold b o hz (fun q => by rw [q, nL] at e; cases e) (k₁ _ _ e)) (by
      cases q : h.get? C with
      | none => rfl
      | some o => rw [k₁ _ _ q] at hC; cases hC) hZ' (fun b hb => ?_) hsub
    rcases hin b hb with a | a
    · exact .inl a
    · refine .inr ?_
      cases q : h.get? b with
      | none => rfl
      | some o => rw [k₁ _ _ q] at a; cases a

end
-- M1
section
open PySem PySem.W PyProof.Rows PySem.Calls PySem.Spec PySem.Builtin.Str
section
set_option maxRecDepth 100000 in
set_option maxHeartbeats 8000000 in
theorem onew_x {w : World} {prog : Program} {A : Around} {E : Value → Shared → Prop} {h : Heap} {g : Array GenState} {d : Drawn} {t : Nat} {os : OsState} {C : Addr} {j : Int} {tj : Tok} {bT N MD GI : Addr} {tk tq : Tok} {p : KPar}
  (eC : h.get? C = some ⟨.type "type", none, .cls { name := Str.ofString "K", bases := [.type "object"], mro := [.ref C, .type "object"], ns := N, qualname := Str.ofString "cmp_to_key.<locals>.K", hasDict := false, slotNames := [Str.ofString "obj"], hasDel := false }, #[some (.ref bT), none, some (.str (Str.ofString "K") tk), some (.str (Str.ofString "cmp_to_key.<locals>.K") tq), some (.builtin "object.__new__"), some (.bool false)]⟩)
  (eN : h.get? N = some ⟨.type "dict", none, .dict #[⟨p.x 0, .str (Str.ofString "__module__") (p.y 0), .str (Str.ofString "cpy313.functools") (p.y 20)⟩, ⟨p.x 1, .str (Str.ofString "__firstlineno__") (p.y 1), .int 20 (p.y 21)⟩, ⟨p.x 2, .str (Str.ofString "__slots__") (p.y 2), .ref (p.a 2)⟩,
  ⟨p.x 3, .str (Str.ofString "__init__") (p.y 3), .ref GI⟩, ⟨p.x 4, .str (Str.ofString "__lt__") (p.y 4), .ref (p.a 4)⟩, ⟨p.x 5, .str (Str.ofString "__gt__") (p.y 5), .ref (p.a 5)⟩, ⟨p.x 6, .str (Str.ofString "__eq__") (p.y 6), .ref (p.a 6)⟩,
  ⟨p.x 7, .str (Str.ofString "__le__") (p.y 7), .ref (p.a 7)⟩, ⟨p.x 8, .str (Str.ofString "__ge__") (p.y 8), .ref (p.a 8)⟩, ⟨p.x 9, .str (Str.ofString "__hash__") (p.y 9), .none⟩, ⟨p.x 10, .str (Str.ofString "__static_attributes__") (p.y 10), .ref (p.a 10)⟩, ⟨p.x 11, .str (Str.ofString "obj") (p.y 11), .ref MD⟩, ⟨p.x 12, .str (Str.ofString "__doc__") (p.y 12), .none⟩] 3, #[]⟩) :
   wpAny (model prog w) A (call (.builtin "object.__new__") [.ref C, .int j tj]) (fun v s' => Ex3 fun h' I dd => And5 ((Ext h h')) (h'.get? I = some ⟨.ref C, some dd, .plain, #[]⟩) (h.get? I = none) (v = .ref I) (s' = ⟨h', g, d, t, os⟩)) E ⟨h, g, d, t, os⟩ := by
  x_run
set_option maxRecDepth 100000 in
set_option maxHeartbeats 8000000 in
theorem geto_x {w : World} {prog : Program} {A : Around} {E : Value → Shared → Prop} {h : Heap} {g : Array GenState} {d : Drawn} {t : Nat} {os : OsState} {C I dd : Addr} {j : Int} {tj to : Tok} {bT N MD GI : Addr} {tk tq tm : Tok} {p : KPar}
  (eC : h.get? C = some ⟨.type "type", none, .cls { name := Str.ofString "K", bases := [.type "object"], mro := [.ref C, .type "object"], ns := N, qualname := Str.ofString "cmp_to_key.<locals>.K", hasDict := false, slotNames := [Str.ofString "obj"], hasDel := false }, #[some (.ref bT), none, some (.str (Str.ofString "K") tk), some (.str (Str.ofString "cmp_to_key.<locals>.K") tq), some (.builtin "object.__new__"), some (.bool false)]⟩)
  (eN : h.get? N = some ⟨.type "dict", none, .dict #[⟨p.x 0, .str (Str.ofString "__module__") (p.y 0), .str (Str.ofString "cpy313.functools") (p.y 20)⟩, ⟨p.x 1, .str (Str.ofString "__firstlineno__") (p.y 1), .int 20 (p.y 21)⟩, ⟨p.x 2, .str (Str.ofString "__slots__") (p.y 2), .ref (p.a 2)⟩,
  ⟨p.x 3, .str (Str.ofString "__init__") (p.y 3), .ref GI⟩, ⟨p.x 4, .str (Str.ofString "__lt__") (p.y 4), .ref (p.a 4)⟩, ⟨p.x 5, .str (Str.ofString "__gt__") (p.y 5), .ref (p.a 5)⟩, ⟨p.x 6, .str (Str.ofString "__eq__") (p.y 6), .ref (p.a 6)⟩,
  ⟨p.x 7, .str (Str.ofString "__le__") (p.y 7), .ref (p.a 7)⟩, ⟨p.x 8, .str (Str.ofString "__ge__") (p.y 8), .ref (p.a 8)⟩, ⟨p.x 9, .str (Str.ofString "__hash__") (p.y 9), .none⟩, ⟨p.x 10, .str (Str.ofString "__static_attributes__") (p.y 10), .ref (p.a 10)⟩, ⟨p.x 11, .str (Str.ofString "obj") (p.y 11), .ref MD⟩, ⟨p.x 12, .str (Str.ofString "__doc__") (p.y 12), .none⟩] 3, #[]⟩)
  (eM : h.get? MD = some ⟨.type "member_descriptor", none, .fields #[.str (Str.ofString "obj") tm, .ref C, .builtin "proto.slot", .builtin "proto.slot#set", .int 0 0], #[]⟩)
  (eI : h.get? I = some ⟨.ref C, some dd, .plain, #[some (.int j tj)]⟩) :
   wpAny (model prog w) A (runValue (Code.builtin "proto.getattr_hooked" ⟨[.ref I, .str (Str.ofString "obj") to], []⟩)) (fun v s' => v = .int j tj ∧ ∃ h', (Ext h h') ∧ s' = ⟨h', g, d, t, os⟩) E ⟨h, g, d, t, os⟩ := by
  x_run
end
theorem r1 : classOwn (.type "object") (Str.ofString "__setattr__") = pure (some (.builtin "object.__setattr__")) := by kernel_rfl
theorem r2 (I : Addr) : bindSpecial (.builtin "object.__setattr__") (.ref I) = pure (.builtin "object.__setattr__", [.ref I]) := by kernel_rfl
theorem r3 : classOwn (.type "object") (Str.ofString "obj") = pure none := by kernel_rfl
theorem r4 : builtinKind "object.__setattr__" = some .slot := by decide +kernel
theorem r5 : splitId "object.__setattr__" = some ("object", "__setattr__") := by decide +kernel
theorem r6 : typeLookup (.type "member_descriptor") (Str.ofString "__set__") = pure (some (.builtin "member_descriptor.__set__")) := by rw [typeLookup_type, builtinLookup_eq_fast]; kernel_rfl
theorem r7 (I : Addr) : bindSpecial (.builtin "member_descriptor.__set__") (.ref I) = pure (.builtin "member_descriptor.__set__", [.ref I]) := by kernel_rfl
theorem r8 : builtinKind "member_descriptor.__set__" = some .slot := by decide +kernel
theorem r9 : splitId "member_descriptor.__set__" = some ("member_descriptor", "__set__") := by decide +kernel
theorem r10 : isSubtype (.type "member_descriptor") (.type "member_descriptor") = pure true := by kernel_rfl
end
section
theorem subC {M : Model} {A : Around} {E : Value → Shared → Prop} {h : Heap} {g : Array GenState} {d : Drawn} {t : Nat} {os : OsState} {C bT N : Addr} {tk tq : Tok} {sq : Str} {hd del : Bool} {sn : List Str} {more : List (Option Value)} {T : Value} {b : Bool} {Q : Bool → Shared → Prop}
    (eC : h.get? C = some (CO bT N tk tq sq [.ref C, .type "object"] hd sn del more)) (hb : ([Value.ref C, .type "object"] : List Value).contains T = b) (hq : Q b ⟨h, g, d, t, os⟩) : wpAny M A (isSubtype (.ref C) T) Q E ⟨h, g, d, t, os⟩ := by
  unfold isSubtype mroOf
  wtm_at "sc"
  (repeat (k_call_by "nt" [call _ _ _, typeLookup ..]; wtm_at "wone"))
  subst hb
  exact hq
set_option maxRecDepth 100000 in
set_option maxHeartbeats 1000000 in
theorem kset {w : World} {A : Around} {Q : Unit → Shared → Prop} {E : Value → Shared → Prop} {h : Heap} {g : Array GenState} {d : Drawn} {t : Nat} {os : OsState} {C f I dd : Addr} {k : KD} {j : Int} {tj : Tok} 
  (K : KCls w h C f k) (eI : h.get? I = some ⟨.ref C, some dd, .plain, #[]⟩)
  (hq : ∀ h', (ExtB I h h') → h'.get? I = some ⟨.ref C, some dd, .plain, #[some (.int j tj)]⟩ → Q () ⟨h', g, d, t + 1, os⟩) :
   wpAny (model PG w) A (setAttr (.ref I) (Str.ofString "obj") (.int j tj)) Q E ⟨h, g, d, t, os⟩ := by
  have eC := K.eC
  have eN := K.eN
  have eM := K.eM
  unfold setAttr
  wtm_at "sc"
  (repeat (k_call_by "nt" [call _ _ _, typeLookup ..]; wtm_at "wone"))
  refine tl_K (r := none) eC eN (by kernel_rfl) r1 ?_
  wtm_at "sc"
  show wpAny _ _ (holding _ _) _ _ _
  wtm_at "sc"
  k_call_by "ft" ((r2 I))
  show wpAny _ _ (call (.builtin "object.__setattr__") [.ref I, .str (Str.ofString "obj") t, .int j tj]) _ _ _
  refine wpAny_call (codeAny_call_builtin (by decide +kernel) (entryFor_of_fast (b := Builtin.«object.__setattr__») (by kernel_rfl)) ?_)
  simp only [checkBuiltinCall, r4, r5]
  wtm_at "sc"
  (repeat (k_call_by "nt" [call _ _ _, typeLookup ..]; wtm_at "wone"))
  refine subC (b := true) eC (by simp) ?_
  wtm_at "sc"
  ((with_reducible apply wpAny_ite_false); focus (rfl; done); wtm_at "sb")
  wtm_at "sc"
  (repeat (k_call_by "nt" [call _ _ _, typeLookup ..]; wtm_at "wone"))
  refine tl_K (r := some (.ref (k.p.a 11))) eC eN (by kernel_rfl) r3 ?_
  wtm_at "sc"
  (repeat (k_call_by "nt" [call _ _ _, typeLookup ..]; wtm_at "wone"))
  k_call_by "ft" (r6)
  (repeat (k_call_by "nt" [call _ _ _, typeLookup ..]; wtm_at "wone"))
  k_call_by "ft" (r6)
  k_call_by "ft" ((r7 (k.p.a 11)))
  show wpAny _ _ (call (.builtin "member_descriptor.__set__") [.ref (k.p.a 11), .ref I, .int j tj]) _ _ _
  refine wpAny_call (codeAny_call_builtin (by decide +kernel) (entryFor_of_fast (b := Builtin.«member_descriptor.__set__») (by kernel_rfl)) ?_)
  simp only [checkBuiltinCall, r8, r9]
  wtm_at "sc"
  (repeat (k_call_by "nt" [call _ _ _, typeLookup ..]; wtm_at "wone"))
  k_call_by "ft" (r10)
  ((with_reducible apply wpAny_ite_false); focus (rfl; done); wtm_at "sb")
  wtm_at "sc"
  (repeat (k_call_by "nt" [call _ _ _, typeLookup ..]; wtm_at "wone"))
  show wpAny _ _ (isSubtype (.ref C) (.ref C)) _ _ _
  refine subC (b := true) eC (by simp) ?_
  wtm_at "sc"
  ((with_reducible apply wpAny_ite_false); focus (rfl; done); wtm_at "sb")
  wtm_at "sc"
  (repeat (k_call_by "nt" [call _ _ _, typeLookup ..]; wtm_at "wone"))
  refine ⟨Code.quiet_builtin _ (by decide +kernel), codeAny_builtin (entryFor_of_fast (b := Builtin.«proto.slot#set») (by kernel_rfl)) ?_⟩
  (repeat (k_call_by "nt" [call _ _ _, typeLookup ..]; wtm_at "wone"))
  refine upS (sl := []) (sl' := [some (.int j tj)]) eI (by rfl) (by rfl) ?_
  intro h' u e
  wtm_at "sc"
  (repeat (k_call_by "nt" [call _ _ _, typeLookup ..]; wtm_at "wone"))
  exact hq h' u e

end
-- M2
section
open PySem PySem.W PyProof.Rows PySem.Calls PySem.Spec PySem.Builtin.Str
theorem sc2 (w : World) : (defAt w 2).2.2 = { kind := .function, names := [(Str.ofString "self", .local), (Str.ofString "obj", .local)], isGenerator := false, isCoroutine := false } := by kernel_rfl
theorem sc3 (w : World) : (defAt w 3).2.2 = { kind := .function, names := [(Str.ofString "self", .local), (Str.ofString "other", .local), (Str.ofString "mycmp", .free)], isGenerator := false, isCoroutine := false } := by kernel_rfl
noncomputable abbrev kfd (nm : String) (prm : Arguments) (body : List Stmt) (scope : Scope) (clo : List (Str × Addr)) (T : Value) (cd : Addr) : FuncData := { name := Str.ofString nm, qualname := fiveK nm, params := prm, body := .stmts body, scope := scope, globals := 3, closure := clo, closureTuple := T, defaults := .none, kwdefaults := .none, pyModule := .str (Str.ofString "law_in0041_01") 630, code := .ref cd, builtins := builtinsNs }
theorem enterK {w : World} {A : Around} {Q : Value → Shared → Prop} {E : Value → Shared → Prop} {s : Shared} {a cd : Addr} {nm : String} {prm : Arguments} {body : List Stmt} {names : List (Str × NameKind)} {clo : List (Str × Addr)} {T : Value} {binds : List (Str × Value)} {args : List Value}
    (hroom : A.depth < recursionLimit) (eF : s.heap.get? a = some (FnK nm prm body { kind := .function, names := names, isGenerator := false, isCoroutine := false } clo T cd)) (hlim : s.heap.NoLimit) (hcd : FC (fiveK nm) s.heap cd)
    (hb : bindArgs (kfd nm prm body { kind := .function, names := names, isGenerator := false, isCoroutine := false } clo T cd) ⟨args, []⟩ = pure binds) (hcell : ∀ x ∈ names, x.2 ≠ .cell) (hloc : ∀ x ∈ binds, names.lookup x.1 = some .local)
    (h : ∀ h₁ env, env = callEnv (kfd nm prm body { kind := .function, names := names, isGenerator := false, isCoroutine := false } clo T cd) s.heap.objs.size a → h₁.Ns env.locals (fun x => binds.reverse.lookup x) → (Ext s.heap h₁) →
      wpAny (model PG w) (A.deeper env) (execs body env) (fun f s' => Q (match f with | .ret v => v | _ => .none) s')
        (fun e s' => wpAny (model PG w) (A.deeper env) (leaving env e) (fun _ s'' => E e s'') (fun e' s'' => E e' s'') s') { s with heap := h₁, toks := s.toks + binds.length }) :
    wpAny (model PG w) A (call (.ref a) args) Q E s :=
  wpAny_call (codeAny_call_def (o := FnK nm prm body { kind := .function, names := names, isGenerator := false, isCoroutine := false } clo T cd) (fd := kfd nm prm body { kind := .function, names := names, isGenerator := false, isCoroutine := false } clo T cd) hroom eF rfl hlim hcd.1 rfl (BindsTo.of_eq hb) hcell hloc (fun h₁ hns hk => h h₁ _ rfl hns hk) rfl rfl rfl)
theorem ba2 (w : World) (a b : Value) (nm : String) (body : List Stmt) (sc : Scope) (cl : List (Str × Addr)) (ct : Value) (cd : Addr) : bindArgs (kfd nm (defAt w 2).1 body sc cl ct cd) ⟨[a, b], []⟩ = pure [(Str.ofString "self", a), (Str.ofString "obj", b)] := by kernel_rfl
theorem ba3 (w : World) (a b : Value) (nm : String) (body : List Stmt) (sc : Scope) (cl : List (Str × Addr)) (ct : Value) (cd : Addr) : bindArgs (kfd nm (defAt w 3).1 body sc cl ct cd) ⟨[a, b], []⟩ = pure [(Str.ofString "self", a), (Str.ofString "other", b)] := by kernel_rfl
end
section
set_option maxRecDepth 100000 in
set_option maxHeartbeats 1000000 in
theorem kinit {w : World} {A : Around} {Q : Value → Shared → Prop} {E : Value → Shared → Prop} {h : Heap} {g : Array GenState} {d : Drawn} {t : Nat} {os : OsState} {C f I dd : Addr} {k : KD} {j : Int} {tj : Tok} 
  (hroom : A.depth < recursionLimit) (hlim : h.NoLimit) (K : KCls w h C f k) (eI : h.get? I = some ⟨.ref C, some dd, .plain, #[]⟩)
  (hq : ∀ h' tk', (ExtB I h h') → h'.get? I = some ⟨.ref C, some dd, .plain, #[some (.int j tj)]⟩ → Q .none ⟨h', g, d, tk', os⟩) :
   wpAny (model PG w) A (call (.ref (k.p.a 3)) [.ref I, .int j tj]) Q E ⟨h, g, d, t, os⟩ := by
  have eF := K.eI.trans (congrArg (fun sc => some (FnK "__init__" (defAt w 2).1 (defAt w 2).2.1 sc [] .none k.cdI)) (sc2 w))
  refine enterK (binds := [(Str.ofString "self", .ref I), (Str.ofString "obj", .int j tj)]) hroom eF hlim K.fI (ba2 ..) (by decide) (by intro x hx; simp only [List.mem_cons, List.not_mem_nil, or_false] at hx; rcases hx with rfl | rfl <;> rfl) (fun h₁ env he hns hk => ?_)
  subst he
  replace hns : h₁.Ns h.objs.size (fun x => List.lookup x [(Str.ofString "self", Value.ref I), (Str.ofString "obj", Value.int j tj)].reverse) := hns
  replace hk : Ext h h₁ := hk
  refine eCons ?_
  wtm_at "sc"
  (repeat (k_call_by "nt" [call _ _ _, loadName .., setAttr .., getAttr _ _]; wtm_at "wone"))
  refine wpAny_loadName_local (by rfl) (by rfl) hns (by rfl) ?_
  wtm_at "sc"
  (repeat (k_call_by "nt" [call _ _ _, loadName .., setAttr .., getAttr _ _]; wtm_at "wone"))
  refine wpAny_loadName_local (by rfl) (by rfl) hns (by rfl) ?_
  wtm_at "sc"
  (repeat (k_call_by "nt" [call _ _ _, loadName .., setAttr .., getAttr _ _]; wtm_at "wone"))
  refine kset (K.keeps hk) (hk _ _ eI) ?_
  intro h' u e
  wtm_at "sc"
  (repeat (k_call_by "nt" [call _ _ _, loadName .., setAttr .., getAttr _ _]; wtm_at "wone"))
  exact hq h' _ (fun b o hb e => u b o hb (hk b o e)) e

end
-- M3
section
open PySem PySem.W PyProof.Rows PySem.Calls PySem.Spec PySem.Builtin.Str
theorem q1 : typeLookup (.type "type") (Str.ofString "__call__") = pure (some (.builtin "type.__call__")) := by rw [typeLookup_type, builtinLookup_eq_fast]; kernel_rfl
theorem q2 (C : Addr) : bindSpecial (.builtin "type.__call__") (.ref C) = pure (.builtin "type.__call__", [.ref C]) := by kernel_rfl
theorem q3 : classOwn (.type "object") (Str.ofString "__init__") = pure (some (.builtin "object.__init__")) := by kernel_rfl
theorem q4 : plainId "object.__new__" = true := by decide +kernel
theorem q6 : builtinKind "type.__call__" = some .slot := by decide +kernel
theorem q7 : splitId "type.__call__" = some ("type", "__call__") := by decide +kernel
set_option maxRecDepth 100000 in
set_option maxHeartbeats 1000000 in
theorem kmake {w : World} {A : Around} {Q : Value → Shared → Prop} {E : Value → Shared → Prop} {h : Heap} {g : Array GenState} {d : Drawn} {t : Nat} {os : OsState} {C f : Addr} {k : KD} {j : Int} {tj : Tok} 
  (hroom : A.depth + 1 < recursionLimit) (hlim : h.NoLimit) (K : KCls w h C f k)
  (hq : ∀ h' tk' I dd, (Ext h h') → h.get? I = none → h'.get? I = some ⟨.ref C, some dd, .plain, #[some (.int j tj)]⟩ → Q (.ref I) ⟨h', g, d, tk', os⟩) :
   wpAny (model PG w) A (call (.ref C) [.int j tj]) Q E ⟨h, g, d, t, os⟩ := by
  have eC := K.eC
  have eN := K.eN
  refine wpAny_call (codeAny_of_tree ?_)
  show wpAny _ _ (callAny (.ref C) _) _ _ _
  (repeat wtm_at "wone")
  dsimp only [CO]
  k_call_by "ft" (q1)
  k_call_by "ft" ((q2 C))
  (repeat wtm_at "wone")
  refine ⟨by rfl, codeAny_of_tree ?_⟩
  show wpAny _ _ (callAny (.builtin "type.__call__") ⟨[.ref C, .int j tj], []⟩) _ _ _
  (repeat wtm_at "wone")
  simp only [checkBuiltinCall, q6, q7]
  wtm_at "sc"
  (repeat (k_call_by "nt" [call _ _ _, typeLookup ..]; wtm_at "wone"))
  show wpAny _ _ (isSubtype (.type "type") (.type "type")) _ _ _
  k_call_by "ft" (f3)
  ((with_reducible apply wpAny_ite_false); focus (rfl; done); wtm_at "sb")
  wtm_at "sc"
  (repeat (k_call_by "nt" [call _ _ _, typeLookup ..]; wtm_at "wone"))
  refine ⟨Code.quiet_builtin _ (by decide +kernel), codeAny_builtin entry_typeCall ?_⟩
  wtm_at "sc"
  (repeat (k_call_by "nt" [call _ _ _, typeLookup ..]; wtm_at "wone"))
  show wpAny _ _ (call (.builtin "object.__new__") [.ref C, .int j tj]) _ _ _
  refine wpAny_mono (onew_x (p := k.p) (MD := k.p.a 11) (GI := k.p.a 3) eC eN) (fun v s' hv => ?_) fun _ _ e => e
  obtain ⟨h1, I, dd, k1, eI, nI, rfl, rfl⟩ := hv
  replace eC := k1 _ _ eC
  replace eN := k1 _ _ eN
  have eG := k1 _ _ K.eI
  wtm_at "sc"
  (repeat (k_call_by "nt" [call _ _ _, typeLookup ..]; wtm_at "wone"))
  show wpAny _ _ (isSubtype (.ref C) (.ref C)) _ _ _
  refine subC (b := true) eC (by simp) ?_
  wtm_at "sc"
  ((with_reducible apply wpAny_ite_false); focus (rfl; done); wtm_at "sb")
  wtm_at "sc"
  (repeat (k_call_by "nt" [call _ _ _, typeLookup ..]; wtm_at "wone"))
  refine tl_K (r := some (.ref (k.p.a 3))) eC eN (by kernel_rfl) q3 ?_
  wtm_at "sc"
  (repeat (k_call_by "nt" [call _ _ _, typeLookup ..]; wtm_at "wone"))
  refine wpAny_bindSpecial_def eG rfl ?_
  wtm_at "sc"
  show wpAny _ _ (call (.ref (k.p.a 3)) [.ref I, .int j tj]) _ _ _
  have hlim1 : h1.NoLimit := by
    obtain ⟨mc, a, b⟩ := hlim
    exact ⟨mc, a.at' fun o e => k1 _ _ e, b⟩
  refine kinit (by rw [depth_under_make]; exact hroom) hlim1 (K.keeps k1) eI ?_
  intro h2 tk2 k2 eI2
  wtm_at "sc"
  (repeat (k_call_by "nt" [call _ _ _, typeLookup ..]; wtm_at "wone"))
  exact hq h2 tk2 I dd (fun b o e => k2 b o (fun q => by rw [q, nI] at e; cases e) (k1 b o e)) nI eI2

end
-- M4
section
open PySem PySem.W PyProof.Rows PySem.Calls PySem.Spec PySem.Builtin.Str
theorem s1 : classOwn (.type "object") (Str.ofString "__getattribute__") = pure (some (.builtin "object.__getattribute__")) := by kernel_rfl
theorem s2 (I : Addr) : bindSpecial (.builtin "object.__getattribute__") (.ref I) = pure (.builtin "object.__getattribute__", [.ref I]) := by kernel_rfl
set_option maxRecDepth 100000 in
set_option maxHeartbeats 1000000 in
theorem kget {w : World} {A : Around} {Q : Value → Shared → Prop} {E : Value → Shared → Prop} {h : Heap} {g : Array GenState} {d : Drawn} {t : Nat} {os : OsState} {C f I dd : Addr} {k : KD} {j : Int} {tj : Tok} {ex : Bool}
  (K : KCls w h C f k) (eI : h.get? I = some ⟨.ref C, some dd, .plain, #[some (.int j tj)]⟩)
  (hq : ∀ h' t', (Ext h h') → Q (.int j tj) ⟨h', g, d, t', os⟩) :
   wpAny (model PG w) A (getAttr (.ref I) (Str.ofString "obj") ex) Q E ⟨h, g, d, t, os⟩ := by
  have eC := K.eC
  have eN := K.eN
  unfold getAttr
  wtm_at "sc"
  (repeat (k_call_by "nt" [call _ _ _, typeLookup ..]; wtm_at "wone"))
  refine tl_K (r := none) eC eN (by kernel_rfl) s1 ?_
  wtm_at "sc"
  (repeat (k_call_by "nt" [call _ _ _, typeLookup ..]; wtm_at "wone"))
  refine wpAny_mono (geto_x (E := fun _ _ => False) (p := k.p) (MD := k.p.a 11) (GI := k.p.a 3) eC eN K.eM eI) (fun v s' hv => ?_) fun _ _ e => e.elim
  obtain ⟨rfl, h1, k1, rfl⟩ := hv
  wtm_at "sc"
  (repeat (k_call_by "nt" [call _ _ _, typeLookup ..]; wtm_at "wone"))
  exact hq h1 _ k1

end
-- M5
section
open PySem PySem.W PyProof.Rows PySem.Calls PySem.Spec PySem.Builtin.Str
noncomputable def CmpFn (h₀ : Heap) (w : World) (f : Addr) (n : Nat) (B : Nat) (c : Nat → Nat → Int) : Prop :=
  ∀ (A : Around) (E : Value → Shared → Prop) (Q : Value → Shared → Prop) (s : Shared) (i j : Nat) (ti tj : Tok), (Ext h₀ s.heap) → i < n → j < n → A.depth + B < recursionLimit →
    (∀ h' tk' t, (Ext s.heap h') → Q (.int (c i j) t) { s with heap := h', toks := tk' }) → wpAny (model PG w) A (call (.ref f) [.int i ti, .int j tj]) Q E s
end
section
set_option maxRecDepth 100000 in
set_option maxHeartbeats 1000000 in
theorem kltc {w : World} {A : Around} {Q : Value → Shared → Prop} {E : Value → Shared → Prop} {h h₀ : Heap} {g : Array GenState} {d : Drawn} {t : Nat} {os : OsState} {C f I J di dj : Addr} {k : KD} {i j n B : Nat} {ti tj : Tok} {c : Nat → Nat → Int}
  (hroom : A.depth + B + 1 < recursionLimit) (hlim : h.NoLimit) (K : KCls w h C f k) (hf : CmpFn h₀ w f n B c) {fd : FuncData} (eMy : h₀.get? f = some ⟨.type "function", none, .func fd, #[]⟩) (h0 : Ext h₀ h) (hi : i < n) (hj : j < n)
  (eI : h.get? I = some ⟨.ref C, some di, .plain, #[some (.int i ti)]⟩) (eJ : h.get? J = some ⟨.ref C, some dj, .plain, #[some (.int j tj)]⟩)
  (hq : ∀ h' tk', (Ext h h') → Q (.bool (decide (c i j < 0))) ⟨h', g, d, tk', os⟩) :
   wpAny (model PG w) A (call (.ref (k.p.a 4)) [.ref I, .ref J]) Q E ⟨h, g, d, t, os⟩ := by
  have eF := K.eL.trans (congrArg (fun sc => some (FnK "__lt__" (defAt w 3).1 (defAt w 3).2.1 sc [(Str.ofString "mycmp", k.c)] (.ref k.TL) k.cdL)) (sc3 w))
  refine enterK (binds := [(Str.ofString "self", .ref I), (Str.ofString "other", .ref J)]) (by exact lc (lR3 _ _ _) (.h (lS (lS (lA z0 z1))) z2 (.g (lS z0) z2)) lT hroom) eF hlim K.fL (ba3 ..) (by decide) (by intro x hx; simp only [List.mem_cons, List.not_mem_nil, or_false] at hx; rcases hx with rfl | rfl <;> rfl) (fun h₁ env he hns hk => ?_)
  subst he
  replace hns : h₁.Ns h.objs.size (fun x => List.lookup x [(Str.ofString "self", Value.ref I), (Str.ofString "other", .ref J)].reverse) := hns
  replace hk : Ext h h₁ := hk
  refine eCons ?_
  wtm_at "sc"
  (repeat (k_call_by "nt" [call _ _ _, compareOp .., loadName .., setAttr .., getAttr _ _ _]; wtm_at "wtwo"))
  refine wpAny_loadName_free (c := k.c) (by rfl) (by rfl) (by rfl) (K.cell.keeps hk) ?_
  have eMy1 := hk _ _ (h0 _ _ eMy)
  wtm_at "sc"
  (repeat (k_call_by "nt" [call _ _ _, compareOp .., loadName .., setAttr .., getAttr _ _ _]; wtm_at "wtwo"))
  refine wpAny_loadName_local (by rfl) (by rfl) hns (by rfl) ?_
  wtm_at "sc"
  (repeat (k_call_by "nt" [call _ _ _, compareOp .., loadName .., setAttr .., getAttr _ _ _]; wtm_at "wtwo"))
  refine kget (K.keeps hk) (hk _ _ eI) fun h2 t2 k2 => ?_
  replace hns : h2.Ns h.objs.size _ := hns.keeps k2
  replace hk : Ext h h2 := fun b o e => k2 b o (hk b o e)
  wtm_at "sc"
  (repeat (k_call_by "nt" [call _ _ _, compareOp .., loadName .., setAttr .., getAttr _ _ _]; wtm_at "wtwo"))
  refine wpAny_loadName_local (by rfl) (by rfl) hns (by rfl) ?_
  wtm_at "sc"
  (repeat (k_call_by "nt" [call _ _ _, compareOp .., loadName .., setAttr .., getAttr _ _ _]; wtm_at "wtwo"))
  refine kget (K.keeps hk) (hk _ _ eJ) fun h3 t3 k3 => ?_
  replace hk : Ext h h3 := fun b o e => k3 b o (hk b o e)
  wtm_at "sc"
  have eMy3 := hk _ _ (h0 _ _ eMy)
  (repeat (k_call_by "nt" [call _ _ _, compareOp .., loadName .., setAttr .., getAttr _ _ _]; wtm_at "wtwo"))
  show wpAny _ _ (call (.ref f) [.int i ti, .int j tj]) _ _ _
  refine hf _ _ _ _ i j ti tj (fun b o e => hk _ _ (h0 b o e)) hi hj (by rw [depth_deeper]; exact lc (lR3 _ _ _) (.h (lS (lS (lA z0 z1))) z2 (.g (lS (lA (lS z0) z1)) z2)) lT hroom) fun h4 tk4 t4 k4 => ?_
  replace hk : Ext h h4 := fun b o e => k4 b o (hk b o e)
  wtm_at "sc"
  (repeat (k_call_by "nt" [call _ _ _, compareOp .., loadName .., setAttr .., getAttr _ _ _]; wtm_at "wtwo"))
  refine lt_int ?_
  wtm_at "sc"
  (repeat (k_call_by "nt" [call _ _ _, compareOp .., loadName .., setAttr .., getAttr _ _ _]; wtm_at "wtwo"))
  exact hq h4 _ hk
theorem s3 : classOwn (.type "object") (Str.ofString "__lt__") = pure (some (.builtin "object.__lt__")) := by kernel_rfl
set_option maxRecDepth 100000 in
set_option maxHeartbeats 1000000 in
theorem klt {w : World} {A : Around} {Q : Bool → Shared → Prop} {E : Value → Shared → Prop} {h h₀ : Heap} {g : Array GenState} {d : Drawn} {t : Nat} {os : OsState} {C f I J di dj : Addr} {k : KD} {i j n B : Nat} {ti tj : Tok} {c : Nat → Nat → Int}
  (hu : A.units < cLine) (hroom : A.depth + B + 1 < recursionLimit) (hlim : h.NoLimit) (K : KCls w h C f k) (hf : CmpFn h₀ w f n B c) {fd : FuncData} (eMy : h₀.get? f = some ⟨.type "function", none, .func fd, #[]⟩) (h0 : Ext h₀ h) (hi : i < n) (hj : j < n)
  (eI : h.get? I = some ⟨.ref C, some di, .plain, #[some (.int i ti)]⟩) (eJ : h.get? J = some ⟨.ref C, some dj, .plain, #[some (.int j tj)]⟩)
  (hq : ∀ h' tk', (Ext h h') → Q (decide (c i j < 0)) ⟨h', g, d, tk', os⟩) :
   wpAny (model PG w) A (keyLt' oneType' (.ref I) (.ref J)) Q E ⟨h, g, d, t, os⟩ := by
  have eC := K.eC
  have eN := K.eN
  have eG := K.eL
  rw [keyLt'_oneType, oneLt'_eq]
  rw [if_pos rfl]
  refine wpAny_bind (wpAny_cRoomFor hu ?_)
  wtm_at "sc"
  (repeat (k_call_by "nt" [call _ _ _, typeLookup ..]; wtm_at "wone"))
  refine tl_K (r := some (.ref (k.p.a 4))) eC eN (by kernel_rfl) s3 ?_
  wtm_at "sc"
  (repeat (k_call_by "nt" [call _ _ _, typeLookup ..]; wtm_at "wone"))
  have fin : wpAny (model PG w) A (call (.ref (k.p.a 4)) [.ref I, .ref J] >>= fun v => pure (some v)) (fun a s' => wpAny (model PG w) A
          (match a with
          | some Value.notImplemented => do
            let __r ← rule "list.sort.lt-declined"
            (fun __r => do
                  let __do_lift ← richCompare CmpOp.Lt (Value.ref I) (Value.ref J)
                  truthOfDropped __do_lift) __r
          | none => do
            let __r ← rule "list.sort.lt-declined"
            (fun __r => do
                  let __do_lift ← richCompare CmpOp.Lt (Value.ref I) (Value.ref J)
                  truthOfDropped __do_lift) __r
          | some r => truthOfDropped r) Q E s') E ⟨h, g, d, t, os⟩ := by
    wtm_at "sc"
    refine kltc hroom hlim K hf eMy h0 hi hj eI eJ fun h' tk' k' => ?_
    wtm_at "sc"
    refine wpAny_truthy_bool ?_
    exact hq h' tk' k'
  refine wpAny_ite ?_
  split
  · refine wpAny_bind (wpAny_bindSpecial_def eG rfl ?_)
    refine wpAny_pure ?_
    exact fin
  · refine wpAny_tryCatch (wpAny_bind (wpAny_bindSpecial_def eG rfl ?_))
    refine wpAny_pure ?_
    exact fin

end
-- S1
section
open PySem PySem.W PyProof.Rows
noncomputable def okRun {α : Type} (n : Nat) (lt : Nat → Nat → Bool) : KasT α → (α → Prop) → Prop
  | .ret a, P => P a
  | .ask i j k, P => i < n ∧ j < n ∧ okRun n lt (k (lt i j)) P
theorem okRun.bind {α β : Type} {n : Nat} {lt : Nat → Nat → Bool} {f : α → KasT β} {P : β → Prop} : ∀ (t : KasT α), okRun n lt t (fun a => okRun n lt (f a) P) → okRun n lt (t.bind f) P
  | .ret _, h => h
  | .ask _ _ k, h => ⟨h.1, h.2.1, okRun.bind (k _) h.2.2⟩
theorem okRun.mono {α : Type} {n : Nat} {lt : Nat → Nat → Bool} {P P' : α → Prop} (hp : ∀ a, P a → P' a) : ∀ (t : KasT α), okRun n lt t P → okRun n lt t P'
  | .ret a, h => hp a h
  | .ask _ _ k, h => ⟨h.1, h.2.1, okRun.mono hp (k _) h.2.2⟩
theorem okRun.wp {α : Type} {n : Nat} {lt : Nat → Nat → Bool} {cmp : Nat → Nat → (Bool → Shared → Prop) → Shared → Prop} {I : Shared → Prop} {P : α → Prop} {Q : α → Shared → Prop}
    (hc : ∀ i j s (C : Bool → Shared → Prop), i < n → j < n → I s → (∀ s', I s' → C (lt i j) s') → cmp i j C s) (hq : ∀ a s, P a → I s → Q a s) : ∀ (t : KasT α) (s : Shared), okRun n lt t P → I s → t.kasWp cmp Q s
  | .ret a, s, h, hI => hq a s h hI
  | .ask i j k, s, h, hI => hc i j s _ h.1 h.2.1 hI fun s' hI' => okRun.wp hc hq (k _) s' h.2.2 hI'

structure SWO (lt : Nat → Nat → Bool) : Prop where
  asym : ∀ a b, lt a b = true → lt b a = false
  neg : ∀ a b c, lt a b = false → lt b c = false → lt a c = false
noncomputable def Bef (lt : Nat → Nat → Bool) (a b : Nat) : Prop := lt b a = false ∧ (lt a b = false → a < b)
section
variable {lt : Nat → Nat → Bool} {n : Nat}
theorem SWO.irr (S : SWO lt) (a : Nat) : lt a a = false := by
  cases h : lt a a with
  | false => rfl
  | true => rw [S.asym a a h] at h; cases h
theorem Bef.trans (S : SWO lt) {a b c : Nat} (h : Bef lt a b) (g : Bef lt b c) : Bef lt a c := by
  refine ⟨S.neg c b a g.1 h.1, fun e => ?_⟩
  have h1 := h.2 (S.neg a c b e g.1)
  exact Nat.lt_trans h1 (g.2 (S.neg b a c h.1 e))
theorem Bef.of_lt (S : SWO lt) {a b : Nat} (h : lt a b = true) : Bef lt a b := ⟨S.asym _ _ h, fun e => by rw [h] at e; cases e⟩
theorem Bef.of_le {a b : Nat} (h : lt b a = false) (i : a < b) : Bef lt a b := ⟨h, fun _ => i⟩
theorem SWO.lt_of_lt_of_le (S : SWO lt) {a b c : Nat} (h : lt a b = true) (g : lt c b = false) : lt a c = true := by
  cases e : lt a c with
  | true => rfl
  | false => rw [S.neg a c b e g] at h; cases h
theorem SWO.lt_of_le_of_lt (S : SWO lt) {a b c : Nat} (h : lt b a = false) (g : lt b c = true) : lt a c = true := by
  cases e : lt a c with
  | true => rfl
  | false => rw [S.neg b a c h e] at g; cases g

noncomputable abbrev at' (p : Array Nat) (k : Nat) : Nat := p.getD k 0
theorem at_congr {p q : Array Nat} {i j : Nat} (h : p[i]? = q[j]?) : at' p i = at' q j := by
  unfold at'; simp only [Array.getD_eq_getD_getElem?]; rw [h]
theorem at_rev {p : Array Nat} {i j : Nat} (hj : j ≤ p.size) (k : Nat) : at' (kas_rev p i j) k = if i ≤ k ∧ k < j then at' p (i + j - 1 - k) else at' p k := by
  have e := getElem?_mirror_all (xs := p) (i := i) hj k
  by_cases h1 : i ≤ k ∧ k < j
  · rw [if_pos h1] at e ⊢; exact at_congr e
  · rw [if_neg h1] at e ⊢; exact at_congr e
theorem at_bub {p : Array Nat} {src d : Nat} (hs : src < p.size) (hd : d ≤ src) (k : Nat) : at' (bubble p src d) k = if k = src - d then at' p src else if src - d < k ∧ k ≤ src then at' p (k - 1) else at' p k := by
  have e := getElem?_bubble hs d hd k
  by_cases h1 : k = src - d
  · rw [if_pos h1] at e ⊢; exact at_congr e
  · rw [if_neg h1] at e ⊢
    by_cases h2 : src - d < k ∧ k ≤ src
    · rw [if_pos h2] at e ⊢; exact at_congr e
    · rw [if_neg h2] at e ⊢; exact at_congr e

noncomputable def Srt (lt : Nat → Nat → Bool) (p : Array Nat) (m : Nat) : Prop := ∀ i j, i < j → j < m → Bef lt (at' p i) (at' p j)
noncomputable def Dsc (lt : Nat → Nat → Bool) (p : Array Nat) (m : Nat) : Prop := ∀ i j, i < j → j < m → Bef lt (at' p j) (at' p i)
structure Fresh (n : Nat) (p : Array Nat) (m : Nat) : Prop where
  perm : p.Perm (List.range n).toArray
  rest : ∀ i, m ≤ i → i < n → at' p i = i
  low : ∀ i, i < m → at' p i < m
theorem Fresh.size {p : Array Nat} {m : Nat} (F : Fresh n p m) : p.size = n := by rw [F.perm.size_eq]; simp
theorem mir {b m j : Nat} (h1 : b ≤ j) (h2 : j < m) : b ≤ b + m - 1 - j ∧ b + m - 1 - j < m := by exact ⟨lc (lR5 _ _ _ _ _) (.h (lS z0) z1 (.h z2 (lA z3 z0) (.h (lA z4 z1) (lA z2 (lN 1)) (.g z4 z3)))) lT h2 (lU _ _) (lU _ _), lc (lR5 _ _ _ _ _) (.h z0 z1 (.e (lA z2 (lN 1)) (lA z0 z3) (.e (lA z4 z1) z2 (.g (lS z4) z3)))) lT h1 (Nat.sub_add_cancel (lc (lR3 _ _ _) (.h (lS z0) z1 (.g (lN 1) (lA z2 z1))) lT h2)) (Nat.sub_add_cancel (lc (lR4 _ _ _ _) (.h (lS z0) z1 (.h (lA z2 z1) (lA z3 (lN 1)) (.g z0 z3))) lT h2 (lU _ _)))⟩
theorem mirlt {b m i j : Nat} (h : i < j) (h2 : j < m) : b + m - 1 - j < b + m - 1 - i := by exact lc (lR5 _ _ _ _ _) (.h (lS z0) z1 (.h z2 (lA z3 z0) (.e (lA z4 z1) z2 (.g (lS z4) z3)))) lT h (lU _ _) (Nat.sub_add_cancel (lc (lR4 _ _ _ _) (.h (lS z0) z1 (.h (lA z2 z1) (lA z3 (lN 1)) (.g z0 z3))) lT h2 (lU _ _)))
theorem pm1 {m n : Nat} (h : m < n) : m - 1 < n := Nat.lt_of_le_of_lt (Nat.sub_le _ _) h
theorem prd {i j : Nat} (h : i < j) : j - 1 < j := Nat.sub_one_lt_of_lt h
theorem bq_ {b q m : Nat} (h : b + q + 1 = m) : m - (q + 1) = b := by exact Nat.le_antisymm (lc (lR4 _ _ _ _) (.d (lS (lA z0 z1)) z2 (.e (lA z3 (lS z1)) z2 (.g z3 z0))) lT h (Nat.sub_add_cancel (lc (lR3 _ _ _) (.e (lS (lA z0 z1)) z2 (.g (lS z1) z2)) lT h))) (lc (lR4 _ _ _ _) (.e (lS (lA z0 z1)) z2 (.h z2 (lA z3 (lS z1)) (.g z0 z3))) lT h (lU _ _))
theorem md {l r : Nat} (h : l < r) : l ≤ (l + r) / 2 ∧ (l + r) / 2 < r := by lia
theorem mdf {l r f : Nat} (h : l < r) (hf : r - l ≤ f + 1) : (l + r) / 2 - l ≤ f ∧ r - ((l + r) / 2 + 1) ≤ f := by exact ⟨lc (lR7 _ _ _ _ _ _ _) (.h z0 (lS z1) (.h z2 (lA z0 z3) (.e (lA z4 z3) z5 (.e (lA (lV 6) (lS z5)) z2 (.g z4 z1))))) lT hf (lU _ _) (Nat.sub_add_cancel (Nat.ge_of_not_lt fun k => lc (lR3 _ _ _) (.h (lS z0) z1 (.h (lS (lA z0 z1)) (lM 2 (lS z2)) (.h (lS z2) z0 (.h (lS z2) z0 .f)))) lT h (Nat.lt_mul_div_succ _ (Nat.succ_pos _)) k k)) (Nat.sub_add_cancel (Nat.ge_of_not_lt fun k => lc (lR3 _ _ _) (.h (lS z0) z1 (.h (lM 2 z2) (lA z0 z1) (.h (lS z1) (lS z2) (.h (lS z1) (lS z2) .f)))) lT h (Nat.mul_div_le _ _) k k)), lc (lR7 _ _ _ _ _ _ _) (.h z0 (lS z1) (.h z2 (lA z0 z3) (.e (lA z4 z3) z5 (.e (lA (lV 6) (lS z5)) z2 (.g (lV 6) z1))))) lT hf (lU _ _) (Nat.sub_add_cancel (Nat.ge_of_not_lt fun k => lc (lR3 _ _ _) (.h (lS z0) z1 (.h (lS (lA z0 z1)) (lM 2 (lS z2)) (.h (lS z2) z0 (.h (lS z2) z0 .f)))) lT h (Nat.lt_mul_div_succ _ (Nat.succ_pos _)) k k)) (Nat.sub_add_cancel (Nat.ge_of_not_lt fun k => lc (lR3 _ _ _) (.h (lS z0) z1 (.h (lM 2 z2) (lA z0 z1) (.h (lS z1) (lS z2) (.h (lS z1) (lS z2) .f)))) lT h (Nat.mul_div_le _ _) k k))⟩
theorem Fresh.succ {p : Array Nat} {m : Nat} (F : Fresh n p m) (hm : m < n) : Fresh n p (m + 1) where
  perm := F.perm
  rest := fun i h1 h2 => F.rest i (Nat.le_of_succ_le h1) h2
  low := fun i h => by
    by_cases e : i = m
    · subst e; rw [F.rest i (Nat.le_refl _) hm]; exact Nat.lt_succ_self _
    · exact Nat.lt_succ_of_lt (F.low i (Nat.lt_of_le_of_ne (Nat.le_of_lt_succ h) e))
theorem Fresh.inn {p : Array Nat} {m : Nat} (F : Fresh n p m) {i : Nat} (hm : m ≤ n) (hi : i < n) : at' p i < n := by
  by_cases e : i < m
  · exact Nat.lt_of_lt_of_le (F.low i e) hm
  · rw [F.rest i (Nat.le_of_not_lt e) hi]; exact hi
theorem Fresh.rev {p : Array Nat} {m a b : Nat} (F : Fresh n p m) (hb : b ≤ m) (hm : m ≤ n) : Fresh n (kas_rev p a b) m where
  perm := (mirror_perm _ _ _ _).trans F.perm
  rest := fun i h1 h2 => by rw [at_rev (by rw [F.size]; exact Nat.le_trans hb hm), if_neg (fun x => Nat.not_lt.mpr h1 (Nat.lt_of_lt_of_le x.2 hb))]; exact F.rest i h1 h2
  low := fun i h => by
    rw [at_rev (by rw [F.size]; exact Nat.le_trans hb hm)]
    split
    · rename_i x; exact F.low _ (Nat.lt_of_lt_of_le (mir x.1 x.2).2 hb)
    · exact F.low _ h
theorem Srt.of_dsc {p : Array Nat} {m : Nat} (D : Dsc lt p m) (hm : m ≤ p.size) : Srt lt (kas_rev p 0 m) m := fun i j h1 h2 => by
  have hi := Nat.lt_trans h1 h2
  rw [at_rev hm, at_rev hm, if_pos ⟨Nat.zero_le _, hi⟩, if_pos ⟨Nat.zero_le _, h2⟩]
  exact D _ _ (mirlt h1 h2) (mir (Nat.zero_le _) hi).2

theorem asc_ok (S : SWO lt) (p : Array Nat) : ∀ (f m : Nat), 1 ≤ m → m + f ≤ n → Srt lt p m → Fresh n p m →
    okRun n lt (kas_asc p f m) (fun m' => m ≤ m' ∧ m' ≤ m + f ∧ Srt lt p m' ∧ Fresh n p m' ∧ (m' < m + f → lt (at' p m') (at' p (m' - 1)) = true))
  | 0, m, h1, hf, hs, F => ⟨Nat.le_refl _, Nat.le_refl _, hs, F, fun h => absurd h (Nat.lt_irrefl _)⟩
  | f + 1, m, h1, hf, hs, F => by
    have hmn := ar19 hf
    refine ⟨F.inn (Nat.le_of_lt hmn) hmn, F.inn (Nat.le_of_lt hmn) (pm1 hmn), ?_⟩
    cases e : lt (p.getD m 0) (p.getD (m - 1) 0) with
    | true => exact ⟨Nat.le_refl _, Nat.le_add_right _ _, hs, F, fun _ => e⟩
    | false =>
      refine okRun.mono ?_ _ (asc_ok S p f (m + 1) (Nat.le_succ_of_le h1) (ar21 hf) ?_ (F.succ hmn))
      · rintro a ⟨x1, x2, x3, x4, x5⟩
        exact ⟨Nat.le_of_lt x1, ar31 m f ▸ x2, x3, x4, fun q => x5 ((ar31 m f).symm ▸ q)⟩
      · intro i j hij hj
        rcases Nat.lt_or_eq_of_le (Nat.le_of_lt_succ hj) with ej | ej
        · exact hs i j hij ej
        · subst ej
          have hb : Bef lt (at' p (j - 1)) (at' p j) := Bef.of_le e (by rw [F.rest j (Nat.le_refl _) hmn]; exact F.low _ (prd hij))
          rcases Nat.lt_or_eq_of_le (Nat.le_pred_of_lt hij) with ei | ei
          · exact (hs i (j - 1) ei (prd hij)).trans S hb
          · subst ei; exact hb

structure DInv (lt : Nat → Nat → Bool) (p : Array Nat) (m b : Nat) : Prop where
  bm : b < m
  desc : Dsc lt p b
  strict : ∀ i, i < b → lt (at' p b) (at' p i) = true
  eq1 : ∀ i j, b ≤ i → i < j → j < m → lt (at' p i) (at' p j) = false
  eq2 : ∀ i j, b ≤ i → i < j → j < m → lt (at' p j) (at' p i) = false
  up : ∀ i j, b ≤ i → i < j → j < m → at' p i < at' p j
theorem DInv.new {p : Array Nat} {m : Nat} (d : Dsc lt p m) (g : ∀ i, i < m → lt (at' p m) (at' p i) = true) : DInv lt p (m + 1) m :=
  have no : ∀ {i j : Nat} {P : Prop}, m ≤ i → i < j → j < m + 1 → P := fun a b c => absurd (Nat.lt_of_le_of_lt a b) (Nat.not_lt.mpr (Nat.le_of_lt_succ c))
  { bm := Nat.lt_succ_self m, desc := d, strict := g, eq1 := fun _ _ => no, eq2 := fun _ _ => no, up := fun _ _ => no }
theorem DInv.eqv (S : SWO lt) {p : Array Nat} {m b : Nat} (D : DInv lt p m b) {i j : Nat} (h1 : b ≤ i) (h2 : b ≤ j) (h3 : i < m) (h4 : j < m) : lt (at' p i) (at' p j) = false := by
  rcases Nat.lt_trichotomy i j with h | h | h
  · exact D.eq1 i j h1 h h4
  · subst h; exact S.irr _
  · exact D.eq2 j i h2 h h3
theorem DInv.last (S : SWO lt) {p : Array Nat} {m b : Nat} (D : DInv lt p m b) {i : Nat} (h : i < m) : lt (at' p i) (at' p (m - 1)) = false := by
  have bm := Nat.le_pred_of_lt D.bm
  by_cases h1 : b ≤ i
  · exact D.eqv S h1 bm h (prd h)
  · exact S.neg _ _ _ (S.asym _ _ (D.strict i (Nat.lt_of_not_le h1))) (D.eqv S (Nat.le_refl _) bm D.bm (prd h))
theorem DInv.done (S : SWO lt) {p : Array Nat} {m b : Nat} (D : DInv lt p m b) (hm : m ≤ p.size) : Dsc lt (kas_rev p b m) m := by
  intro i j hij hj
  rw [at_rev hm, at_rev hm]
  have hi' := Nat.lt_trans hij hj
  by_cases hi : b ≤ i
  · have hbj := Nat.le_trans hi (Nat.le_of_lt hij)
    rw [if_pos ⟨hbj, hj⟩, if_pos ⟨hi, hi'⟩]
    have mi := mir hi hi'
    have mj := mir hbj hj
    exact ⟨D.eqv S mi.1 mj.1 mi.2 mj.2, fun _ => D.up _ _ mj.1 (mirlt hij hj) mi.2⟩
  · by_cases hj' : b ≤ j
    · rw [if_pos ⟨hj', hj⟩, if_neg (fun x => hi x.1)]
      have mj := mir hj' hj
      exact Bef.of_lt S (S.lt_of_le_of_lt (b := at' p b) (D.eqv S (Nat.le_refl _) mj.1 D.bm mj.2) (D.strict i (Nat.lt_of_not_le hi)))
    · rw [if_neg (fun x => hj' x.1), if_neg (fun x => hi x.1)]
      exact D.desc i j hij (Nat.lt_of_not_le hj')
theorem DInv.done0 (S : SWO lt) {p : Array Nat} {m b : Nat} (D : DInv lt p m b) (hb : b + 1 = m) : Dsc lt p m := by
  intro i j hij hj
  rw [← hb] at hj
  rcases Nat.lt_or_eq_of_le (Nat.le_of_lt_succ hj) with h | h
  · exact D.desc i j hij h
  · subst h; exact Bef.of_lt S (D.strict i hij)

theorem desc_ok (S : SWO lt) : ∀ (f : Nat) (p : Array Nat) (m q b : Nat), b + q + 1 = m → m + f ≤ n → DInv lt p m b → Fresh n p m →
    okRun n lt (kas_desc f p m q) (fun r => m ≤ r.2.1 ∧ r.2.1 ≤ m + f ∧ (∃ b', b' + r.2.2 + 1 = r.2.1 ∧ DInv lt r.1 r.2.1 b') ∧ Fresh n r.1 r.2.1)
  | 0, p, m, q, b, hb, hf, D, F => ⟨Nat.le_refl _, Nat.le_refl _, ⟨b, hb, D⟩, F⟩
  | f + 1, p, m, q, b, hb, hf, D, F => by
    have hmn := ar19 hf
    have hm' := Nat.le_of_lt hmn
    have hmp : m ≤ p.size := by rw [F.size]; exact hm'
    have fin : ∀ p' q' b', b' + q' + 1 = m + 1 → DInv lt p' (m + 1) b' → Fresh n p' (m + 1) → okRun n lt (kas_desc f p' (m + 1) q') (fun r => m ≤ r.2.1 ∧ r.2.1 ≤ m + (f + 1) ∧ (∃ b', b' + r.2.2 + 1 = r.2.1 ∧ DInv lt r.1 r.2.1 b') ∧ Fresh n r.1 r.2.1) := fun p' q' b' hb' D' F' =>
      okRun.mono (fun r x => ⟨Nat.le_of_lt x.1, ar31 m f ▸ x.2.1, x.2.2⟩) _ (desc_ok S f p' (m + 1) q' b' hb' (ar21 hf) D' F')
    refine ⟨F.inn hm' hmn, F.inn hm' (pm1 hmn), ?_⟩
    cases e : lt (p.getD m 0) (p.getD (m - 1) 0) with
    | true =>
      show okRun n lt (if q > 0 then kas_desc f (kas_rev p (m - (q + 1)) m) (m + 1) 0 else kas_desc f p (m + 1) 0) _
      have below : ∀ i, i < m → lt (at' p m) (at' p i) = true := fun i hi => S.lt_of_lt_of_le e (D.last S hi)
      split
      · rw [bq_ hb]
        refine fin _ 0 m rfl (.new (D.done S hmp) fun i hi => ?_) ((F.rev (Nat.le_refl _) hm').succ hmn)
        rw [at_rev hmp, at_rev hmp, if_neg (fun x => Nat.lt_irrefl _ x.2)]
        split
        · rename_i x; exact below _ (mir x.1 x.2).2
        · exact below _ hi
      · rename_i h0
        have : q = 0 := Nat.eq_zero_of_not_pos h0
        subst this
        exact fin p 0 m rfl (.new (D.done0 S hb) below) (F.succ hmn)
    | false =>
      refine ⟨F.inn hm' (pm1 hmn), F.inn hm' hmn, ?_⟩
      cases e' : lt (p.getD (m - 1) 0) (p.getD m 0) with
      | true => exact ⟨Nat.le_refl _, Nat.le_add_right _ _, ⟨b, hb, D⟩, F⟩
      | false =>
        refine fin p (q + 1) b (congrArg (· + 1) hb) { bm := Nat.lt_succ_of_lt D.bm, desc := D.desc, strict := D.strict, eq1 := ?_, eq2 := ?_, up := ?_ } (F.succ hmn)
        all_goals
          intro i j a b' c
          rcases Nat.lt_or_eq_of_le (Nat.le_of_lt_succ c) with ej | ej
          · first
              | exact D.eq1 i j a b' ej
              | exact D.eq2 i j a b' ej
              | exact D.up i j a b' ej
          · subst ej
            have m1 := Nat.le_pred_of_lt D.bm
            have m2 := prd b'
            first
              | (rw [F.rest j (Nat.le_refl _) hmn]; exact F.low _ b')
              | exact S.neg _ _ _ (D.eqv S a m1 b' m2) e'
              | exact S.neg _ _ _ e (D.eqv S m1 a m2 b')

noncomputable def Half (lt : Nat → Nat → Bool) (n nrem : Nat) (r : Nat × Array Nat) : Prop := 1 ≤ r.1 ∧ r.1 ≤ nrem ∧ Srt lt r.2 r.1 ∧ Fresh n r.2 r.1
theorem tail_ok (S : SWO lt) {m nrem : Nat} {p : Array Nat} (h1 : 1 ≤ m) (hm : m ≤ nrem) (hn : nrem ≤ n) (D : Dsc lt p m) (F : Fresh n p m) : okRun n lt (kas_tail3 m nrem p) (Half lt n nrem) := by
  have hmn := Nat.le_trans hm hn
  refine okRun.bind _ (okRun.mono ?_ _ (asc_ok S (kas_rev p 0 m) (nrem - m) m h1 (by rw [Nat.add_sub_cancel' hm]; exact hn) (Srt.of_dsc D (by rw [F.size]; exact hmn)) (F.rev (Nat.le_refl _) hmn)))
  rintro a ⟨x1, x2, x3, x4, _⟩
  rw [Nat.add_sub_cancel' hm] at x2
  exact ⟨Nat.le_trans h1 x1, x2, x3, x4⟩
theorem descPart_ok (S : SWO lt) {m nrem : Nat} {p : Array Nat} (hm : m + 1 ≤ nrem) (hn : nrem ≤ n) (D : DInv lt p (m + 1) m) (F : Fresh n p (m + 1)) : okRun n lt (kas_descPart m nrem p) (Half lt n nrem) := by
  refine okRun.bind _ (okRun.mono ?_ _ (desc_ok S (nrem - (m + 1)) p (m + 1) 0 m rfl (by rw [Nat.add_sub_cancel' hm]; exact hn) D F))
  rintro ⟨p', m', q⟩ ⟨x1, x2, ⟨b', hb', D'⟩, F'⟩
  dsimp only at x1 x2 D' F' hb' ⊢
  rw [Nat.add_sub_cancel' hm] at x2
  have h1 := Nat.le_trans (Nat.succ_le_succ (Nat.zero_le m)) x1
  have hmn := Nat.le_trans x2 hn
  split
  · rw [bq_ hb']
    exact tail_ok S h1 x2 hn (D'.done S (by rw [F'.size]; exact hmn)) (F'.rev (Nat.le_refl _) hmn)
  · rename_i h0
    have : q = 0 := Nat.eq_zero_of_not_pos h0
    subst this
    exact tail_ok S h1 x2 hn (D'.done0 S hb') F'
theorem count_ok (S : SWO lt) {nrem : Nat} {p : Array Nat} (h1 : 1 ≤ nrem) (hn : nrem ≤ n) (F : Fresh n p 1) : okRun n lt (kas_count nrem p) (Half lt n nrem) := by
  have hsz := F.size
  have eN : 1 + (nrem - 1) = nrem := Nat.add_sub_cancel' h1
  refine okRun.bind _ (okRun.mono ?_ _ (asc_ok S p (nrem - 1) 1 (Nat.le_refl _) (by rw [eN]; exact hn) (fun i j a b => absurd (Nat.lt_of_lt_of_le a (Nat.le_of_lt_succ b)) (Nat.not_lt_zero _)) F))
  rintro m ⟨x1, x2, x3, x4, x5⟩
  rw [eN] at x2 x5
  split
  · exact ⟨x1, x2, x3, x4⟩
  · rename_i e
    have hlt' : m < nrem := Nat.lt_of_le_of_ne x2 fun q => e (by rw [q]; exact beq_self_eq_true _)
    have hmn := Nat.lt_of_lt_of_le hlt' hn
    have hm' := Nat.le_of_lt hmn
    have hmp : m ≤ p.size := by rw [hsz]; exact hm'
    have hlt := x5 hlt'
    split
    · rename_i hm1
      refine ⟨x4.inn hm' (Nat.lt_of_le_of_lt (Nat.zero_le _) hmn), x4.inn hm' (pm1 hmn), ?_⟩
      cases e2 : lt (p.getD 0 0) (p.getD (m - 1) 0) with
      | true => exact ⟨x1, x2, x3, x4⟩
      | false =>
        show okRun n lt (kas_descPart m nrem (kas_rev p 0 m)) _
        have m1 := prd hm1
        have all : ∀ i, i < m → lt (at' p i) (at' p (m - 1)) = false := fun i hi => by
          rcases Nat.eq_zero_or_pos i with h | h
          · subst h; exact e2
          · exact S.neg _ _ _ (x3 0 i h hi).1 e2
        have all2 : ∀ i j, i < m → j < m → lt (at' p i) (at' p j) = false := fun i j hi hj => by
          rcases Nat.lt_or_eq_of_le (Nat.le_pred_of_lt hj) with h | h
          · exact S.neg _ _ _ (all i hi) (x3 j (m - 1) h m1).1
          · subst h; exact all i hi
        refine descPart_ok S hlt' hn (.new (fun i j a b => ?_) fun i hi => ?_) ((x4.rev (Nat.le_refl _) hm').succ hmn)
        · have hi := Nat.lt_trans a b
          rw [at_rev hmp, at_rev hmp, if_pos ⟨Nat.zero_le _, b⟩, if_pos ⟨Nat.zero_le _, hi⟩]
          exact x3 _ _ (mirlt a b) (mir (Nat.zero_le _) hi).2
        · rw [at_rev hmp, at_rev hmp, if_neg (fun x => Nat.lt_irrefl _ x.2), if_pos ⟨Nat.zero_le _, hi⟩]
          exact S.lt_of_lt_of_le hlt (all2 _ _ (mir (Nat.zero_le _) hi).2 m1)
    · rename_i hm1
      have : m = 1 := Nat.le_antisymm (Nat.le_of_not_lt hm1) x1
      subst this
      refine descPart_ok S hlt' hn (.new (fun i j a b => absurd (Nat.lt_of_lt_of_le a (Nat.le_of_lt_succ b)) (Nat.not_lt_zero _)) fun i hi => ?_) (x4.succ hmn)
      have : i = 0 := Nat.eq_zero_of_le_zero (Nat.le_of_lt_succ hi)
      subst this; exact hlt

theorem place_ok (S : SWO lt) {p : Array Nat} {k : Nat} (hk : k < n) (F : Fresh n p k) (hs : Srt lt p k) : ∀ (f l r : Nat), r - l ≤ f → l ≤ r → r ≤ k → (∀ i, i < l → lt (at' p k) (at' p i) = false) → (∀ i, r ≤ i → i < k → lt (at' p k) (at' p i) = true) →
    okRun n lt (kas_place p k f l r) (fun l => l ≤ k ∧ (∀ i, i < l → lt (at' p k) (at' p i) = false) ∧ ∀ i, l ≤ i → i < k → lt (at' p k) (at' p i) = true)
  | 0, l, r, hf, hlr, hr, h1, h2 => by
    have : l = r := Nat.le_antisymm hlr (Nat.le_of_sub_eq_zero (Nat.le_zero.mp hf))
    subst this
    exact ⟨hr, h1, h2⟩
  | f + 1, l, r, hf, hlr, hr, h1, h2 => by
    unfold kas_place
    split
    · rename_i h
      have : l = r := Nat.le_antisymm hlr h
      subst this
      exact ⟨hr, h1, h2⟩
    · rename_i h
      have h' : l < r := Nat.lt_of_not_le h
      have d1 := md h'
      have e1 := mdf h' hf
      have d3 := Nat.lt_of_lt_of_le d1.2 hr
      refine ⟨F.inn (Nat.le_of_lt hk) hk, F.inn (Nat.le_of_lt hk) (Nat.lt_trans d3 hk), ?_⟩
      cases e : lt (p.getD k 0) (p.getD ((l + r) / 2) 0) with
      | true =>
        refine place_ok S hk F hs f l ((l + r) / 2) e1.1 d1.1 (Nat.le_of_lt d3) h1 fun i a b => ?_
        rcases Nat.lt_or_eq_of_le a with q | q
        · exact S.lt_of_lt_of_le e (hs _ _ q b).1
        · rw [← q]; exact e
      | false =>
        refine place_ok S hk F hs f ((l + r) / 2 + 1) r e1.2 d1.2 hr (fun i a => ?_) h2
        rcases Nat.lt_or_eq_of_le (Nat.le_of_lt_succ a) with q | q
        · exact S.neg _ _ _ e (hs i _ q d3).1
        · rw [q]; exact e
theorem bin_ok (S : SWO lt) : ∀ (f : Nat) (p : Array Nat) (k : Nat), k + f = n → Srt lt p k → Fresh n p k → okRun n lt (kas_bin f p k) (fun p' => Srt lt p' n ∧ Fresh n p' n)
  | 0, p, k, hk, hs, F => by
    have : k = n := hk
    subst this
    exact ⟨hs, F⟩
  | f + 1, p, k, hk, hs, F => by
    have hkn := ar18 hk
    have hkp : k < p.size := by rw [F.size]; exact hkn
    refine okRun.bind _ (okRun.mono ?_ _ (place_ok S hkn F hs k 0 k (Nat.sub_le _ _) (Nat.zero_le _) (Nat.le_refl _) (fun i a => absurd a (Nat.not_lt_zero _)) (fun i a b => absurd (Nat.lt_of_le_of_lt a b) (Nat.lt_irrefl _))))
    rintro l ⟨hl, h1, h2⟩
    have hat : ∀ j, at' (bubble p k (k - l)) j = if j = l then at' p k else if l < j ∧ j ≤ k then at' p (j - 1) else at' p j := fun j => by
      rw [at_bub hkp (Nat.sub_le _ _), Nat.sub_sub_self hl]
    have kk := F.rest k (Nat.le_refl _) hkn
    refine bin_ok S f _ (k + 1) (ar22 hk) ?_ ⟨(bubble_perm _ _ _).trans F.perm, fun i a b => ?_, fun i a => ?_⟩
    · have lo : ∀ i, i < l → Bef lt (at' p i) (at' p k) := fun i hi => Bef.of_le (h1 i hi) (by rw [kk]; exact F.low i (Nat.lt_of_lt_of_le hi hl))
      have hi' : ∀ i, l ≤ i → i < k → Bef lt (at' p k) (at' p i) := fun i a b => Bef.of_lt S (h2 i a b)
      intro i j hij hj
      have hjk := Nat.le_of_lt_succ hj
      rw [hat, hat]
      by_cases a1 : i = l
      · have hlj : l < j := a1 ▸ hij
        rw [if_pos a1, if_neg (Nat.ne_of_gt hlj), if_pos ⟨hlj, hjk⟩]
        exact hi' _ (Nat.le_pred_of_lt hlj) (Nat.lt_of_lt_of_le (prd hlj) hjk)
      · rw [if_neg a1]
        by_cases a2 : j = l
        · have hil : i < l := a2 ▸ hij
          rw [if_neg (fun x => Nat.lt_asymm hil x.1), if_pos a2]
          exact lo _ hil
        · rw [if_neg a2]
          by_cases a3 : l < i
          · have hlj := Nat.lt_trans a3 hij
            rw [if_pos ⟨a3, Nat.le_trans (Nat.le_of_lt hij) hjk⟩, if_pos ⟨hlj, hjk⟩]
            exact hs _ _ (Nat.sub_lt_sub_right (Nat.succ_le_of_lt (Nat.lt_of_le_of_lt (Nat.zero_le _) a3)) hij) (Nat.lt_of_lt_of_le (prd hlj) hjk)
          · have hil := Nat.lt_of_le_of_ne (Nat.le_of_not_lt a3) a1
            rw [if_neg (fun x => a3 x.1)]
            by_cases a4 : l < j
            · rw [if_pos ⟨a4, hjk⟩]
              exact hs _ _ (Nat.lt_of_lt_of_le hil (Nat.le_pred_of_lt a4)) (Nat.lt_of_lt_of_le (prd a4) hjk)
            · rw [if_neg (fun x => a4 x.1)]
              exact hs _ _ hij (Nat.lt_of_lt_of_le (Nat.lt_of_le_of_ne (Nat.le_of_not_lt a4) a2) hl)
    · rw [hat, if_neg (Nat.ne_of_gt (Nat.lt_of_le_of_lt hl a)), if_neg (fun x => Nat.not_lt.mpr x.2 a)]
      exact F.rest i (Nat.le_of_lt a) b
    · rw [hat]
      by_cases c1 : i = l
      · rw [if_pos c1, kk]; exact Nat.lt_succ_self k
      · rw [if_neg c1]
        by_cases c2 : l < i ∧ i ≤ k
        · rw [if_pos c2]; exact Nat.lt_succ_of_lt (F.low (i - 1) (Nat.lt_of_lt_of_le (prd c2.1) c2.2))
        · rw [if_neg c2]
          rcases Nat.lt_or_eq_of_le (Nat.le_of_lt_succ a) with h | h
          · exact Nat.lt_succ_of_lt (F.low i h)
          · exact absurd ⟨Nat.lt_of_le_of_ne (h ▸ hl) (Ne.symm c1), Nat.le_of_eq h⟩ c2
theorem sort_ok (S : SWO lt) (h2 : 1 ≤ n) : okRun n lt (kas_sort n) (fun p => Srt lt p n ∧ Fresh n p n) := by
  have F0 : Fresh n (List.toArray (List.range n)) 1 := by
    refine ⟨Array.Perm.refl _, fun i _ b => ?_, fun i a => ?_⟩
    · simp [at', b]
    · have : i = 0 := Nat.eq_zero_of_le_zero (Nat.le_of_lt_succ a)
      subst this
      simp only [at', Array.getD_eq_getD_getElem?]
      cases n <;> simp
  refine okRun.bind _ (okRun.mono ?_ _ (count_ok S h2 (Nat.le_refl _) F0))
  rintro ⟨m, p⟩ ⟨x1, x2, x3, x4⟩
  dsimp only at x1 x2 x3 x4 ⊢
  rw [Nat.max_eq_left x1]
  split
  · exact bin_ok S (n - m) p m (Nat.add_sub_cancel' x2) x3 x4
  · rename_i h
    have : m = n := Nat.le_antisymm x2 (Nat.le_of_not_lt h)
    subst this
    exact ⟨x3, x4⟩
theorem sort_list (S : SWO lt) (h2 : 1 ≤ n) : okRun n lt (kas_sort n) (fun p => p.toList.Perm (List.range n) ∧ p.toList.Pairwise (Bef lt)) := by
  refine okRun.mono ?_ _ (sort_ok S h2)
  rintro p ⟨hs, F⟩
  refine ⟨?_, ?_⟩
  · have := Array.perm_iff_toList_perm.mp F.perm
    simpa using this
  · rw [List.pairwise_iff_getElem]
    intro i j hi hj hij
    have hi' : i < p.size := by simpa using hi
    have hj' : j < p.size := by simpa using hj
    have := hs i j hij (by rw [← F.size]; exact hj')
    simpa [at', Array.getD, hi', hj'] using this
theorem Bef.unique (_S : SWO lt) : ∀ {l l' : List Nat}, l.Perm l' → l.Pairwise (Bef lt) → l'.Pairwise (Bef lt) → l = l'
  | [], l', h, _, _ => by rw [List.nil_perm.mp h]
  | a :: l, [], h, _, _ => by cases List.perm_nil.mp h
  | a :: l, b :: l', h, h1, h2 => by
    have e : a = b := by
      rcases Nat.lt_trichotomy a b with q | q | q
      all_goals first | exact q | skip
      all_goals
        exfalso
        have ha : a ∈ b :: l' := h.mem_iff.mp (.head _)
        have hb : b ∈ a :: l := h.mem_iff.mpr (.head _)
        rcases List.mem_cons.mp ha with rfl | ha
        · exact Nat.lt_irrefl _ q
        · rcases List.mem_cons.mp hb with rfl | hb
          · exact Nat.lt_irrefl _ q
          · have x := (List.pairwise_cons.mp h2).1 a ha
            have y := (List.pairwise_cons.mp h1).1 b hb
            exact Nat.lt_asymm (x.2 y.1) (y.2 x.1)
    subst e
    rw [Bef.unique _S ((List.perm_cons a).mp h) (List.pairwise_cons.mp h1).2 (List.pairwise_cons.mp h2).2]
end

end
-- M6
section
open PySem PySem.W PyProof.Rows PySem.Calls PySem.Spec PySem.Builtin.Str
section
variable {prog : Program} {w : World} {A : Around} {E : Value → Shared → Prop} {s : Shared}
theorem collect_range (hh : A.handled = none) {r : Addr} {n : Nat} {t u v : Tok} {Q : List Value → Shared → Prop} (hr : IsRange s.heap r 0 n 1 t u v) (hsmall : Builtin.Range.small 0 n 1 = true) (hlen : n ≤ 2 ^ 24) (hsz : Builtin.Range.rangeSize 0 n 1 = n)
    (hq : ∀ h' tk (vs : List Value), (Ext s.heap h') → vs.length = n → (∀ (i : Nat) v, vs[i]? = some v → ∃ t, v = Value.int i t) → Q vs { s with heap := h', toks := tk }) :
    wpAny (model prog w) A (collect (.ref r)) Q E s := by
  unfold collect
  refine wpAny_bind (wpAny_runValue (codeAny_builtin F.entry_proto_collect ?_))
  rw [Around.under_plainId F.plain_proto_collect _]
  show wpAny _ A.in1 (newList [] >>= fun l => again (.builtin "list.__iadd__" ⟨[l, .ref r], []⟩)) _ _ s
  refine wpAny_bind (wpAny_newObj_type ?_)
  refine wpAny_pure ⟨plainId_quiet F.plain_list_iadd _, codeAny_builtin F.entry_list_iadd ?_⟩
  rw [Around.under_plainId F.plain_list_iadd _]
  have hS₁ : (s.heap.push { cls := .type "list", data := .seq ([] : List Value).toArray }).get? s.heap.objs.size = some { cls := .type "list", data := .seq ([] : List Value).toArray } := Heap.get?_push_size _ rfl
  show wpAny _ A.in1 (Builtin.List.listExtendWith (.ref s.heap.objs.size) (.ref r) (.ref s.heap.objs.size)) _ _ _
  refine wpAny_extend_range (R := fun r s' => match r with
    | .ok (.ret v) => wpAny (model prog w) A (match v with
      | .ref a => do
        match (← load a).data with
        | .seq xs _ => pure xs.toList
        | _ => unsupported "internal:collect"
      | _ => unsupported "internal:collect") Q E s'
    | .ok _ => False
    | .error e => E e s') (s := { s with heap := s.heap.push { cls := .type "list", data := .seq ([] : List Value).toArray } }) hh (Heap.get?_push_of_some _ hr) hsmall hsz hlen s.heap.objs.size (.ref s.heap.objs.size) 0 hS₁ fun h' tk acc' c' hk hS' hacc => ?_
  show wpAny _ A (load s.heap.objs.size >>= _) _ _ _
  refine wpAny_bind (wpAny_load hS' (wpAny_pure (hq h' tk acc'.toList (fun b o e => hk b o (Nat.ne_of_lt (Heap.lt_size e)) (Heap.get?_push_of_some _ e)) ?_ ?_)))
  · rw [Array.length_toList]; exact hacc.1
  · intro i v hv
    obtain ⟨t, e⟩ := hacc.2 i v (by simpa using hv)
    exact ⟨t, by simpa using e⟩
end

noncomputable def KeysTo (h : Heap) (C : Addr) (kA : Array Value) (i : Nat) : Prop := kA.size = i ∧ ∀ j, j < i → Ex3 fun I d t => kA[j]? = some (.ref I) ∧ h.get? I = some ⟨.ref C, some d, .plain, #[some (.int j t)]⟩
theorem KeysTo.keeps {h h' : Heap} {C : Addr} {kA : Array Value} {i : Nat} (x : KeysTo h C kA i) (hk : ∀ b o, (∀ c xs n, o ≠ seqObj c xs n) → h.get? b = some o → h'.get? b = some o) : KeysTo h' C kA i :=
  ⟨x.1, fun j hj => let ⟨I, d, t, a, b⟩ := x.2 j hj; ⟨I, d, t, a, hk _ _ (fun _ _ _ e => by cases e) b⟩⟩

section
variable {w : World} {A : Around} {s : Shared} {h₀ : Heap} {C f : Addr} {k : KD} {n B : Nat} {c : Nat → Nat → Int} {fd : FuncData}
noncomputable abbrev ltOf (c : Nat → Nat → Int) (i j : Nat) : Bool := decide (c i j < 0)
theorem Looks_ref {M : Model} {h : Heap} {I C d : Addr} {sl : Array (Option Value)} (e : h.get? I = some ⟨.ref C, some d, .plain, sl⟩) : Looks M h (typeOf (.ref I)) (.ref C) := by
  intro A Q E s hs hq
  exact wpAny_typeOf_ref (hs _ _ e) hq
theorem KeysTo.upd {h : Heap} {C a : Addr} {kA : Array Value} {i : Nat} {g : Array Value → Array Value} {xs : Array Value} {e : Nat} (x : KeysTo h C kA i) (ha : h.get? a = some (seqObj "list" xs e)) : KeysTo (h.update a (Obj.mapSeq g)) C kA i :=
  ⟨x.1, fun j hj => let ⟨I, d, t, p, q⟩ := x.2 j hj; ⟨I, d, t, p, ((Heap.SameBut.update h a (Obj.mapSeq g)).2 I (fun z => by rw [z, ha] at q; cases q)).trans q⟩⟩
theorem KeysTo.mono {h h' : Heap} {C : Addr} {kA : Array Value} {i : Nat} (x : KeysTo h C kA i) (hk : Ext h h') : KeysTo h' C kA i :=
  ⟨x.1, fun j hj => let ⟨I, d, t, a, b⟩ := x.2 j hj; ⟨I, d, t, a, hk _ _ b⟩⟩
theorem upd_keep {h₀ h : Heap} {a : Addr} {g : Array Value → Array Value} (h0 : Ext h₀ h) (ha : h₀.get? a = none) : ∀ b o, h₀.get? b = some o → (h.update a (Obj.mapSeq g)).get? b = some o :=
  fun b o e => ((Heap.SameBut.update h a (Obj.mapSeq g)).2 b (fun z => by rw [z, ha] at e; cases e)).trans (h0 b o e)
theorem NoLimit.mono {h h' : Heap} (x : h.NoLimit) (hk : Ext h h') : h'.NoLimit := by
  obtain ⟨mc, a, b⟩ := x
  exact ⟨mc, a.at' fun o e => hk _ _ e, b⟩

set_option maxHeartbeats 1000000 in
theorem ktail {a kS : Addr} {P : PySem.Fin → Shared → Prop} {E : Value → Shared → Prop} {st : SortSt} {keys : Array Value} {e e1 : Nat} (h0 : Ext h₀ s.heap) (ha0 : h₀.get? a = none) (hk0 : h₀.get? kS = none) (hka : kS ≠ a)
    (nk : s.heap.get? kS = some (seqObj "list" keys e)) (na : s.heap.get? a = some (seqObj "list" #[] e1)) (hks : keys.size < 64) (hz : (arrOf st).size < 64) (hf : failedOf st = none)
    (hq : ∀ h' tk c, (Ext h₀ h') → h'.get? a = some (seqObj "list" ((arrOf st).map (·.2)) c) → P (.done (.ret .none)) { s with heap := h', toks := tk }) :
    wpAny (model PG w) A (ksk_tail a false e1 (.ref kS) st) P E s := by
  have na1 : (s.heap.update kS (Obj.mapSeq fun _ => (#[] : Array Value))).get? a = some (seqObj "list" #[] e1) := ((Heap.SameBut.update s.heap kS (Obj.mapSeq fun _ => (#[] : Array Value))).2 a hka.symm).trans na
  obtain ⟨c2, hc2⟩ : ∃ c2, ((s.heap.update kS (Obj.mapSeq fun _ => (#[] : Array Value))).update a (Obj.mapSeq fun _ => (arrOf st).map (·.2))).get? a = some (seqObj "list" ((arrOf st).map (·.2)) c2) := ⟨_, get?_update_seq na1 fun _ => (arrOf st).map (·.2)⟩
  unfold ksk_tail
  dsimp only
  refine wpAny_bind (listUpdate_at nk rfl ?_ (by rw [sizeLine_eq]; exact ar3 ‹_› (by decide)) (Nat.zero_le _))
  refine wpAny_bind (wpAny_letGo ?_)
  refine wpAny_bind (seqEpoch_at na1 rfl ?_)
  refine wpAny_bind (listUpdate_at na1 rfl ?_ (Nat.zero_le _) (by show ((arrOf st).map (·.2)).size ≤ _; rw [Array.size_map, sizeLine_eq]; exact ar3 ‹_› (by decide)))
  rw [hf]
  simp only [bne_self_eq_false, Bool.false_eq_true, if_false]
  exact wpAny_pure (hq _ _ c2 (upd_keep (upd_keep h0 hk0) ha0) hc2)

set_option maxHeartbeats 2000000 in
theorem sort_key {a : Addr} {vs : List Value} {n0 : Nat} {P : PySem.Fin → Shared → Prop} {E : Value → Shared → Prop} (hu : A.units < cLine) (hroom : A.depth + B + 1 < recursionLimit) (hlim : h₀.NoLimit) (K : KCls w h₀ C f k) (hf : CmpFn h₀ w f n B c) (eMy : h₀.get? f = some ⟨.type "function", none, .func fd, #[]⟩)
    (hS : SWO (ltOf c)) (h0 : Ext h₀ s.heap) (ha0 : h₀.get? a = none) (ho : s.heap.get? a = some (seqObj "list" vs.toArray n0)) (hn : vs.length = n) (h64 : n < 64) (hvs : ∀ (i : Nat) v, vs[i]? = some v → ∃ t, v = Value.int i t)
    (hq : ∀ h' tk (p : List Nat) cc, (Ext h₀ h') → h'.get? a = some (seqObj "list" (p.map fun i => vs.getD i .none).toArray cc) → p.Perm (List.range n) → p.Pairwise (Bef (ltOf c)) → P (.done (.ret .none)) { s with heap := h', toks := tk }) :
    wpAny (model PG w) A (Builtin.«list.sort» ⟨[.ref a], [(Str.ofString "key", .ref C)]⟩) P E s := by
  rw [ksk_t1]
  have ha : a < s.heap.objs.size := Heap.lt_size ho
  obtain ⟨e1, ho1⟩ : ∃ e1, (s.heap.update a (Obj.mapSeq fun _ => (#[] : Array Value))).get? a = some (seqObj "list" #[] e1) := ⟨_, get?_update_seq ho fun _ => #[]⟩
  have hkS : ((s.heap.update a (Obj.mapSeq fun _ => (#[] : Array Value))).push (seqObj "tuple" vs.toArray 0)).objs.size = s.heap.objs.size + 1 := by rw [size_push', Heap.size_update]
  have lt0 : ∀ b o, h₀.get? b = some o → b < s.heap.objs.size := fun b o e => Heap.lt_size (h0 b o e)
  unfold ksk_tree
  refine wpAny_bind (listItems_at ho rfl ?_)
  refine wpAny_bind (listUpdate_at ho rfl ?_ (by rw [List.size_toArray, sizeLine_eq]; exact ar3 (ar10 ‹_› ‹_›) (by decide)) (Nat.zero_le _))
  refine wpAny_bind (seqEpoch_at ho1 rfl ?_)
  refine wpAny_bind (wpAny_newTuple ?_ (by show vs.length ≤ _; rw [sizeLine_eq]; exact ar3 (ar10 ‹_› ‹_›) (by decide)))
  refine wpAny_bind (wpAny_newList ?_ (Nat.zero_le _))
  refine wpAny_holding ?_
  have hkeep := upd_keep (g := fun _ => (#[] : Array Value)) h0 ha0
  generalize hH : (s.heap.update a (Obj.mapSeq fun _ => (#[] : Array Value))).push (seqObj "tuple" vs.toArray 0) = H1 at hkS ⊢
  have ho2 : (H1.push (seqObj "list" #[] 0)).get? a = some (seqObj "list" #[] e1) := by rw [← hH]; exact Heap.get?_push_of_some _ (Heap.get?_push_of_some _ ho1)
  have hk2 : (H1.push (seqObj "list" #[] 0)).get? H1.objs.size = some (seqObj "list" #[] 0) := Heap.get?_push_size _ rfl
  have hkeep2 : ∀ b o, h₀.get? b = some o → (H1.push (seqObj "list" #[] 0)).get? b = some o := fun b o e => by rw [← hH]; exact Heap.get?_push_of_some _ (Heap.get?_push_of_some _ (hkeep b o e))
  generalize hSz : H1.objs.size = kS at hkS hk2 ⊢
  have hk0 : h₀.get? kS = none := by
    cases q : h₀.get? kS with
    | none => rfl
    | some o => exact absurd (lt0 _ _ q) (by rw [hkS]; exact Nat.not_lt.mpr (Nat.le_succ _))
  have hka : kS ≠ a := by rw [hkS]; exact Nat.ne_of_gt (Nat.lt_succ_of_lt ha)
  generalize H1.push (seqObj "list" #[] 0) = H2 at ho2 hk2 hkeep2 ⊢
  unfold ksk_rest
  refine wpAny_bind (wpAny_rule ?_)
  rw [List.forIn_toArray]
  refine wpAny_bind (ksk_fold (fun i s' => Ex4 fun h' tk kA e => And5 (s' = { s with heap := h', toks := tk }) ((Ext h₀ h')) (h'.get? kS = some (seqObj "list" kA e)) (h'.get? a = some (seqObj "list" #[] e1)) (KeysTo h' C kA i)) vs 0 _
    ⟨H2, s.toks, #[], 0, rfl, hkeep2, hk2, ho2, rfl, fun j hj => by exact False.elim (lc (lR1 _) (.h (lS z0) (lN 0) .f) lT hj)⟩ ?step ?done)
  case step =>
    rintro j x s' hx ⟨h', tk, kA, e, rfl, k', nk, na, hK⟩
    simp only [Nat.zero_add] at hK ⊢
    have hj : j < vs.length := (List.getElem?_eq_some_iff.mp hx).1
    obtain ⟨t, rfl⟩ := hvs j x hx
    refine wpAny_bind (wpAny_attempt (kmake (by exact lc (lR3 _ _ _) (.h (lS (lS (lA z0 z1))) z2 (.g (lS (lS z0)) z2)) lT hroom) (NoLimit.mono hlim k') (K.keeps k') fun h2 tk2 I dd k2 nI eI => ?_))
    dsimp only
    have nk2 := k2 _ _ nk
    have na2 := k2 _ _ na
    obtain ⟨c2, hc2⟩ : ∃ c2, (h2.update kS (Obj.mapSeq (·.push (.ref I)))).get? kS = some (seqObj "list" (kA.push (.ref I)) c2) := ⟨_, get?_update_seq nk2 (·.push (.ref I))⟩
    refine wpAny_bind (listUpdate_at nk2 rfl ?_ (by rw [sizeLine_eq]; have := hK.1; exact lc (lR4 _ _ _ _) (.e z0 z1 (.h (lS z1) (lN 64) (.h (lS z2) z0 (.e z3 z2 (.g z3 (lN 16777216)))))) lT hn h64 hj this) (by rw [Array.size_push, sizeLine_eq]; have := hK.1; exact lc (lR4 _ _ _ _) (.e z0 z1 (.h (lS z1) (lN 64) (.h (lS z2) z0 (.e z3 z2 (.g (lS z3) (lS (lN 16777216))))))) lT hn h64 hj this))
    refine wpAny_pure ⟨rfl, _, _, kA.push (.ref I), c2, rfl, upd_keep (fun b o e => k2 _ _ (k' b o e)) hk0, hc2, ((Heap.SameBut.update h2 kS (Obj.mapSeq (·.push (.ref I)))).2 a hka.symm).trans na2, ?_⟩
    have hK2 : KeysTo (h2.update kS (Obj.mapSeq (·.push (.ref I)))) C kA j := (hK.mono k2).upd nk2
    refine ⟨by rw [Array.size_push, hK.1], fun i hi => ?_⟩
    by_cases e' : i = j
    · subst e'
      refine ⟨I, dd, t, by rw [← hK.1]; simp, ((Heap.SameBut.update h2 kS (Obj.mapSeq (·.push (.ref I)))).2 I (fun z => by rw [z, nk2] at eI; cases eI)).trans eI⟩
    · obtain ⟨I', d', t', p, q⟩ := hK2.2 i (by exact ar23 ‹_› ‹_›)
      exact ⟨I', d', t', by rw [Array.getElem?_push]; rw [if_neg (by have := hK.1; lia)]; exact p, q⟩
  case done =>
    rintro s' ⟨h', tk, keys, e, rfl, k', nk, na, hK⟩
    rw [Nat.zero_add] at hK
    have hks : keys.size = n := hK.1.trans hn
    refine wpAny_bind (listItems_at nk rfl ?_)
    unfold ksk_end
    dsimp only
    rw [if_neg (by simp)]
    have hzs : (keys.zip vs.toArray).size = n := by rw [Array.size_zip, hks, List.size_toArray, hn, Nat.min_self]
    have hit : ∀ i, i < n → kas_item (keys.zip vs.toArray) i = (keys.getD i .none, vs.getD i .none) := fun i hi => by
      unfold kas_item
      have h1 : i < (keys.zip vs.toArray).size := by exact ar14 ‹_› ‹_›
      have h2 : i < keys.size := by exact ar14 ‹_› ‹_›
      have h3 : i < vs.length := by exact ar14 ‹_› ‹_›
      have e1 : (keys.zip vs.toArray)[i] = (keys[i], vs[i]) := by simp
      rw [show (keys.zip vs.toArray).getD i (Value.none, Value.none) = (keys.zip vs.toArray)[i] from by simp only [Array.getD, h1, dif_pos]; rfl, e1]
      simp [Array.getD, h2, h3]
    by_cases h2 : vs.toArray.size < 2
    · rw [if_pos h2, if_pos h2]
      refine wpAny_bind (wpAny_pure ?_)
      rw [StateT.run_pure]
      refine wpAny_bind (wpAny_pure ?_)
      dsimp only
      rw [List.size_toArray, hn] at h2
      refine ktail (s := { s with heap := h', toks := tk }) k' ha0 hk0 hka nk na (by exact ar1 (ar10 ‹_› ‹_›) (by decide)) (st := SortSt.mk' general' (keys.zip vs.toArray) #[] 7 none) (by show (keys.zip vs.toArray).size < 64; exact ar1 (ar10 ‹_› ‹_›) (by decide)) rfl fun h3 tk3 c3 k3 e3 => ?_
      refine hq h3 tk3 (List.range n) c3 k3 ?_ (List.Perm.refl _) ?_
      · have : (arrOf (SortSt.mk' general' (keys.zip vs.toArray) #[] 7 none)).map (·.2) = ((List.range n).map fun i => vs.getD i .none).toArray := by
          show (keys.zip vs.toArray).map (·.2) = _
          apply Array.ext
          · simp [hks, hn]
          · intro i h1 h2'
            simp at h1 h2'
            simp [hn, h2']
        rw [this] at e3
        exact e3
      · match n, h2 with
        | 0, _ => simp
        | 1, _ => simp
    · rw [if_neg h2, if_neg h2]
      rw [List.size_toArray, hn] at h2
      have hkl : keys = keys.toList.toArray := by simp
      have kind := kas_kind (M := model PG w) (A := A) (E := E) (s := { s with heap := h', toks := tk }) (vs := keys.toList) (T := .ref C)
        (Q := fun kd s' => wpAny (model PG w) A (do
          let __x ← sortRuns'.run (SortSt.mk' kd (if false = true then (keys.zip vs.toArray).reverse else keys.zip vs.toArray) #[] 7 none)
          match __x with
          | ((), st) => ksk_tail a false e1 (.ref kS) st) P E s')
      rw [← hkl] at kind
      refine wpAny_bind (kind (by rw [Array.length_toList]; exact lc (lR2 _ _) (.d z0 z1 (.h (lN 2) z1 (.g (lN 2) z0))) lT hks (Nat.ge_of_not_lt h2)) (fun v hv => ?_) (by rfl) (by simp) ?_)
      · obtain ⟨i, hi, rfl⟩ := List.getElem_of_mem hv
        rw [Array.length_toList] at hi
        obtain ⟨I, d, t, p, q⟩ := hK.2 i (by exact lc (lR4 _ _ _ _) (.d z0 z1 (.e z2 z1 (.h (lS z3) z2 (.g (lS z3) z0)))) lT hn hks hi)
        have : keys.toList[i] = .ref I := by
          rw [Array.getElem_toList]
          rw [Array.getElem?_eq_getElem hi] at p
          exact Option.some.inj p
        rw [this]
        exact Looks_ref q
      · dsimp only
        rw [if_neg (by simp)]
        have est : SortSt.mk' oneType' (keys.zip vs.toArray) #[] 7 none = kas_st oneType' (keys.zip vs.toArray) (List.toArray (List.range n)) := by
          have e := kas_range (keys.zip vs.toArray)
          rw [hzs] at e
          show _ = SortSt.mk' oneType' ((List.toArray (List.range n)).map (kas_item (keys.zip vs.toArray))) #[] 7 none
          rw [e]
        rw [est]
        have run := kas_runs (prog := PG) (w := w) (A := A) (E := E) (κ := oneType') (it := keys.zip vs.toArray) (n := n) (s := { s with heap := h', toks := tk })
          (Q := fun _ st' s' => ∃ (p : Array Nat), And5 (p.size = n) (arrOf st' = p.map (kas_item (keys.zip vs.toArray))) (failedOf st' = none) ((p.toList.Perm (List.range n) ∧ p.toList.Pairwise (Bef (ltOf c)))) (Ex2 fun h3 tk3 => s' = { s with heap := h3, toks := tk3 } ∧ Ext h' h3))
          (G := fun p s' => (p.toList.Perm (List.range n) ∧ p.toList.Pairwise (Bef (ltOf c))) ∧ Ex2 fun h3 tk3 => s' = { s with heap := h3, toks := tk3 } ∧ Ext h' h3)
          (by exact Nat.le_of_not_lt ‹_›) h64 (fun p' st' s' a1 a2 a3 a4 => ⟨p', a1, a2, a3, a4.1, a4.2⟩)
          (okRun.wp (I := fun s' => Ex2 fun h3 tk3 => s' = { s with heap := h3, toks := tk3 } ∧ Ext h' h3) (n := n) (lt := ltOf c) (P := fun p => p.toList.Perm (List.range n) ∧ p.toList.Pairwise (Bef (ltOf c)))
            (fun i j s' C' hi hj hI hC' => by
              obtain ⟨h3, tk3, rfl, k3⟩ := hI
              obtain ⟨I, d, t, p, q⟩ := hK.2 i (by exact ar14 ‹_› ‹_›)
              obtain ⟨J, d', t', p', q'⟩ := hK.2 j (by exact ar14 ‹_› ‹_›)
              unfold kas_cmp
              rw [hit i hi, hit j hj]
              have x1 : keys.getD i .none = .ref I := by simp [Array.getD_eq_getD_getElem?, p]
              have x2 : keys.getD j .none = .ref J := by simp [Array.getD_eq_getD_getElem?, p']
              rw [x1, x2]
              refine klt hu hroom (NoLimit.mono hlim fun b o e => k3 _ _ (k' b o e)) (K.keeps fun b o e => k3 _ _ (k' b o e)) hf eMy (fun b o e => k3 _ _ (k' b o e)) hi hj (k3 _ _ q) (k3 _ _ q') fun h4 tk4 k4 => ?_
              exact hC' _ ⟨h4, tk4, rfl, fun b o e => k4 _ _ (k3 b o e)⟩)
            (fun p s' hp hI => ⟨hp, hI⟩) _ _ (sort_list hS (by exact lc (lR1 _) (.h (lN 2) z0 (.g (lN 1) z0)) lT (Nat.ge_of_not_lt h2))) ⟨h', tk, rfl, fun _ _ e => e⟩)
        refine wpAny_bind (wpAny_mono run ?_ fun _ _ e => e)
        rintro ⟨⟨⟩, st'⟩ s' ⟨p, hp, har, hfl, ⟨hpm, hpw⟩, h3, tk3, rfl, k3⟩
        dsimp only
        refine ktail (s := { s with heap := h3, toks := tk3 }) (fun b o e => k3 _ _ (k' b o e)) ha0 hk0 hka (k3 _ _ nk) (k3 _ _ na) (by exact ar1 (ar10 ‹_› ‹_›) (by decide)) (by rw [har, Array.size_map]; exact ar1 (ar10 ‹_› ‹_›) (by decide)) hfl fun h4 tk4 c4 k4 e4 => ?_
        refine hq h4 tk4 p.toList c4 k4 ?_ hpm hpw
        rw [e4, har]
        congr 2
        apply Array.ext
        · simp
        · intro i h1 h2'
          simp only [Array.size_map] at h1
          have hpi : p[i] < n := by
            have := hpm.mem_iff.mp (Array.getElem_mem_toList h1)
            simpa using this
          simp [hit _ hpi]
end

end
-- M7
section
open PySem PySem.W PyProof.Rows PySem.Calls PySem.Spec PySem.Builtin.Str
section
variable {w : World} {A : Around} {s : Shared} {h₀ : Heap} {C f : Addr} {k : KD} {n B : Nat} {c : Nat → Nat → Int} {fd : FuncData}
set_option maxHeartbeats 1000000 in
theorem sorted_key {r : Addr} {t u v : Tok} {Q : Value → Shared → Prop} {E : Value → Shared → Prop} (hh : A.handled = none) (hu : A.units + 2 < cLine) (hroom : A.depth + B + 1 < recursionLimit) (hlim : s.heap.NoLimit) (K : KCls w s.heap C f k) (hf : CmpFn s.heap w f n B c) (eMy : s.heap.get? f = some ⟨.type "function", none, .func fd, #[]⟩)
    (hS : SWO (ltOf c)) (hr : IsRange s.heap r 0 n 1 t u v) (hsmall : Builtin.Range.small 0 n 1 = true) (hsz : Builtin.Range.rangeSize 0 n 1 = n) (h64 : n < 64)
    (hq : ∀ D h' tk vs p cc, (Ext s.heap h') → s.heap.get? D = none → h'.get? D = some (seqObj "list" (vs : List Value).toArray cc) → IntsAre vs (List.map (fun (i : Nat) => (i : Int)) p) → p.Perm (List.range n) → p.Pairwise (Bef (ltOf c)) → Q (.ref D) { s with heap := h', toks := tk }) :
    wpAny (model PG w) A (call (.builtin "sorted") [.ref r] [(Str.ofString "key", .ref C)]) Q E s := by
  refine call_function_entry_kw kind_sorted plain_sorted entry_sorted (ksk_s1 _ _) ?_
  unfold Builtin.«sorted»
  refine wpAny_bind (m := checkCount "sorted" 1 1 _) (wpAny_pure ?_)
  refine wpAny_bind (collect_range (A := A.in1) (by exact hh) hr hsmall (by exact ar3 ‹_› (by decide)) hsz fun h1 tk1 vs k1 hl hvs => ?_)
  refine wpAny_bind (wpAny_newList ?_ (by rw [sizeLine_eq]; exact ar3 (ar10 ‹_› ‹_›) (by decide)))
  have ho : (h1.push (seqObj "list" vs.toArray 0)).get? h1.objs.size = some (seqObj "list" vs.toArray 0) := Heap.get?_push_size _ rfl
  have hD : s.heap.get? h1.objs.size = none := by
    cases q : s.heap.get? h1.objs.size with
    | none => rfl
    | some o => exact absurd (Heap.lt_size (k1 _ _ q)) (Nat.lt_irrefl _)
  refine wpAny_bind (wpAny_holding (wpAny_call_entry_kw slot_list_sort ⟨_, ho, rfl⟩ entry_list_sort ?body (ksk_l1 _ _)))
  case body =>
    refine sort_key (h₀ := s.heap) (s := { s with heap := h1.push (seqObj "list" vs.toArray 0), toks := tk1 }) (by rw [units_in1, units_in1]; assumption) hroom hlim K hf eMy hS (fun b o e => Heap.get?_push_of_some _ (k1 b o e)) hD ho hl h64 hvs fun h2 tk2 p cc k2 e2 hp hw => ?_
    refine ⟨_, rfl, wpAny_pure ⟨_, rfl, hq _ h2 tk2 _ p cc k2 hD e2 ?_ hp hw⟩⟩
    have hin : ∀ i ∈ p, i < n := fun i hi => by simpa using hp.mem_iff.mp hi
    clear hw e2 hp
    induction p with
    | nil => exact .nil
    | cons i p ih =>
      have hi := hin i (.head _)
      obtain ⟨t', e⟩ := hvs i (vs[i]'(by exact ar14 ‹_› ‹_›)) (by simp [hl, hi])
      rw [List.map_cons, List.map_cons, show vs.getD i .none = .int i t' from by simp [hl, hi, ← e]]
      exact .cons _ _ (ih fun j hj => hin j (.tail _ hj))
end

end
-- M8
section
open PySem PySem.W PyProof.Rows PySem.Calls PySem.Spec PySem.Builtin.Str
end
section
noncomputable abbrev lfd (q : Str) (prm : Arguments) (body : Expr) (scope : Scope) (clo : List (Str × Addr)) (T : Value) (cd : Addr) : FuncData := { name := Str.ofString "<lambda>", qualname := q, params := prm, body := .expr body, scope := scope, globals := 3, closure := clo, closureTuple := T, defaults := .none, kwdefaults := .none, pyModule := .str (Str.ofString "law_in0041_01") 630, code := .ref cd, builtins := builtinsNs }
noncomputable abbrev LamObj (q : Str) (prm : Arguments) (body : Expr) (scope : Scope) (clo : List (Str × Addr)) (T : Value) (cd : Addr) : Obj := { cls := .type "function", data := .func (lfd q prm body scope clo T cd) }
theorem enterLam {w : World} {A : Around} {Q : Value → Shared → Prop} {E : Value → Shared → Prop} {s : Shared} {a cd : Addr} {q : Str} {prm : Arguments} {body : Expr} {names : List (Str × NameKind)} {clo : List (Str × Addr)} {T : Value} {binds : List (Str × Value)} {args : List Value}
    (hroom : A.depth < recursionLimit) (eF : s.heap.get? a = some (LamObj q prm body { kind := .function, names := names, isGenerator := false, isCoroutine := false } clo T cd)) (hlim : s.heap.NoLimit) (hcd : FC q s.heap cd)
    (hb : bindArgs (lfd q prm body { kind := .function, names := names, isGenerator := false, isCoroutine := false } clo T cd) ⟨args, []⟩ = pure binds) (hcell : ∀ x ∈ names, x.2 ≠ .cell) (hloc : ∀ x ∈ binds, names.lookup x.1 = some .local)
    (h : ∀ h₁ env, env = callEnv (lfd q prm body { kind := .function, names := names, isGenerator := false, isCoroutine := false } clo T cd) s.heap.objs.size a → h₁.Ns env.locals (fun x => binds.reverse.lookup x) → (Ext s.heap h₁) →
      wpAny (model PG w) (A.deeper env) (eval body env) Q
        (fun e s' => wpAny (model PG w) (A.deeper env) (leaving env e) (fun _ s'' => E e s'') (fun e' s'' => E e' s'') s') { s with heap := h₁, toks := s.toks + binds.length }) :
    wpAny (model PG w) A (call (.ref a) args) Q E s := by
  refine wpAny_call (kla_callFunE (o := LamObj q prm body { kind := .function, names := names, isGenerator := false, isCoroutine := false } clo T cd) (fd := lfd q prm body { kind := .function, names := names, isGenerator := false, isCoroutine := false } clo T cd) hroom eF rfl rfl rfl rfl hcd.1 ?_)
  rw [hb]
  refine wpAny_pure (wpAny_newFunctionEnv hcell hloc (fun h₁ hns hsb => ⟨hlim.fresh _ hsb, ?_⟩) rfl)
  exact kla_codeExpr (h h₁ _ rfl hns fun b o e => hsb.extBut b o (Nat.ne_of_lt (Heap.lt_size e)) (Heap.get?_push_of_some _ e))

noncomputable def bodyLO (w : World) : List Stmt := match (KXf w.params).lookup 235 with
  | some ⟨_, _, .func fd, _⟩ => match fd.body with
    | .stmts b => b
    | _ => []
  | _ => []
noncomputable def lamOf : List Stmt → Option (Arguments × Expr × Scope)
  | [.Return (some (.Call _ _ [⟨_, .Call _ [.Lambda a b sc _] _ _, _⟩] _)) _] => some (a, b, sc)
  | _ => none
noncomputable def lamLO (w : World) : Arguments × Expr × Scope := (lamOf (bodyLO w)).getD ({ posonlyargs := [], args := [], vararg := none, kwonlyargs := [], kw_defaults := [], kwarg := none, defaults := [] }, .Name Str.empty ⟨0, 0, 0, 0⟩, SCK)
noncomputable abbrev nmLO : List (Str × NameKind) := [(Str.ofString "j", .local), (Str.ofString "k", .local), (Str.ofString "rows", .free), (Str.ofString "three_way_cmp", .globalImplicit)]
theorem lo1 (w : World) : (lamLO w).2.2 = { kind := .function, names := nmLO, isGenerator := false, isCoroutine := false } := by kernel_rfl
theorem lo2 (w : World) (a b : Value) (q : Str) (body : Expr) (sc : Scope) (cl : List (Str × Addr)) (ct : Value) (cd : Addr) : bindArgs (lfd q (lamLO w).1 body sc cl ct cd) ⟨[a, b], []⟩ = pure [(Str.ofString "j", a), (Str.ofString "k", b)] := by kernel_rfl
end
section
theorem ldG {M : Model} {A : Around} {E : Value → Shared → Prop} {h : Heap} {g : Array GenState} {d : Drawn} {t : Nat} {os : OsState} {env : Env} {name : Str} {v : Value} {o3 : Obj} {Q : Value → Shared → Prop} (hk : env.scope.kind = .function) (hl : env.kindOf name = some .globalImplicit) (hg : env.globals = 3)
    (e3 : h.get? 3 = some o3) (l3 : nsLook name o3 = pure (some v)) (hq : Q v ⟨h, g, d, t, os⟩) : wpAny M A (loadName env name) Q E ⟨h, g, d, t, os⟩ := by
  unfold loadName
  simp only [Env.blockKind, hk, hl, hg, ScopeKind.isAnnotationScope, Bool.false_and, Bool.false_eq_true, if_false]
  (repeat wtm_at "wone")
  rw [hg]
  refine wpAny_loadPart' e3 ?_
  wtm_at "sc"
  k_call_by "ft" (l3)
  (repeat wtm_at "wone")
  exact hq
theorem ldB {M : Model} {A : Around} {E : Value → Shared → Prop} {h : Heap} {g : Array GenState} {d : Drawn} {t : Nat} {os : OsState} {env : Env} {name : Str} {v : Value} {o3 o0 : Obj} {Q : Value → Shared → Prop} (hk : env.scope.kind = .function) (hl : env.kindOf name = some .globalImplicit) (hg : env.globals = 3) (hb : env.builtins = 0)
    (e3 : h.get? 3 = some o3) (l3 : nsLook name o3 = pure none) (e0 : h.get? 0 = some o0) (l0 : nsLook name o0 = pure (some v)) (hq : Q v ⟨h, g, d, t, os⟩) : wpAny M A (loadName env name) Q E ⟨h, g, d, t, os⟩ := by
  unfold loadName
  simp only [Env.blockKind, hk, hl, hg, hb, ScopeKind.isAnnotationScope, Bool.false_and, Bool.false_eq_true, if_false]
  (repeat wtm_at "wone")
  rw [hg]
  refine wpAny_loadPart' e3 ?_
  wtm_at "sc"
  k_call_by "ft" (l3)
  (repeat wtm_at "wone")
  rw [hb]
  refine wpAny_loadPart' e0 ?_
  wtm_at "sc"
  k_call_by "ft" (l0)
  (repeat wtm_at "wone")
  exact hq
set_option maxRecDepth 100000 in
set_option maxHeartbeats 1000000 in
theorem lamcall {w : World} {A : Around} {Q : Value → Shared → Prop} {E : Value → Shared → Prop} {h : Heap} {g : Array GenState} {d : Drawn} {t : Nat} {os : OsState} {f cd c l : Addr} {q : Str} {T : Value} {vs : List Value} {ss : List Str} {i j : Nat} {ti tj : Tok} {x y : Str} {p : Program} {loose : List Str} {mean : ExcName → Option Value} {mg mb : Str → Option Value}
  (X : (KF w).In h) (Tp : Top p loose mean mg mb h) (hroom : A.depth + 1 < recursionLimit) (eF : h.get? f = some (LamObj q (lamLO w).1 (lamLO w).2.1 { kind := .function, names := nmLO, isGenerator := false, isCoroutine := false } [(Str.ofString "rows", c)] T cd)) (hcd : FC q h cd)
  (hc : h.IsCell c (some (.ref l))) (hl : h.IsList l vs.toArray) (hS : StrsAre vs ss) (hn : ss.length ≤ 100) (hi : ss[i]? = some x) (hj : ss[j]? = some y)
  (hq : ∀ h' tk' t, (Ext h h') → Q (.int (b2i (decide (y.cps.toList < x.cps.toList)) - b2i (decide (x.cps.toList < y.cps.toList))) t) ⟨h', g, d, tk', os⟩) :
   wpAny (model PG w) A (call (.ref f) [.int i ti, .int j tj]) Q E ⟨h, g, d, t, os⟩ := by
  obtain ⟨o3, t3, e3, l31⟩ : ∃ o3, And3 (notTab o3 = true) (h.get? 3 = some o3) (nsLook (Str.ofString "three_way_cmp") o3 = pure (some (.ref 135))) := ⟨_, by kernel_rfl, X 3 _ rfl, by kernel_rfl⟩
  refine enterLam (binds := [(Str.ofString "j", .int i ti), (Str.ofString "k", .int j tj)]) (by exact ar16 ‹_›) eF Tp.nolimit hcd (lo2 ..) (by decide) (by intro x hx; simp only [List.mem_cons, List.not_mem_nil, or_false] at hx; rcases hx with rfl | rfl <;> rfl) (fun h₁ env he hns hk => ?_)
  subst he
  have il : i < ss.length := (List.getElem?_eq_some_iff.mp hi).1
  have jl : j < ss.length := (List.getElem?_eq_some_iff.mp hj).1
  replace hns : h₁.Ns h.objs.size (fun x => List.lookup x [(Str.ofString "j", Value.int i ti), (Str.ofString "k", .int j tj)].reverse) := hns
  replace hk : Ext h h₁ := hk
  wtm_at "sc"
  (repeat (k_call_by "nt" [call _ _ _, makeFunction .., eval (Expr.Subscript _ _ _) _, subscriptTail .., compareOp .., binaryOp .., loadName ..]; wtm_at "wtwo"))
  refine ldG (by rfl) (by rfl) (by rfl) (hk _ _ e3) l31 ?_
  have k135 := hk _ _ (X 135 _ rfl)
  wtm_at "sc"
  (repeat (k_call_by "nt" [call _ _ _, makeFunction .., eval (Expr.Subscript _ _ _) _, subscriptTail .., compareOp .., binaryOp .., loadName ..]; wtm_at "wtwo"))
  refine eSub ?_
  wtm_at "sc"
  (repeat (k_call_by "nt" [call _ _ _, makeFunction .., eval (Expr.Subscript _ _ _) _, subscriptTail .., compareOp .., binaryOp .., loadName ..]; wtm_at "wtwo"))
  refine wpAny_loadName_free (c := c) (by rfl) (by rfl) (by rfl) (hc.keeps hk) ?_
  wtm_at "sc"
  (repeat (k_call_by "nt" [call _ _ _, makeFunction .., eval (Expr.Subscript _ _ _) _, subscriptTail .., compareOp .., binaryOp .., loadName ..]; wtm_at "wtwo"))
  refine wpAny_loadName_local (by rfl) (by rfl) hns (by rfl) ?_
  wtm_at "sc"
  refine item_strsA (hl.at fun o e => hk _ o e) hS (by exact Int.natCast_nonneg _) (by exact Int.ofNat_lt.mpr il) (by have := il; have := hS.length; exact l63 (lc (lR2 _ _) (.h z0 (lN 100) (.h (lS z1) z0 (.g (lS z1) (lN 9223372036854775808)))) lT hn il)) (fun ti => ?_) (by with_unfolding_all rfl) (by intro _; with_unfolding_all rfl)
  rw [show ss.getD (Int.toNat (i : Int)) Str.empty = x from by simp [hi]]
  wtm_at "sc"
  (repeat (k_call_by "nt" [call _ _ _, makeFunction .., eval (Expr.Subscript _ _ _) _, subscriptTail .., compareOp .., binaryOp .., loadName ..]; wtm_at "wtwo"))
  refine eSub ?_
  wtm_at "sc"
  (repeat (k_call_by "nt" [call _ _ _, makeFunction .., eval (Expr.Subscript _ _ _) _, subscriptTail .., compareOp .., binaryOp .., loadName ..]; wtm_at "wtwo"))
  refine wpAny_loadName_free (c := c) (by rfl) (by rfl) (by rfl) (hc.keeps hk) ?_
  wtm_at "sc"
  (repeat (k_call_by "nt" [call _ _ _, makeFunction .., eval (Expr.Subscript _ _ _) _, subscriptTail .., compareOp .., binaryOp .., loadName ..]; wtm_at "wtwo"))
  refine wpAny_loadName_local (by rfl) (by rfl) hns (by rfl) ?_
  wtm_at "sc"
  refine item_strsA (hl.at fun o e => hk _ o e) hS (by exact Int.natCast_nonneg _) (by exact Int.ofNat_lt.mpr jl) (by have := jl; have := hS.length; exact l63 (lc (lR2 _ _) (.h z0 (lN 100) (.h (lS z1) z0 (.g (lS z1) (lN 9223372036854775808)))) lT hn jl)) (fun tj => ?_) (by with_unfolding_all rfl) (by intro _; with_unfolding_all rfl)
  rw [show ss.getD (Int.toNat (j : Int)) Str.empty = y from by simp [hj]]
  wtm_at "sc"
  (repeat (k_call_by "nt" [call _ _ _, makeFunction .., eval (Expr.Subscript _ _ _) _, subscriptTail .., compareOp .., binaryOp .., loadName ..]; wtm_at "wtwo"))
  show wpAny _ _ (call (.ref 135) [.str x ti, .str y tj]) _ _ _
  refine three_way (fun a o e => hk _ _ (X a o e)) (Tp.keeps (fun b o => hk b o)) (by rw [depth_deeper]; exact hroom) fun h2 tk2 t2 k2 => ?_
  wtm_at "sc"
  (repeat (k_call_by "nt" [call _ _ _, makeFunction .., eval (Expr.Subscript _ _ _) _, subscriptTail .., compareOp .., binaryOp .., loadName ..]; wtm_at "wtwo"))
  exact hq h2 _ _ fun b o e => k2 _ _ (hk b o e)

end
-- M9
section
open PySem PySem.W PyProof.Rows PySem.Calls PySem.Spec PySem.Builtin.Str
theorem mklam {M : Model} {A : Around} {E : Value → Shared → Prop} {s : Shared} {env : Env} {q : Str} {params : Arguments} {body : Expr} {scope : Scope} {pos : Pos} {fl : Nat} {c P bm : Addr} {clo : List (Str × Addr)} {ps : Array Value} {o3 ob : Obj} {nm : Value} {Q : Value → Shared → Prop}
    (hg : env.globals = 3) (hcode : env.code = .ref c) (hclo : closureFor scope env = pure clo)
    (hct : CT s.heap c P ps) (he : Entry (FC q) s.heap pos ps) (hP3 : P ≠ 3) (hPb : P ≠ bm)
    (e3 : s.heap.get? 3 = some o3) (l1 : nsLook (Str.ofString "__builtins__") o3 = pure (some (.ref bm))) (l2 : nsLook (Str.ofString "__name__") o3 = pure (some nm)) (hbm : (bm == builtinsNs) = false)
    (eb : s.heap.get? bm = some ob) (hb1 : ob.data = .plain) (hb2 : ob.dict = some builtinsNs) (hb3 : ob.cls = .type "module")
    (hQ : ∀ g k T h' tk ps', (ExtB P s.heap h') → s.heap.get? g = none → CT h' c P ps' → Entry (FC q) h' pos ps' →
      (∀ pos', ((pos.line : Int) == (pos'.line : Int) && (pos.col : Int) == (pos'.col : Int)) = false → codeAmong pos' ps'.toList = codeAmong pos' ps.toList) → FC q h' k →
      h'.get? g = some { cls := .type "function", data := .func { name := Str.ofString "<lambda>", qualname := q, params, body := .expr body, scope, globals := 3, closure := clo, closureTuple := T, defaults := .none, kwdefaults := .none, pyModule := nm, code := .ref k, builtins := builtinsNs } } →
      Q (.ref g) { s with heap := h', toks := tk }) :
    wpAny M A (makeFunction (Str.ofString "<lambda>") q params (.expr body) scope env [] [] [] pos fl) Q E s :=
  mkfn hg hcode (fun b e => nomatch e) hclo hct he hP3 hPb e3 l1 l2 hbm eb hb1 hb2 hb3 fun g k T h' tk ps' a1 a2 a3 a4 a5 a6 _ _ a7 => hQ g k T h' tk ps' a1 a2 a3 (.inr ⟨k, a5, a6⟩) a4 a6 a7

theorem code_notTab {h : Heap} {c : Addr} (x : isCode h c) : ∃ o, h.get? c = some o ∧ notTab o = true := by
  obtain ⟨o, a, b⟩ := x
  refine ⟨o, a, ?_⟩
  unfold notTab
  rw [b]
theorem TabK.offCode {six : List (Pos × Str)} {h : Heap} {Z : List Addr} (x : TabK six h Z) {c : Addr} (e : isCode h c) : c ∉ Z := by
  obtain ⟨o, a, b⟩ := code_notTab e
  exact x.off a b
noncomputable abbrev qLO : Str := (Str.ofString "_law_order" ++ Str.ofString ".<locals>.") ++ Str.ofString "<lambda>"
noncomputable abbrev posLO : Pos := ⟨225, 51, 225, 95⟩
noncomputable def TabO (c P : Addr) (q : Str) (pos : Pos) (h : Heap) : Prop := ∃ ps, CT h c P ps ∧ Entry (FC q) h pos ps
theorem TabO.mono {c P : Addr} {q : Str} {pos : Pos} {h h' : Heap} {Z : List Addr} (x : TabO c P q pos h) (hP : P ∉ Z) (hc : ∀ b, isCode h b → b ∉ Z) (hk : ExtZ Z h h') : TabO c P q pos h' := by
  obtain ⟨ps, ct, en⟩ := x
  refine ⟨ps, ct.mono (fun o => hk _ _ (hc _ ct.code)) (fun o => hk _ _ hP), ?_⟩
  rcases en with a | ⟨k, a, b⟩
  · exact .inl a
  · exact .inr ⟨k, a, b.mono fun o => hk _ _ (hc _ b.2)⟩
theorem TabK.but {h h' : Heap} {Z : List Addr} {P : Addr} {ps : Array Value} (x : TabK sixK h Z) (hP : P ∉ Z) (tP : h.get? P = some { cls := .none, data := .fields ps }) (hk : ExtB P h h') : TabK sixK h' Z := by
  have code : ∀ c, isCode h c → c ≠ P := fun c y => y.ne tP
  obtain ⟨ps1, hct, y⟩ := x
  have h57 : (57 : Addr) ∈ Z := by rcases y with ⟨_, rfl⟩ | ⟨_, _, _, _, rfl⟩ <;> simp
  refine ⟨ps1, hct.mono (fun o => hk _ _ (code _ hct.code)) (fun o => hk _ _ (fun e => hP (e ▸ h57))), ?_⟩
  rcases y with ⟨a, b⟩ | ⟨k, Pk, a, ⟨fc, off, psk, ct, six⟩, b⟩
  · exact .inl ⟨a, b⟩
  · have hPk : Pk ≠ P := fun e => hP (by rw [b, ← e]; simp)
    refine .inr ⟨k, Pk, a, ⟨fc.mono fun o => hk _ _ (code _ fc.2), off, psk, ct.mono (fun o => hk _ _ (code _ ct.code)) (fun o => hk _ _ hPk), fun z hz => ?_⟩, b⟩
    rcases six z hz with q | ⟨c, q, r⟩
    · exact .inl q
    · exact .inr ⟨c, q, r.mono fun o => hk _ _ (code _ r.2)⟩

end
-- M10
section
open PySem PySem.W PyProof.Rows PySem.Calls PySem.Spec PySem.Builtin.Str
noncomputable def twv (x y : Str) : Int := b2i (decide (y.cps.toList < x.cps.toList)) - b2i (decide (x.cps.toList < y.cps.toList))
noncomputable def twr (ss : List Str) (i j : Nat) : Int := twv (ss.getD i Str.empty) (ss.getD j Str.empty)
noncomputable abbrev SCO : Scope := { kind := .function, names := [(Str.ofString "rows", .cell), (Str.ofString "sorted", .globalImplicit), (Str.ofString "range", .globalImplicit), (Str.ofString "len", .globalImplicit), (Str.ofString "cmp_to_key", .globalImplicit)], isGenerator := false, isCoroutine := false }
noncomputable abbrev LOE (L c : Addr) : Env := { scope := SCO, locals := L, globals := 3, cells := [(Str.ofString "rows", c)], qual := Str.ofString "_law_order" ++ Str.ofString ".<locals>.", func := some 235, code := .ref 234, frame := some L, builtins := 0 }
theorem ltl_asym {a b : List Nat} (h : a < b) : ¬ b < a := List.lt_asymm h
theorem twv_neg (x y : Str) : decide (twv x y < 0) = decide (x.cps.toList < y.cps.toList) := by
  unfold twv b2i
  by_cases h : x.cps.toList < y.cps.toList
  · have := ltl_asym h
    simp [h, this]
  · by_cases h2 : y.cps.toList < x.cps.toList <;> simp [h, h2]
theorem tw_swo (ss : List Str) : SWO (ltOf (twr ss)) := by
  have e : ∀ i j, ltOf (twr ss) i j = decide ((ss.getD i Str.empty).cps.toList < (ss.getD j Str.empty).cps.toList) := fun i j => twv_neg _ _
  refine ⟨fun a b h => ?_, fun a b c h1 h2 => ?_⟩
  · rw [e, decide_eq_true_eq] at h
    rw [e, decide_eq_false_iff_not]
    exact ltl_asym h
  · rw [e, decide_eq_false_iff_not, List.not_lt] at h1 h2
    rw [e, decide_eq_false_iff_not, List.not_lt]
    exact List.le_trans h2 h1
theorem rsmall : ∀ n : Nat, n < 64 → Builtin.Range.small 0 (n : Int) 1 = true := by decide +kernel
theorem rsize : ∀ n : Nat, n < 64 → Builtin.Range.rangeSize 0 (n : Int) 1 = n := by decide +kernel
theorem TabK.live {six : List (Pos × Str)} {h : Heap} {Z : List Addr} (x : TabK six h Z) {b : Addr} (hb : b ∈ Z) : ∃ vs, h.get? b = some { cls := .none, data := .fields vs } := by
  obtain ⟨ps, hct, ⟨_, rfl⟩ | ⟨k, Pk, _, hkc, rfl⟩⟩ := x
  · simp at hb; subst hb; exact ⟨ps, hct.table⟩
  · simp at hb
    rcases hb with rfl | rfl
    · exact ⟨ps, hct.table⟩
    · obtain ⟨psk, hpk, _⟩ := hkc.tab; exact ⟨psk, hpk.table⟩
set_option maxRecDepth 100000 in
set_option maxHeartbeats 4000000 in
theorem loenter {w : World} {A : Around} {Q : Value → Shared → Prop} {E : Value → Shared → Prop} {h : Heap} {g : Array GenState} {d : Drawn} {t : Nat} {os : OsState} {p : Program} {loose : List Str} {mean : ExcName → Option Value} {mg mb : Str → Option Value} {l : Addr}
  (X : (KF w).In h) (T : Top p loose mean mg mb h) (hroom : A.depth < recursionLimit)
  (hb : ∀ h₁ L c tk, (Ext h h₁) → h₁.IsCell c (some (.ref l)) →
    wpAny (model PG w) (A.deeper (LOE L c)) (execs (bodyLO w) (LOE L c)) (fun fl s' => Q (match fl with | .ret v => v | _ => .none) s') (fun e s' => wpAny (model PG w) (A.deeper (LOE L c)) (leaving (LOE L c) e) (fun _ s'' => E e s'') (fun e' s'' => E e' s'') s') ⟨h₁, g, d, tk, os⟩) :
   wpAny (model PG w) A (call (.ref 235) [.ref l]) Q E ⟨h, g, d, t, os⟩ := by
  refine wpAny_call (codeAny_call_cells (binds := [(Str.ofString "rows", .ref l)]) hroom (X _ _ (by rfl)) rfl T.nolimit (codeRec_of X (by rfl)) rfl (by rfl) rfl (by intro x hx; simp only [List.mem_singleton] at hx; subst hx; exact .inr ⟨by rfl, by rfl⟩) (fun s₁ x => ?_))
  obtain ⟨⟨⟨h₁, tk, rfl⟩, ns, keep, fresh⟩, cell, apart, above⟩ := x
  refine hb h₁ h.objs.size (h.objs.size + 1) tk keep ?_
  refine cast ?_ (cell (Str.ofString "rows") (h.objs.size + 1) (by rfl))
  rfl
set_option maxRecDepth 100000 in
set_option maxHeartbeats 4000000 in
theorem lobody {w : World} {A : Around} {Q : Flow → Shared → Prop} {E : Value → Shared → Prop} {h : Heap} {g : Array GenState} {d : Drawn} {t : Nat} {os : OsState} {L c l : Addr} {Z : List Addr} {vs : List Value} {ss : List Str} {p : Program} {loose : List Str} {mean : ExcName → Option Value} {mg mb : Str → Option Value}
  {h₀ : Heap} (k₀ : Ext h₀ h) (hZ₀ : ∀ b ∈ Z, h₀.get? b = none) (h230₀ : h₀.get? 230 = none)
  (X : (KF w).In h₀) (Tp : Top p loose mean mg mb h₀) (hh : A.handled = none) (hu : A.units + 2 < cLine) (hroom : A.depth + 3 < recursionLimit) (hZ : TabK sixK h Z) (hO : TabO 234 230 qLO posLO h) (h230 : 230 ∉ Z)
  (hc : h.IsCell c (some (.ref l))) (hl : h.IsList l vs.toArray) (hS : StrsAre vs ss) (hn : ss.length < 64)
  (hq : ∀ D h' tk vs' p cc Z', (∀ b o, b ∉ Z → b ≠ 230 → h.get? b = some o → h'.get? b = some o) → h.get? D = none → h'.get? D = some (seqObj "list" (vs' : List Value).toArray cc) → IntsAre vs' (List.map (fun (i : Nat) => (i : Int)) p) → p.Perm (List.range ss.length) → p.Pairwise (Bef (ltOf (twr ss))) →
    TabK sixK h' Z' → (∀ b ∈ Z', b ∈ Z ∨ h.get? b = none) → (∀ b ∈ Z, b ∈ Z') → TabO 234 230 qLO posLO h' → Q (.ret (.ref D)) ⟨h', g, d, tk, os⟩) :
   wpAny (model PG w) A (execs (bodyLO w) (LOE L c)) Q E ⟨h, g, d, t, os⟩ := by
  obtain ⟨o0, t0, e0, l01, l02, l03⟩ : ∃ o0, And5 (notTab o0 = true) (h.get? 0 = some o0) (nsLook (Str.ofString "sorted") o0 = pure (some (.builtin "sorted"))) (nsLook (Str.ofString "range") o0 = pure (some (.type "range"))) (nsLook (Str.ofString "len") o0 = pure (some (.builtin "len"))) := ⟨_, by kernel_rfl, k₀ _ _ (X 0 _ rfl), by kernel_rfl, by kernel_rfl, by kernel_rfl⟩
  obtain ⟨o3, t3, e3, l31, l32, l33, l34, l35, l36⟩ : ∃ o3, And8 (notTab o3 = true) (h.get? 3 = some o3) (nsLook (Str.ofString "sorted") o3 = pure none) (nsLook (Str.ofString "__name__") o3 = pure (some (.str (Str.ofString "law_in0041_01") 630))) (nsLook (Str.ofString "__builtins__") o3 = pure (some (.ref 4))) (nsLook (Str.ofString "range") o3 = pure none) (nsLook (Str.ofString "len") o3 = pure none) (nsLook (Str.ofString "cmp_to_key") o3 = pure (some (.ref 62))) := ⟨_, by kernel_rfl, k₀ _ _ (X 3 _ rfl), by kernel_rfl, by kernel_rfl, by kernel_rfl, by kernel_rfl, by kernel_rfl, by kernel_rfl⟩
  refine eCons ?_
  wtm_at "sc"
  (repeat (k_call_by "nt" [call _ _ _, makeFunction .., eval (Expr.Subscript _ _ _) _, subscriptTail .., compareOp .., binaryOp .., loadName ..]; wtm_at "wtwo"))
  refine ldB (by rfl) (by rfl) (by rfl) (by rfl) e3 l31 e0 l01 ?_
  wtm_at "sc"
  (repeat (k_call_by "nt" [call _ _ _, makeFunction .., eval (Expr.Subscript _ _ _) _, subscriptTail .., compareOp .., binaryOp .., loadName ..]; wtm_at "wtwo"))
  refine ldB (by rfl) (by rfl) (by rfl) (by rfl) e3 l34 e0 l02 ?_
  wtm_at "sc"
  (repeat (k_call_by "nt" [call _ _ _, makeFunction .., eval (Expr.Subscript _ _ _) _, subscriptTail .., compareOp .., binaryOp .., loadName ..]; wtm_at "wtwo"))
  refine ldB (by rfl) (by rfl) (by rfl) (by rfl) e3 l35 e0 l03 ?_
  wtm_at "sc"
  (repeat (k_call_by "nt" [call _ _ _, makeFunction .., eval (Expr.Subscript _ _ _) _, subscriptTail .., compareOp .., binaryOp .., loadName ..]; wtm_at "wtwo"))
  refine wpAny_loadName_cell (c := c) (by rfl) (by rfl) (by rfl) hc ?_
  wtm_at "sc"
  (repeat (k_call_by "nt" [call _ _ _, makeFunction .., eval (Expr.Subscript _ _ _) _, subscriptTail .., compareOp .., binaryOp .., loadName ..]; wtm_at "wtwo"))
  show wpAny _ _ (call (.builtin "len") [.ref l]) _ _ _
  refine len_list hl (by rw [List.size_toArray]; have := hS.length; exact ar9 (ar10 ‹_› ‹_›) (by decide)) ?_
  wtm_at "sc"
  (repeat (k_call_by "nt" [call _ _ _, makeFunction .., eval (Expr.Subscript _ _ _) _, subscriptTail .., compareOp .., binaryOp .., loadName ..]; wtm_at "wtwo"))
  show wpAny _ _ (call (.type "range") [.int _ _]) _ _ _
  refine call_range_1 ?_
  dsimp only
  have hR := IsRange.new h 0 (vs.toArray.size : Int) 1 (t + 1 + 1) (t + 1) (t + 1 + 1 + 1)
  have nR : h.get? h.objs.size = none := Heap.get?_none_of_le (Nat.le_refl _)
  generalize hH : h.push { cls := .type "range", data := .fields #[.int 0 (t + 1 + 1), .int (vs.toArray.size : Int) (t + 1), .int 1 (t + 1 + 1 + 1)] } = h1 at hR ⊢
  have k1 : Ext h h1 := fun b o e => by rw [← hH]; exact Heap.get?_push_of_some _ e
  generalize h.objs.size = R at hR nR ⊢
  clear hH
  wtm_at "sc"
  (repeat (k_call_by "nt" [call _ _ _, makeFunction .., eval (Expr.Subscript _ _ _) _, subscriptTail .., compareOp .., binaryOp .., loadName ..]; wtm_at "wtwo"))
  refine ldG (by rfl) (by rfl) (by rfl) (k1 _ _ e3) l36 ?_
  wtm_at "sc"
  (repeat (k_call_by "nt" [call _ _ _, makeFunction .., eval (Expr.Subscript _ _ _) _, subscriptTail .., compareOp .., binaryOp .., loadName ..]; wtm_at "wtwo"))
  obtain ⟨ps, ct, en⟩ := hO
  refine mklam (q := qLO) (P := 230) (c := 234) (bm := 4) (clo := [(Str.ofString "rows", c)]) rfl rfl (by kernel_rfl) (ct.keeps k1) (en.keeps k1) (by decide) (by decide) (k1 _ _ e3) l33 l32 (by decide) (k1 _ _ (k₀ _ _ (X 4 _ rfl))) rfl rfl rfl ?_
  intro f cd T h2 tk2 ps2 k2 nf ct2 en2 _ fc2 eF
  replace eF : h2.get? f = some (LamObj qLO (lamLO w).1 (lamLO w).2.1 { kind := .function, names := nmLO, isGenerator := false, isCoroutine := false } [(Str.ofString "rows", c)] T cd) := eF
  have k02 : Ext h₀ h2 := fun b o e => k2 b o (fun q => by rw [q, h230₀] at e; cases e) (k1 _ _ (k₀ _ _ e))
  have hZ2 : TabK sixK h2 Z := (hZ.keeps k1).but h230 (ct.keeps k1).table k2
  have ne230 : ∀ b o, h.get? b = some o → (∀ x, o.data ≠ .fields x) → b ≠ 230 := fun b o e x q => by
    rw [q, ct.table] at e; cases e; exact x _ rfl
  have hc2 : h2.IsCell c (some (.ref l)) := by
    obtain ⟨o, a, b⟩ := hc
    exact ⟨o, k2 _ _ (ne230 _ _ a fun x e => by rw [b] at e; cases e) (k1 _ _ a), b⟩
  have hl2 : h2.IsList l vs.toArray := by
    obtain ⟨o, a, b, n, d⟩ := id hl
    exact hl.at fun o' e => by
      rw [a] at e; cases e
      exact k2 _ _ (ne230 _ _ a fun x e => by rw [d] at e; cases e) (k1 _ _ a)
  have hR2 : IsRange h2 R 0 (vs.toArray.size : Int) 1 (t + 1 + 1) (t + 1) (t + 1 + 1 + 1) := k2 _ _ (fun q => by
    have a := (ct.keeps k1).table
    rw [← q, hR] at a; cases a) hR
  have k62 := k02 _ _ (X 62 _ rfl)
  wtm_at "sc"
  (repeat (k_call_by "nt" [call _ _ _, makeFunction .., eval (Expr.Subscript _ _ _) _, subscriptTail .., compareOp .., binaryOp .., loadName ..]; wtm_at "wtwo"))
  show wpAny _ _ (call (.ref 62) [.ref f]) _ _ _
  refine cmpkey (fun a o e => k02 _ _ (X a o e)) (Tp.keeps (fun b o => k02 b o)) hZ2 (by exact lc (lR2 _ _) (.h (lS (lA z0 (lN 3))) z1 (.g (lS (lS z0)) z1)) lT hroom) ?_
  intro h3 tk3 C Z' K hK k3 nC hZ3 hin hsub
  have offF : f ∉ Z := hZ2.off eF rfl
  have offC : c ∉ Z := by
    obtain ⟨o, a, b⟩ := hc2
    exact hZ2.offD a fun x e => by rw [b] at e; cases e
  have offR : R ∉ Z := hZ2.off hR2 rfl
  have offL : l ∉ Z := by
    obtain ⟨o, a, b, n, d⟩ := hl2
    exact hZ2.offD a fun x e => by rw [d] at e; cases e
  have eF3 := k3 _ _ offF eF
  have fc3 : FC qLO h3 cd := fc2.mono fun o => k3 _ _ (hZ2.offCode fc2.2)
  have hc3 : h3.IsCell c (some (.ref l)) := let ⟨o, a, b⟩ := hc2; ⟨o, k3 _ _ offC a, b⟩
  have hl3 : h3.IsList l vs.toArray := hl2.at fun o e => k3 _ _ offL e
  have hR3 := k3 _ _ offR hR2
  have k03 : Ext h₀ h3 := fun b o e => k3 b o (fun q => by rw [hZ₀ b q] at e; cases e) (k02 _ _ e)
  have hvl : vs.toArray.size = ss.length := by rw [List.size_toArray, hS.length]
  rw [hvl] at hR3
  have hf : CmpFn h3 w f ss.length 1 (twr ss) := by
    intro A' E' Q' s' i j ti tj k' hi hj hroom' hq'
    obtain ⟨h', g', d', t', os'⟩ := s'
    have ei : ss[i]? = some (ss.getD i Str.empty) := by simp [hi]
    have ej : ss[j]? = some (ss.getD j Str.empty) := by simp [hj]
    exact lamcall (fun a o e => k' _ _ (k03 _ _ (X a o e))) (Tp.keeps fun b o e => k' _ _ (k03 _ _ e)) hroom' (k' _ _ eF3) (fc3.keeps k') (hc3.keeps k') (hl3.at fun o e => k' _ _ e) hS (by exact ar3 ‹_› (by decide)) ei ej hq'
  wtm_at "sc"
  (repeat (k_call_by "nt" [call _ _ _, makeFunction .., eval (Expr.Subscript _ _ _) _, subscriptTail .., compareOp .., binaryOp .., loadName ..]; wtm_at "wtwo"))
  show wpAny _ _ (call (.builtin "sorted") [.ref R] [(Str.ofString "key", .ref C)]) _ _ _
  refine sorted_key hh hu (by exact ar16 ‹_›) (NoLimit.mono Tp.nolimit k03) hK hf eF3 (tw_swo ss) hR3 (rsmall _ hn) (rsize _ hn) hn ?_
  intro D h4 tk4 vs' p' cc k4 nD eD hI hp hw
  wtm_at "sc"
  (repeat (k_call_by "nt" [call _ _ _, makeFunction .., eval (Expr.Subscript _ _ _) _, subscriptTail .., compareOp .., binaryOp .., loadName ..]; wtm_at "wtwo"))
  refine hq D h4 _ vs' p' cc Z' (fun b o hz hb e => k4 _ _ (k3 _ _ hz (k2 _ _ hb (k1 _ _ e)))) ?_ eD hI hp hw (hZ3.keeps k4) (fun b hb => ?_) hsub ?_
  · cases q : h.get? D with
    | none => rfl
    | some o =>
      exfalso
      by_cases hz : D ∈ Z
      · obtain ⟨x, e⟩ := hZ3.live (hsub _ hz)
        rw [e] at nD; cases nD
      · by_cases h2' : D = 230
        · rw [h2', k3 _ _ h230 ct2.table] at nD; cases nD
        · rw [k3 _ _ hz (k2 _ _ h2' (k1 _ _ q))] at nD; cases nD
  · rcases hin b hb with a | a
    · exact .inl a
    · refine .inr ?_
      cases q : h.get? b with
      | none => rfl
      | some o =>
        exfalso
        by_cases h2' : b = 230
        · rw [h2', ct2.table] at a; cases a
        · rw [k2 _ _ h2' (k1 _ _ q)] at a; cases a
  · obtain ⟨ps3, ct3, en3⟩ := TabO.mono (Z := Z) ⟨ps2, ct2, en2⟩ h230 (fun b x => hZ2.offCode x) k3
    exact ⟨ps3, ct3.keeps k4, en3.keeps k4⟩

end
-- M11
section
open PySem PySem.W PyProof.Rows PySem.Calls PySem.Spec PySem.Builtin.Str
structure TabsK (h₀ h : Heap) (Z : List Addr) : Prop where
  k : TabK sixK h Z
  o : TabO 234 230 qLO posLO h
  off : 230 ∉ Z
  z₀ : ∀ b ∈ Z, h₀.get? b = none
  o₀ : h₀.get? 230 = none
theorem law_order {w : World} {A : Around} {Q : Value → Shared → Prop} {E : Value → Shared → Prop} {s : Shared} {l : Addr} {Z : List Addr} {vs : List Value} {ss : List Str} {p : Program} {loose : List Str} {mean : ExcName → Option Value} {mg mb : Str → Option Value}
  {h₀ : Heap} (k₀ : Ext h₀ s.heap) (hT : TabsK h₀ s.heap Z)
  (X : (KF w).In h₀) (Tp : Top p loose mean mg mb h₀) (hh : A.handled = none) (hu : A.units + 5 < cLine) (hroom : A.depth + 4 < recursionLimit)
  (hl : s.heap.IsList l vs.toArray) (hS : StrsAre vs ss) (hn : ss.length < 64)
  (hq : ∀ D h' tk vs' p cc Z', (∀ b o, b ∉ Z → b ≠ 230 → s.heap.get? b = some o → h'.get? b = some o) → s.heap.get? D = none → h'.get? D = some (seqObj "list" (vs' : List Value).toArray cc) → IntsAre vs' (List.map (fun (i : Nat) => (i : Int)) p) → p.Perm (List.range ss.length) → p.Pairwise (Bef (ltOf (twr ss))) →
    TabsK h₀ h' Z' → (∀ b ∈ Z', b ∈ Z ∨ s.heap.get? b = none) → (∀ b ∈ Z, b ∈ Z') → Q (.ref D) { s with heap := h', toks := tk }) :
   wpAny (model PG w) A (call (.ref 235) [.ref l]) Q E s := by
  obtain ⟨h, g, d, t, os⟩ := s
  dsimp only at *
  refine loenter (fun a o e => k₀ _ _ (X a o e)) (Tp.keeps k₀) (by exact lc (lR2 _ _) (.h (lS (lA z0 (lN 4))) z1 (.g (lS z0) z1)) lT hroom) fun h₁ L c tk k₁ hc => ?_
  have nn : ∀ b, h₁.get? b = none → h.get? b = none := fun b e => by
    cases q : h.get? b with
    | none => rfl
    | some o => rw [k₁ _ _ q] at e; cases e
  obtain ⟨ps, ct, en⟩ := hT.o
  refine lobody (fun b o e => k₁ _ _ (k₀ _ _ e)) hT.z₀ hT.o₀ X Tp hh (by rw [units_deeper]; assumption) (by rw [depth_deeper]; assumption) (hT.k.keeps k₁) ⟨ps, ct.keeps k₁, en.keeps k₁⟩ hT.off hc (hl.at fun o e => k₁ _ _ e) hS hn fun D h' tk' vs' p cc Z' k' nD eD hI hp hw hZ hin hsub hO => ?_
  have h230 : h.get? 230 ≠ none := by rw [ct.table]; exact fun q => by cases q
  refine hq D h' tk' vs' p cc Z' (fun b o hz hb e => k' _ _ hz hb (k₁ _ _ e)) (nn _ nD) eD hI hp hw ⟨hZ, hO, fun q => ?_, fun b hb => ?_, hT.o₀⟩ (fun b hb => (hin b hb).imp id (nn b)) hsub
  · rcases hin _ q with a | a
    · exact hT.off a
    · exact h230 (nn _ a)
  · rcases hin b hb with a | a
    · exact hT.z₀ b a
    · cases q : h₀.get? b with
      | none => rfl
      | some o => rw [k₁ _ _ (k₀ _ _ q)] at a; cases a

end
-- R1
section
open PySem PySem.W PyProof.Rows
open PySem.Sre (M Seen Frame Wait Kept Loop Outcome)
noncomputable def iterM : Nat → M → M
  | 0, m => m
  | n + 1, m => iterM n m.step
theorem step_done {m : M} (h : m.outcome.isSome = true) : m.step = m := by unfold M.step; rw [if_pos h]
theorem iterM_done {m : M} (h : m.outcome.isSome = true) : ∀ n, iterM n m = m
  | 0 => rfl
  | n + 1 => by rw [iterM, step_done h]; exact iterM_done h n
theorem runFor_eq : ∀ (n : Nat) (m : M), M.runFor n m = iterM n m
  | 0, _ => rfl
  | n + 1, m => by
    rw [M.runFor, iterM]
    split
    · rename_i h
      rw [step_done h, iterM_done h]
    · exact runFor_eq n _
theorem iterM_add : ∀ (a b : Nat) (m : M), iterM (a + b) m = iterM b (iterM a m)
  | 0, b, m => by rw [Nat.zero_add]; rfl
  | a + 1, b, m => by rw [show a + 1 + b = (a + b) + 1 from by exact Nat.le_antisymm (lc (lR2 _ _) (.g (lA (lS z0) z1) (lS (lA z0 z1))) lT) (lc (lR2 _ _) (.g (lS (lA z0 z1)) (lA (lS z0) z1)) lT), iterM, iterM, iterM_add a b]
theorem reDrive_run {Mo : Model} {A : Around} {E : Value → Shared → Prop} {s : Shared} {mf : M} {Q : M → Shared → Prop} (ho : mf.outcome.isSome = true) (hq : Q mf s) : ∀ (T n : Nat) (m : M), iterM n m = mf → n ≤ 4 * T → wpAny Mo A (PySem.Builtin.Re.reDrive (T + 1) m) Q E s := by
  intro T
  induction T with
  | zero =>
    intro n m h hn
    have : n = 0 := by exact Nat.le_antisymm (lc (lR1 _) (.h z0 (lM 4 (lN 0)) (.g z0 (lN 0))) lT hn) (lc (lR1 _) (.g (lN 0) z0) lT)
    subst this
    have h' : m = mf := h
    subst h'
    unfold PySem.Builtin.Re.reDrive
    rw [runFor_eq, iterM_done ho]
    rw [if_pos ho]
    exact wpAny_pure hq
  | succ T ih =>
    intro n m h hn
    unfold PySem.Builtin.Re.reDrive
    rw [runFor_eq]
    show wpAny Mo A (if (iterM 4 m).outcome.isSome = true then pure (iterM 4 m) else _) Q E s
    by_cases h4 : (iterM 4 m).outcome.isSome = true
    · rw [if_pos h4]
      refine wpAny_pure ?_
      have : iterM 4 m = mf := by
        by_cases hle : 4 ≤ n
        · obtain ⟨k, rfl⟩ : ∃ k, n = 4 + k := ⟨n - 4, by exact Nat.le_antisymm (lc (lR2 _ _) (.h z0 (lA z1 (lN 4)) (.g z0 (lA (lN 4) z1))) lT (lU _ _)) (lc (lR2 _ _) (.e (lA z0 (lN 4)) z1 (.g (lA (lN 4) z0) z1)) lT (Nat.sub_add_cancel hle))⟩
          rw [iterM_add, iterM_done h4] at h
          exact h
        · obtain ⟨k, hk⟩ : ∃ k, 4 = n + k := ⟨4 - n, by exact Nat.le_antisymm (lc (lR2 _ _) (.h (lN 4) (lA z0 z1) (.g (lN 4) (lA z1 z0))) lT (lU _ _)) (lc (lR2 _ _) (.e (lA z0 z1) (lN 4) (.g (lA z1 z0) (lN 4))) lT (Nat.sub_add_cancel (lc (lR1 _) (.h (lS z0) (lN 4) (.g z0 (lN 4))) lT (Nat.lt_of_not_le hle))))⟩
          rw [hk, iterM_add, h, iterM_done ho]
      rw [this]; exact hq
    · rw [if_neg h4]
      refine wpAny_bind (wpAny_rule ?_)
      by_cases hle : 4 ≤ n
      · obtain ⟨k, rfl⟩ : ∃ k, n = 4 + k := ⟨n - 4, by exact Nat.le_antisymm (lc (lR2 _ _) (.h z0 (lA z1 (lN 4)) (.g z0 (lA (lN 4) z1))) lT (lU _ _)) (lc (lR2 _ _) (.e (lA z0 (lN 4)) z1 (.g (lA (lN 4) z0) z1)) lT (Nat.sub_add_cancel hle))⟩
        rw [iterM_add] at h
        exact ih k _ h (by exact lc (lR2 _ _) (.h (lA (lN 4) z0) (lM 4 (lS z1)) (.g z0 (lM 4 z1))) lT hn)
      · exfalso
        obtain ⟨k, hk⟩ : ∃ k, 4 = n + k := ⟨4 - n, by exact Nat.le_antisymm (lc (lR2 _ _) (.h (lN 4) (lA z0 z1) (.g (lN 4) (lA z1 z0))) lT (lU _ _)) (lc (lR2 _ _) (.e (lA z0 z1) (lN 4) (.g (lA z1 z0) (lN 4))) lT (Nat.sub_add_cancel (lc (lR1 _) (.h (lS z0) (lN 4) (.g z0 (lN 4))) lT (Nat.lt_of_not_le hle))))⟩
        rw [hk, iterM_add, h, iterM_done ho] at h4
        exact h4 ho
noncomputable abbrev code1 : Array Nat := #[14, 4, 0, 1, 1, 6, 1, 16, 46, 1]
noncomputable abbrev code2 : Array Nat := #[14, 9, 4, 1, 2, 16, 10, 16, 13, 0, 7, 7, 16, 13, 16, 10, 15, 18, 5, 16, 10, 15, 13, 11, 16, 13, 5, 5, 0, 16, 10, 1, 15, 2, 0, 1]
noncomputable abbrev mz1 (tx : Array Nat) (N : Nat) (b first : Bool) (p pc pos handed w : Nat) (fr : List Sre.Frame) (ans : Option Bool) (σ : Sre.Seen) : M :=
  { code := code1, text := tx, lim := N, start := p, lastStart := N, mustAdvance := b, pc, pos, handed, outermost := first, marks := #[], frames := fr, weight := w, answer := ans, seen := σ }
noncomputable abbrev fS1 (p : Nat) (first : Bool) : Sre.Frame := { wait := .nextStart, pc := 5, pos := p, outermost := first }
theorem a1 (tx : Array Nat) (N : Nat) (b first : Bool) (p : Nat) (σ : Sre.Seen) : ∃ σ', (mz1 tx N b first p 5 p p 1 [fS1 p first] none σ).step = if (p == 0 || tx.getD (p - 1) 0 == 10) = true then mz1 tx N b first p 7 p p 1 [fS1 p first] none σ' else mz1 tx N b first p 5 p p 1 [fS1 p first] (some false) σ' := ⟨_, rfl⟩
theorem a2 (tx : Array Nat) (N : Nat) (b first : Bool) (p : Nat) (σ : Sre.Seen) : (mz1 tx N b first p 7 p p 1 [fS1 p first] none σ).step = if p ≥ N then mz1 tx N b first p 7 p p 1 [fS1 p first] (some false) (σ.add 16) else
    cond (tx.getD p 0 == 46) (mz1 tx N b first p 9 (p + 1) p 1 [fS1 p first] none (σ.add 16)) (mz1 tx N b first p 7 p p 1 [fS1 p first] (some false) (σ.add 16)) := by
  show (if p ≥ N then _ else _) = _
  by_cases h : p ≥ N
  · rw [if_pos h, if_pos h]; rfl
  · rw [if_neg h, if_neg h]
    show (match (Except.ok ((tx.getD p 0 == 46), σ.add 16) : Except String (Bool × Sre.Seen)) with | .error why => _ | .ok (false, seen) => _ | .ok (true, seen) => _) = _
    cases tx.getD p 0 == 46 <;> rfl
theorem a3 (tx : Array Nat) (N : Nat) (b first : Bool) (p : Nat) (σ : Sre.Seen) : (mz1 tx N b first p 9 (p + 1) p 1 [fS1 p first] none σ).step = mz1 tx N b first p 9 (p + 1) (p + 1) 1 [fS1 p first] (some true) (σ.add 1) := by
  show (if (first && (false && (p + 1) != N || b && (p + 1) == p)) = true then _ else _) = _
  rw [if_neg (by simp)]
  rfl
theorem a4 (tx : Array Nat) (N : Nat) (b first : Bool) (p pc pos hd : Nat) (σ : Sre.Seen) : (mz1 tx N b first p pc pos hd 1 [fS1 p first] (some true) σ).step = mz1 tx N b first p 5 p hd 0 [] (some true) σ := rfl
theorem a5 (tx : Array Nat) (N : Nat) (b first : Bool) (p pc pos hd : Nat) (σ : Sre.Seen) (y : Bool) : (mz1 tx N b first p pc pos hd 0 [] (some y) σ).step = { mz1 tx N b first p pc pos hd 0 [] (some y) σ with outcome := some (if y then .matched else .failed) } := rfl
theorem a6 (tx : Array Nat) (N : Nat) (b first : Bool) (p pc pos hd : Nat) (σ : Sre.Seen) : (mz1 tx N b first p pc pos hd 1 [fS1 p first] (some false) σ).step = if p < N then mz1 tx N false false (p + 1) 5 (p + 1) (p + 1) 1 [fS1 (p + 1) false] none σ else mz1 tx N b first p 5 p hd 0 [] (some false) σ := rfl
noncomputable def hit1 (tx : Array Nat) (q : Nat) : Bool := (q == 0 || tx.getD (q - 1) 0 == 10) && tx.getD q 0 == 46
noncomputable def Found1 (tx : Array Nat) (N p : Nat) (mf : M) : Prop :=
  (∃ q, p ≤ q ∧ q < N ∧ hit1 tx q = true ∧ (∀ r, p ≤ r → r < q → hit1 tx r = false) ∧ mf.outcome = some .matched ∧ mf.start = q ∧ mf.handed = q + 1) ∨ ((∀ r, p ≤ r → r < N → hit1 tx r = false) ∧ mf.outcome = some .failed)
theorem iterM_step (n : Nat) {m m' : M} (h : m.step = m') : iterM (n + 1) m = iterM n m' := by rw [iterM, h]
theorem run1 (tx : Array Nat) (N : Nat) : ∀ (k p : Nat) (b first : Bool) (σ : Sre.Seen), p + k = N → ∃ n mf, n ≤ 10 * (k + 1) ∧ iterM n (mz1 tx N b first p 5 p p 1 [fS1 p first] none σ) = mf ∧ Found1 tx N p mf := by
  intro k
  induction k with
  | zero =>
    intro p b first σ hp
    have hp' : p = N := by omega
    have fail : ∀ pc pos σ, ∃ mf, iterM 2 (mz1 tx N b first p pc pos p 1 [fS1 p first] (some false) σ) = mf ∧ Found1 tx N p mf := fun pc pos σ => by
      refine ⟨_, by rw [iterM_step _ (a6 ..), if_neg (by exact Nat.not_lt_of_le (lc (lR2 _ _) (.d (lA z0 (lN 0)) z1 (.g z1 z0)) lT hp)), iterM_step _ (a5 ..)], .inr ⟨fun r a b => by exact False.elim (lc (lR3 _ _ _) (.d (lA z0 (lN 0)) z1 (.h z0 z2 (.h (lS z2) z1 .f))) lT hp a b), rfl⟩⟩
    obtain ⟨σ1, e1⟩ := a1 tx N b first p σ
    by_cases h : (p == 0 || tx.getD (p - 1) 0 == 10) = true
    · rw [if_pos h] at e1
      have e2 := a2 tx N b first p σ1
      rw [if_pos (by exact lc (lR2 _ _) (.d (lA z0 (lN 0)) z1 (.g z1 z0)) lT hp)] at e2
      obtain ⟨mf, e, f⟩ := fail 7 p (σ1.add 16)
      exact ⟨4, mf, by decide, by rw [iterM_step 3 e1, iterM_step 2 e2, e], f⟩
    · rw [if_neg h] at e1
      obtain ⟨mf, e, f⟩ := fail 5 p σ1
      exact ⟨3, mf, by decide, by rw [iterM_step 2 e1, e], f⟩
  | succ k ih =>
    intro p b first σ hp
    have next : hit1 tx p = false → ∀ pc pos σ, ∃ n mf, n ≤ 10 * (k + 1) + 1 ∧ iterM n (mz1 tx N b first p pc pos p 1 [fS1 p first] (some false) σ) = mf ∧ Found1 tx N p mf := fun hh pc pos σ => by
      obtain ⟨n, mf, hn, e, f⟩ := ih (p + 1) false false σ (by exact ar22 ‹_›)
      refine ⟨n + 1, mf, by exact ar42 ‹_›, by rw [iterM_step n (a6 ..), if_pos (by exact ar18 ‹_›)]; exact e, ?_⟩
      rcases f with ⟨q, h1, h2, h3, h4, h5⟩ | ⟨h1, h2⟩
      · refine .inl ⟨q, by exact ar17 ‹_›, h2, h3, fun r ha hb => ?_, h5⟩
        by_cases hr : r = p
        · subst hr; exact hh
        · exact h4 r (Nat.lt_of_le_of_ne ha (Ne.symm hr)) hb
      · refine .inr ⟨fun r ha hb => ?_, h2⟩
        by_cases hr : r = p
        · subst hr; exact hh
        · exact h1 r (Nat.lt_of_le_of_ne ha (Ne.symm hr)) hb
    obtain ⟨σ1, e1⟩ := a1 tx N b first p σ
    by_cases h : (p == 0 || tx.getD (p - 1) 0 == 10) = true
    · rw [if_pos h] at e1
      have e2 := a2 tx N b first p σ1
      rw [if_neg (by exact Nat.not_le_of_lt (lc (lR3 _ _ _) (.e (lA z0 (lS z1)) z2 (.g (lS z0) z2)) lT hp))] at e2
      cases hc : (tx.getD p 0 == 46) with
      | true =>
        rw [hc, cond_true] at e2
        have e3 := a3 tx N b first p (σ1.add 16)
        refine ⟨5, _, by exact lc (lR1 _) (.g (lN 5) (lM 10 (lS (lS z0)))) lT, by rw [iterM_step 4 e1, iterM_step 3 e2, iterM_step 2 e3, iterM_step 1 (a4 ..), iterM_step 0 (a5 ..)], .inl ⟨p, Nat.le_refl _, by exact ar18 ‹_›, by rw [hit1, h, hc]; rfl, fun r a b => by exact False.elim (lc (lR2 _ _) (.h z0 z1 (.h (lS z1) z0 .f)) lT a b), rfl, rfl, rfl⟩⟩
      | false =>
        rw [hc, cond_false] at e2
        obtain ⟨n, mf, hn, e, f⟩ := next (by rw [hit1, hc, Bool.and_false]) 7 p (σ1.add 16)
        exact ⟨n + 2, mf, by exact lc (lR2 _ _) (.h z0 (lS (lM 10 (lS z1))) (.g (lA z0 (lN 2)) (lM 10 (lS (lS z1))))) lT hn, by rw [iterM_step (n + 1) e1, iterM_step n e2, e], f⟩
    · rw [if_neg h] at e1
      obtain ⟨n, mf, hn, e, f⟩ := next (by rw [hit1]; simp only [Bool.not_eq_true] at h; rw [h, Bool.false_and]) 5 p σ1
      exact ⟨n + 1, mf, by exact lc (lR2 _ _) (.h z0 (lS (lM 10 (lS z1))) (.g (lS z0) (lM 10 (lS (lS z1))))) lT hn, by rw [iterM_step n e1, e], f⟩
theorem search1 (tx : Array Nat) (N p : Nat) (must : Bool) (hN : N < 2 ^ 20) : ∃ n mf, n ≤ 4 * (2 ^ 64 - 1) ∧ iterM n (Sre.forSearch code1 tx 0 p N must) = mf ∧ (p ≤ N → Found1 tx N p mf) ∧ mf.outcome.isSome = true := by
  by_cases h : p < N
  · obtain ⟨n, mf, hn, e, f⟩ := run1 tx N (N - p) p must true ((({} : Sre.Seen)).add 14) (by exact Nat.le_antisymm (lc (lR3 _ _ _) (.e (lA z0 z1) z2 (.g (lA z1 z0) z2)) lT (Nat.sub_add_cancel (lc (lR2 _ _) (.h (lS z0) z1 (.g z0 z1)) lT h))) (lc (lR3 _ _ _) (.h z0 (lA z1 z2) (.g z0 (lA z2 z1))) lT (lU _ _)))
    refine ⟨n, mf, Nat.le_trans hn (Nat.le_trans (Nat.mul_le_mul_left 10 (Nat.succ_le_succ (Nat.le_of_lt (Nat.lt_of_le_of_lt (Nat.sub_le _ _) hN)))) (by decide)), ?_, fun _ => f, ?_⟩
    · rw [← e]
      congr 1
      show (if (decide (p > N) || decide (N - p < 1)) = true then _ else _) = _
      rw [if_neg (by simp; exact ⟨lc (lR2 _ _) (.h (lS z0) z1 (.g z0 z1)) lT h, fun e => lc (lR3 _ _ _) (.h (lS z0) z1 (.h z1 (lA z2 z0) (.e z2 (lN 0) .f))) lT h (lU _ _) e⟩)]
      rfl
    · rcases f with ⟨q, _, _, _, _, h5, _⟩ | ⟨_, h2⟩
      · rw [h5]; rfl
      · rw [h2]; rfl
  · have e : Sre.forSearch code1 tx 0 p N must = { code := code1, text := tx, lim := N, start := p, pc := 5, pos := p, handed := p, marks := #[], mustAdvance := must, seen := (({} : Sre.Seen)).add 14, answer := some false } := by
      show (if (decide (p > N) || decide (N - p < 1)) = true then _ else _) = _
      rw [if_pos (by simp; exact Or.inr (Nat.le_antisymm (lc (lR1 _) (.e z0 (lN 0) (.g z0 (lN 0))) lT (Nat.sub_eq_zero_of_le (Nat.ge_of_not_lt h))) (lc (lR1 _) (.g (lN 0) z0) lT)))]
      rfl
    exact ⟨1, { code := code1, text := tx, lim := N, start := p, pc := 5, pos := p, handed := p, marks := #[], mustAdvance := must, seen := (({} : Sre.Seen)).add 14, answer := some false, outcome := some .failed }, by decide, by rw [e]; rfl, fun _ => .inr ⟨fun r a b => by exact False.elim (lc (lR3 _ _ _) (.h z0 z1 (.h z1 z2 (.h (lS z2) z0 .f))) lT (Nat.ge_of_not_lt h) a b), rfl⟩, rfl⟩

end
-- R2
section
open PySem PySem.W PyProof.Rows
open PySem.Sre (M Seen Frame Wait Kept Loop Outcome)
noncomputable abbrev mz2 (tx : Array Nat) (N : Nat) (b first : Bool) (st pc pos handed w : Nat) (out : Bool) (fr : List Sre.Frame) (ans : Option Bool) (σ : Sre.Seen) : M :=
  { code := code2, text := tx, lim := N, start := st, lastStart := N, mustAdvance := b, pc, pos, handed, outermost := out, marks := #[], frames := fr, weight := w, answer := ans, seen := σ }
noncomputable abbrev kp0 : Sre.Kept := { lastmark := -1, lastindex := -1, whole := false, marks := #[] }
noncomputable abbrev fS (p : Nat) (first : Bool) : Sre.Frame := { wait := .nextStart, pc := 10, pos := p, outermost := first }
noncomputable abbrev fB (p alt : Nat) (first : Bool) : Sre.Frame := { wait := .nextBranch, pc := alt, pos := p, outermost := first, kept := kp0 }
noncomputable abbrev fL (p : Nat) (first : Bool) : Sre.Frame := { wait := .lookNot, pc := 26, pos := p, outermost := first, kept := kp0 }
section
variable (tx : Array Nat) (N : Nat) (b first out : Bool) (st pos hd w : Nat) (fr : List Sre.Frame) (σ : Sre.Seen)
theorem lit12 : (mz2 tx N b first st 12 pos hd w out fr none σ).step = if pos ≥ N then mz2 tx N b first st 12 pos hd w out fr (some false) (σ.add 16) else
    cond (tx.getD pos 0 == 13) (mz2 tx N b first st 14 (pos + 1) hd w out fr none (σ.add 16)) (mz2 tx N b first st 12 pos hd w out fr (some false) (σ.add 16)) := by
  show (if pos ≥ N then _ else _) = _
  by_cases h : pos ≥ N
  · rw [if_pos h, if_pos h]; rfl
  · rw [if_neg h, if_neg h]
    show (match (Except.ok ((tx.getD pos 0 == 13), σ.add 16) : Except String (Bool × Sre.Seen)) with | .error why => _ | .ok (false, seen) => _ | .ok (true, seen) => _) = _
    cases tx.getD pos 0 == 13 <;> rfl
theorem lit12_y (h : pos < N) (hc : tx.getD pos 0 = 13) : (mz2 tx N b first st 12 pos hd w out fr none σ).step = mz2 tx N b first st 14 (pos + 1) hd w out fr none (σ.add 16) := by
  rw [lit12, if_neg (by exact Nat.not_le_of_lt h), hc]; rfl
theorem lit12_n (hc : ¬ (pos < N ∧ tx.getD pos 0 = 13)) : (mz2 tx N b first st 12 pos hd w out fr none σ).step = mz2 tx N b first st 12 pos hd w out fr (some false) (σ.add 16) := by
  rw [lit12]
  by_cases h : pos ≥ N
  · rw [if_pos h]
  · rw [if_neg h]
    have : (tx.getD pos 0 == 13) = false := by
      cases q : (tx.getD pos 0 == 13) with
      | false => rfl
      | true => exact absurd ⟨by exact Nat.lt_of_not_le ‹_›, by simpa using q⟩ hc
    rw [this]; rfl
theorem lit14 : (mz2 tx N b first st 14 pos hd w out fr none σ).step = if pos ≥ N then mz2 tx N b first st 14 pos hd w out fr (some false) (σ.add 16) else
    cond (tx.getD pos 0 == 10) (mz2 tx N b first st 16 (pos + 1) hd w out fr none (σ.add 16)) (mz2 tx N b first st 14 pos hd w out fr (some false) (σ.add 16)) := by
  show (if pos ≥ N then _ else _) = _
  by_cases h : pos ≥ N
  · rw [if_pos h, if_pos h]; rfl
  · rw [if_neg h, if_neg h]
    show (match (Except.ok ((tx.getD pos 0 == 10), σ.add 16) : Except String (Bool × Sre.Seen)) with | .error why => _ | .ok (false, seen) => _ | .ok (true, seen) => _) = _
    cases tx.getD pos 0 == 10 <;> rfl
theorem lit14_y (h : pos < N) (hc : tx.getD pos 0 = 10) : (mz2 tx N b first st 14 pos hd w out fr none σ).step = mz2 tx N b first st 16 (pos + 1) hd w out fr none (σ.add 16) := by
  rw [lit14, if_neg (by exact Nat.not_le_of_lt h), hc]; rfl
theorem lit14_n (hc : ¬ (pos < N ∧ tx.getD pos 0 = 10)) : (mz2 tx N b first st 14 pos hd w out fr none σ).step = mz2 tx N b first st 14 pos hd w out fr (some false) (σ.add 16) := by
  rw [lit14]
  by_cases h : pos ≥ N
  · rw [if_pos h]
  · rw [if_neg h]
    have : (tx.getD pos 0 == 10) = false := by
      cases q : (tx.getD pos 0 == 10) with
      | false => rfl
      | true => exact absurd ⟨by exact Nat.lt_of_not_le ‹_›, by simpa using q⟩ hc
    rw [this]; rfl
theorem lit19 : (mz2 tx N b first st 19 pos hd w out fr none σ).step = if pos ≥ N then mz2 tx N b first st 19 pos hd w out fr (some false) (σ.add 16) else
    cond (tx.getD pos 0 == 10) (mz2 tx N b first st 21 (pos + 1) hd w out fr none (σ.add 16)) (mz2 tx N b first st 19 pos hd w out fr (some false) (σ.add 16)) := by
  show (if pos ≥ N then _ else _) = _
  by_cases h : pos ≥ N
  · rw [if_pos h, if_pos h]; rfl
  · rw [if_neg h, if_neg h]
    show (match (Except.ok ((tx.getD pos 0 == 10), σ.add 16) : Except String (Bool × Sre.Seen)) with | .error why => _ | .ok (false, seen) => _ | .ok (true, seen) => _) = _
    cases tx.getD pos 0 == 10 <;> rfl
theorem lit19_y (h : pos < N) (hc : tx.getD pos 0 = 10) : (mz2 tx N b first st 19 pos hd w out fr none σ).step = mz2 tx N b first st 21 (pos + 1) hd w out fr none (σ.add 16) := by
  rw [lit19, if_neg (by exact Nat.not_le_of_lt h), hc]; rfl
theorem lit19_n (hc : ¬ (pos < N ∧ tx.getD pos 0 = 10)) : (mz2 tx N b first st 19 pos hd w out fr none σ).step = mz2 tx N b first st 19 pos hd w out fr (some false) (σ.add 16) := by
  rw [lit19]
  by_cases h : pos ≥ N
  · rw [if_pos h]
  · rw [if_neg h]
    have : (tx.getD pos 0 == 10) = false := by
      cases q : (tx.getD pos 0 == 10) with
      | false => rfl
      | true => exact absurd ⟨by exact Nat.lt_of_not_le ‹_›, by simpa using q⟩ hc
    rw [this]; rfl
theorem lit24 : (mz2 tx N b first st 24 pos hd w out fr none σ).step = if pos ≥ N then mz2 tx N b first st 24 pos hd w out fr (some false) (σ.add 16) else
    cond (tx.getD pos 0 == 13) (mz2 tx N b first st 26 (pos + 1) hd w out fr none (σ.add 16)) (mz2 tx N b first st 24 pos hd w out fr (some false) (σ.add 16)) := by
  show (if pos ≥ N then _ else _) = _
  by_cases h : pos ≥ N
  · rw [if_pos h, if_pos h]; rfl
  · rw [if_neg h, if_neg h]
    show (match (Except.ok ((tx.getD pos 0 == 13), σ.add 16) : Except String (Bool × Sre.Seen)) with | .error why => _ | .ok (false, seen) => _ | .ok (true, seen) => _) = _
    cases tx.getD pos 0 == 13 <;> rfl
theorem lit24_y (h : pos < N) (hc : tx.getD pos 0 = 13) : (mz2 tx N b first st 24 pos hd w out fr none σ).step = mz2 tx N b first st 26 (pos + 1) hd w out fr none (σ.add 16) := by
  rw [lit24, if_neg (by exact Nat.not_le_of_lt h), hc]; rfl
theorem lit24_n (hc : ¬ (pos < N ∧ tx.getD pos 0 = 13)) : (mz2 tx N b first st 24 pos hd w out fr none σ).step = mz2 tx N b first st 24 pos hd w out fr (some false) (σ.add 16) := by
  rw [lit24]
  by_cases h : pos ≥ N
  · rw [if_pos h]
  · rw [if_neg h]
    have : (tx.getD pos 0 == 13) = false := by
      cases q : (tx.getD pos 0 == 13) with
      | false => rfl
      | true => exact absurd ⟨by exact Nat.lt_of_not_le ‹_›, by simpa using q⟩ hc
    rw [this]; rfl
theorem lit29 : (mz2 tx N b first st 29 pos hd w out fr none σ).step = if pos ≥ N then mz2 tx N b first st 29 pos hd w out fr (some false) (σ.add 16) else
    cond (tx.getD pos 0 == 10) (mz2 tx N b first st 31 (pos + 1) hd w out fr none (σ.add 16)) (mz2 tx N b first st 29 pos hd w out fr (some false) (σ.add 16)) := by
  show (if pos ≥ N then _ else _) = _
  by_cases h : pos ≥ N
  · rw [if_pos h, if_pos h]; rfl
  · rw [if_neg h, if_neg h]
    show (match (Except.ok ((tx.getD pos 0 == 10), σ.add 16) : Except String (Bool × Sre.Seen)) with | .error why => _ | .ok (false, seen) => _ | .ok (true, seen) => _) = _
    cases tx.getD pos 0 == 10 <;> rfl
theorem lit29_y (h : pos < N) (hc : tx.getD pos 0 = 10) : (mz2 tx N b first st 29 pos hd w out fr none σ).step = mz2 tx N b first st 31 (pos + 1) hd w out fr none (σ.add 16) := by
  rw [lit29, if_neg (by exact Nat.not_le_of_lt h), hc]; rfl
theorem lit29_n (hc : ¬ (pos < N ∧ tx.getD pos 0 = 10)) : (mz2 tx N b first st 29 pos hd w out fr none σ).step = mz2 tx N b first st 29 pos hd w out fr (some false) (σ.add 16) := by
  rw [lit29]
  by_cases h : pos ≥ N
  · rw [if_pos h]
  · rw [if_neg h]
    have : (tx.getD pos 0 == 10) = false := by
      cases q : (tx.getD pos 0 == 10) with
      | false => rfl
      | true => exact absurd ⟨by exact Nat.lt_of_not_le ‹_›, by simpa using q⟩ hc
    rw [this]; rfl
theorem jmp16 : (mz2 tx N b first st 16 pos hd w out fr none σ).step = mz2 tx N b first st 35 pos hd w out fr none (σ.add 15) := rfl
theorem jmp21 : (mz2 tx N b first st 21 pos hd w out fr none σ).step = mz2 tx N b first st 35 pos hd w out fr none (σ.add 15) := rfl
theorem jmp32 : (mz2 tx N b first st 32 pos hd w out fr none σ).step = mz2 tx N b first st 35 pos hd w out fr none (σ.add 15) := rfl
theorem br10 : (mz2 tx N b first st 10 pos hd 1 out fr none σ).step = mz2 tx N b first st 12 pos pos 2 out (fB pos 11 out :: fr) none (σ.add 7) := rfl
theorem brR11 (pos0 pos1 : Nat) : (mz2 tx N b first st pos0 pos1 hd 2 out (fB pos 11 first :: fr) (some false) σ).step = mz2 tx N b first st 19 pos pos 2 first (fB pos 18 first :: fr) none σ := rfl
theorem brR18 (pos0 pos1 : Nat) : (mz2 tx N b first st pos0 pos1 hd 2 out (fB pos 18 first :: fr) (some false) σ).step = mz2 tx N b first st 24 pos pos 2 first (fB pos 23 first :: fr) none σ := rfl
theorem brY (pos0 pos1 alt : Nat) : (mz2 tx N b first st pos0 pos1 hd 2 out (fB pos alt first :: fr) (some true) σ).step = mz2 tx N b first st alt pos hd 1 first fr (some true) σ := rfl
theorem stY (pos0 pos1 : Nat) : (mz2 tx N b first st pos0 pos1 hd 1 out [fS pos first] (some true) σ).step = mz2 tx N b first st 10 pos hd 0 first [] (some true) σ := rfl
theorem look26 : (mz2 tx N b first st 26 (pos + 1) hd 2 out fr none σ).step = mz2 tx N b first st 29 (pos + 1) (pos + 1) 3 false (fL (pos + 1) out :: fr) none (σ.add 5) := rfl
theorem lookR (pos0 pos1 : Nat) : (mz2 tx N b first st pos0 pos1 hd 3 out (fL pos first :: fr) (some false) σ).step = mz2 tx N b first st 32 pos hd 2 first fr none σ := rfl
theorem suc35 (hb : st < pos) : (mz2 tx N b first st 35 pos hd w out fr none σ).step = mz2 tx N b first st 35 pos pos w out fr (some true) (σ.add 1) := by
  show (if (out && (false && pos != N || b && pos == st)) = true then _ else _) = _
  rw [if_neg (by have : (pos == st) = false := by simp; exact Nat.ne_of_gt ‹_›
                 rw [this]; simp)]
  rfl
theorem endY (pos0 pos1 : Nat) : (mz2 tx N b first st pos0 pos1 hd 0 out [] (some true) σ).step = { mz2 tx N b first st pos0 pos1 hd 0 out [] (some true) σ with outcome := some .matched } := rfl
end
noncomputable def len2 (tx : Array Nat) (N q : Nat) : Nat := if tx.getD q 0 = 13 ∧ q + 1 < N ∧ tx.getD (q + 1) 0 = 10 then 2 else 1
theorem att2 (tx : Array Nat) (N : Nat) (b first : Bool) (p : Nat) (σ : Sre.Seen) (hp : p < N) (hc : tx.getD p 0 = 10 ∨ tx.getD p 0 = 13) : ∃ n mf, n ≤ 40 ∧ iterM n (mz2 tx N b first p 10 p p 1 first [fS p first] none σ) = mf ∧ mf.outcome = some .matched ∧ mf.start = p ∧ mf.handed = p + len2 tx N p := by
  have fin : ∀ alt pos hd σ, hd = p + len2 tx N p → ∃ mf, iterM 3 (mz2 tx N b first p 35 pos hd 2 first (fB p alt first :: [fS p first]) (some true) σ) = mf ∧ mf.outcome = some .matched ∧ mf.start = p ∧ mf.handed = p + len2 tx N p := fun alt pos hd σ h =>
    ⟨_, by rw [iterM_step 2 (brY ..), iterM_step 1 (stY ..), iterM_step 0 (endY ..)], rfl, rfl, h⟩
  by_cases h13 : tx.getD p 0 = 13
  · by_cases h2 : p + 1 < N ∧ tx.getD (p + 1) 0 = 10
    · have hl : len2 tx N p = 2 := if_pos ⟨h13, h2⟩
      obtain ⟨mf, e, f⟩ := fin 11 (p + 1 + 1) (p + 1 + 1) _ (by rw [hl])
      refine ⟨8, mf, by decide, ?_, f⟩
      rw [iterM_step 7 (br10 ..), iterM_step 6 (lit12_y _ _ _ _ _ _ _ _ _ _ _ hp h13), iterM_step 5 (lit14_y _ _ _ _ _ _ _ _ _ _ _ h2.1 h2.2), iterM_step 4 (jmp16 ..), iterM_step 3 (suc35 _ _ _ _ _ _ _ _ _ _ _ (by exact ar28 _))]
      exact e
    · have hl : len2 tx N p = 1 := if_neg fun x => h2 x.2
      have hn10 : ¬ (p < N ∧ tx.getD p 0 = 10) := fun x => by exact lc (lR1 _) (.d z0 (lN 13) (.e z0 (lN 10) .f)) lT h13 x.2
      obtain ⟨mf, e, f⟩ := fin 23 (p + 1) (p + 1) _ (by rw [hl])
      refine ⟨15, mf, by decide, ?_, f⟩
      rw [iterM_step 14 (br10 ..), iterM_step 13 (lit12_y _ _ _ _ _ _ _ _ _ _ _ hp h13), iterM_step 12 (lit14_n _ _ _ _ _ _ _ _ _ _ _ h2), iterM_step 11 (brR11 ..), iterM_step 10 (lit19_n _ _ _ _ _ _ _ _ _ _ _ hn10), iterM_step 9 (brR18 ..),
        iterM_step 8 (lit24_y _ _ _ _ _ _ _ _ _ _ _ hp h13), iterM_step 7 (look26 ..), iterM_step 6 (lit29_n _ _ _ _ _ _ _ _ _ _ _ h2), iterM_step 5 (lookR ..), iterM_step 4 (jmp32 ..), iterM_step 3 (suc35 _ _ _ _ _ _ _ _ _ _ _ (by exact Nat.lt_succ_self _))]
      exact e
  · have h10 : tx.getD p 0 = 10 := hc.resolve_right h13
    have hl : len2 tx N p = 1 := if_neg fun x => h13 x.1
    obtain ⟨mf, e, f⟩ := fin 18 (p + 1) (p + 1) _ (by rw [hl])
    refine ⟨9, mf, by decide, ?_, f⟩
    rw [iterM_step 8 (br10 ..), iterM_step 7 (lit12_n _ _ _ _ _ _ _ _ _ _ _ (fun x => h13 x.2)), iterM_step 6 (brR11 ..), iterM_step 5 (lit19_y _ _ _ _ _ _ _ _ _ _ _ hp h10), iterM_step 4 (jmp21 ..), iterM_step 3 (suc35 _ _ _ _ _ _ _ _ _ _ _ (by exact Nat.lt_succ_self _))]
    exact e
noncomputable def hit2 (tx : Array Nat) (q : Nat) : Bool := tx.getD q 0 == 10 || tx.getD q 0 == 13
theorem set2 (c : Nat) (σ : Sre.Seen) : Sre.inSet code2 c 36 5 true σ = .ok ((c == 10 || c == 13), if (c == 10) = true then σ.add 16 else if (c == 13) = true then (σ.add 16).add 16 else ((σ.add 16).add 16).add 0) := by
  show (if (c == 10) = true then _ else (if (c == 13) = true then _ else _)) = _
  by_cases h1 : (c == 10) = true
  · rw [if_pos h1, if_pos h1, h1]; rfl
  · rw [if_neg h1, if_neg h1]
    by_cases h2 : (c == 13) = true
    · rw [if_pos h2, if_pos h2, h2]; simp only [Bool.not_eq_true] at h1; rw [h1]; rfl
    · rw [if_neg h2, if_neg h2]; simp only [Bool.not_eq_true] at h1 h2; rw [h1, h2]; rfl
theorem adm2 (m : M) (hc : m.code = code2) : ∀ (k s : Nat) (σ : Sre.Seen), s + k = m.lim + 1 → (∃ σ' q, M.admitted m k s σ = .ok (some q, σ') ∧ s ≤ q ∧ q < m.lim ∧ hit2 m.text q = true ∧ ∀ r, s ≤ r → r < q → hit2 m.text r = false) ∨ (∃ σ', M.admitted m k s σ = .ok (none, σ') ∧ ∀ r, s ≤ r → r < m.lim → hit2 m.text r = false)
  | 0, s, σ, h => .inr ⟨σ, rfl, fun r a b => by exact False.elim (lc (lR3 _ _ _) (.d (lA z0 (lN 0)) (lS z1) (.h z0 z2 (.h (lS z2) z1 .f))) lT h a b)⟩
  | k + 1, s, σ, h => by
    by_cases hs : s ≥ m.lim
    · exact .inr ⟨σ, by rw [M.admitted, if_pos hs], fun r a b => by exact False.elim (lc (lR3 _ _ _) (.h z0 z1 (.h z1 z2 (.h (lS z2) z0 .f))) lT hs a b)⟩
    · rw [M.admitted, if_neg hs, hc]
      rw [show code2.size = 36 from rfl, set2]
      cases hh : hit2 m.text s with
      | true =>
        have hh' := hh
        unfold hit2 at hh'
        rw [hh']
        exact .inl ⟨_, s, rfl, Nat.le_refl _, by exact Nat.lt_of_not_le ‹_›, hh, fun r a b => by exact False.elim (lc (lR2 _ _) (.h z0 z1 (.h (lS z1) z0 .f)) lT a b)⟩
      | false =>
        have hh' := hh
        unfold hit2 at hh'
        rw [hh']
        have up : ∀ r, s ≤ r → r ≠ s → s + 1 ≤ r := fun r a b => Nat.lt_of_le_of_ne a (Ne.symm b)
        rcases adm2 m hc k (s + 1) _ (by exact ar22 ‹_›) with ⟨σ', q, e, h1, h2, h3, h4⟩ | ⟨σ', e, h1⟩
        · exact .inl ⟨σ', q, e, by exact ar17 ‹_›, h2, h3, fun r a b => if hr : r = s then hr ▸ hh else h4 r (up r a hr) b⟩
        · exact .inr ⟨σ', e, fun r a b => if hr : r = s then hr ▸ hh else h1 r (up r a hr) b⟩
noncomputable def Found2 (tx : Array Nat) (N p : Nat) (mf : M) : Prop :=
  (∃ q, p ≤ q ∧ q < N ∧ hit2 tx q = true ∧ (∀ r, p ≤ r → r < q → hit2 tx r = false) ∧ mf.outcome = some .matched ∧ mf.start = q ∧ mf.handed = q + len2 tx N q) ∨ ((∀ r, p ≤ r → r < N → hit2 tx r = false) ∧ mf.outcome = some .failed)
theorem search2 (tx : Array Nat) (N p : Nat) (must : Bool) : ∃ n mf, n ≤ 4 * (2 ^ 64 - 1) ∧ iterM n (Sre.forSearch code2 tx 0 p N must) = mf ∧ (p ≤ N → Found2 tx N p mf) ∧ mf.outcome.isSome = true := by
  have m0 : ∀ σ, M.step { code := code2, text := tx, lim := N, start := p, lastStart := N, pc := 10, pos := p, handed := p, marks := #[], mustAdvance := must, seen := σ, answer := some false } = { code := code2, text := tx, lim := N, start := p, lastStart := N, pc := 10, pos := p, handed := p, marks := #[], mustAdvance := must, seen := σ, answer := some false, outcome := some .failed } := fun σ => rfl
  by_cases h : p < N
  · have e0 : Sre.forSearch code2 tx 0 p N must = M.attemptFrom { code := code2, text := tx, lim := N, start := p, lastStart := N, pc := 10, pos := p, handed := p, marks := #[], mustAdvance := must, seen := (({} : Sre.Seen)).add 14 } p true := by
      show (if (decide (p > N) || decide (N - p < 1)) = true then _ else _) = _
      rw [if_neg (by simp; exact ⟨lc (lR2 _ _) (.h (lS z0) z1 (.g z0 z1)) lT h, fun e => lc (lR3 _ _ _) (.h (lS z0) z1 (.h z1 (lA z2 z0) (.e z2 (lN 0) .f))) lT h (lU _ _) e⟩)]
      rfl
    have e1 : Sre.forSearch code2 tx 0 p N must = (match M.admitted { code := code2, text := tx, lim := N, start := p, lastStart := N, pc := 10, pos := p, handed := p, marks := #[], mustAdvance := must, seen := (({} : Sre.Seen)).add 14 } (N + 1 - p) p ((({} : Sre.Seen)).add 14) with
      | .ok (some s, seen) => M.attemptAt { code := code2, text := tx, lim := N, start := p, lastStart := N, pc := 10, pos := p, handed := p, marks := #[], mustAdvance := false, seen := seen } s true
      | .ok (none, seen) => M.say { code := code2, text := tx, lim := N, start := p, lastStart := N, pc := 10, pos := p, handed := p, marks := #[], mustAdvance := must, seen := seen } false
      | .error why => M.stick { code := code2, text := tx, lim := N, start := p, lastStart := N, pc := 10, pos := p, handed := p, marks := #[], mustAdvance := must, seen := (({} : Sre.Seen)).add 14 } why) := by
      rw [e0]; rfl
    rw [e1]
    rcases adm2 { code := code2, text := tx, lim := N, start := p, lastStart := N, pc := 10, pos := p, handed := p, marks := #[], mustAdvance := must, seen := (({} : Sre.Seen)).add 14 } rfl (N + 1 - p) p ((({} : Sre.Seen)).add 14) (by show p + (N + 1 - p) = N + 1; exact Nat.le_antisymm (lc (lR3 _ _ _) (.e (lA z0 z1) (lS z2) (.g (lA z1 z0) (lS z2))) lT (Nat.sub_add_cancel (lc (lR2 _ _) (.h (lS z0) z1 (.g z0 (lS z1))) lT h))) (lc (lR3 _ _ _) (.h (lS z0) (lA z1 z2) (.g (lS z0) (lA z2 z1))) lT (lU _ _))) with ⟨σ', q, e, h1, h2, h3, h4⟩ | ⟨σ', e, h1⟩
    · rw [e]
      obtain ⟨n, mf, hn, e2, ff1, ff2, ff3⟩ := att2 tx N false true q σ' h2 (by
        have h3' : (tx.getD q 0 == 10 || tx.getD q 0 == 13) = true := h3
        simpa using h3')
      exact ⟨n, mf, by exact ar2 ‹_› (by decide), e2, fun _ => .inl ⟨q, h1, h2, h3, h4, ff1, ff2, ff3⟩, by rw [ff1]; rfl⟩
    · rw [e]
      exact ⟨1, _, by decide, m0 σ', fun _ => .inr ⟨h1, rfl⟩, rfl⟩
  · have e : Sre.forSearch code2 tx 0 p N must = { code := code2, text := tx, lim := N, start := p, pc := 10, pos := p, handed := p, marks := #[], mustAdvance := must, seen := (({} : Sre.Seen)).add 14, answer := some false } := by
      show (if (decide (p > N) || decide (N - p < 1)) = true then _ else _) = _
      rw [if_pos (by simp; exact Or.inr (Nat.le_antisymm (lc (lR1 _) (.e z0 (lN 0) (.g z0 (lN 0))) lT (Nat.sub_eq_zero_of_le (Nat.ge_of_not_lt h))) (lc (lR1 _) (.g (lN 0) z0) lT)))]
      rfl
    exact ⟨1, { code := code2, text := tx, lim := N, start := p, pc := 10, pos := p, handed := p, marks := #[], mustAdvance := must, seen := (({} : Sre.Seen)).add 14, answer := some false, outcome := some .failed }, by decide, by rw [e]; rfl, fun _ => .inr ⟨fun r a b => by exact False.elim (lc (lR3 _ _ _) (.h z0 z1 (.h z1 z2 (.h (lS z2) z0 .f))) lT (Nat.ge_of_not_lt h) a b), rfl⟩, rfl⟩

end
-- Q1
section
open PySem PySem.W PyProof.Rows PySem.Calls PySem.Spec PySem.Builtin.Str
structure Pat (h : Heap) (pat ct : Addr) (ws : Array Value) (t2 t6 : Tok) (f0 f1 : Value) : Prop where
  p : h.get? pat = some ⟨.type "re.Pattern", none, .fields #[f0, f1, .int 0 t2, .none, .none, .ref ct, .int 0 t6], #[]⟩
  c : h.get? ct = some ⟨.type "tuple", none, .seq ws 0, #[]⟩
theorem Pat.keeps {h h' : Heap} {pat ct : Addr} {ws : Array Value} {t2 t6 : Tok} {f0 f1 : Value} (x : Pat h pat ct ws t2 t6 f0 f1) (k : Ext h h') : Pat h' pat ct ws t2 t6 f0 f1 := ⟨k _ _ x.p, k _ _ x.c⟩
theorem ksk_fold' {M : Model} {A : Around} {E : Value → Shared → Prop} {α : Type} {body : α → PUnit → Sem (ForInStep PUnit)} {Q : PUnit → Shared → Prop} (I : Shared → Prop) : ∀ (vs : List α) (s : Shared), I s →
    (∀ x s', I s' → wpAny M A (body x ⟨⟩) (fun r s'' => r = .yield ⟨⟩ ∧ I s'') E s') → (∀ s', I s' → Q ⟨⟩ s') → wpAny M A (forIn vs PUnit.unit body) Q E s
  | [], s, hI, _, done => by
    rw [List.forIn_nil]
    exact wpAny_pure (done s hI)
  | x :: vs, s, hI, step, done => by
    rw [List.forIn_cons]
    refine wpAny_bind (wpAny_mono (step x s hI) (fun r s' h' => ?_) fun _ _ e => e)
    obtain ⟨rfl, hI'⟩ := h'
    exact ksk_fold' I vs s' hI' step done
theorem reRun {M : Model} {A : Around} {E : Value → Shared → Prop} {s : Shared} {Q : Option Sre.M → Shared → Prop} {m mf : Sre.M} {n : Nat} (hn : n ≤ 4 * (2 ^ 64 - 1)) (e : iterM n m = mf) (h : (mf.outcome = some .matched ∧ Q (some mf) s) ∨ (mf.outcome = some .failed ∧ Q none s)) :
    wpAny M A (Builtin.Re.reRunToEnd m) Q E s := by
  unfold Builtin.Re.reRunToEnd
  refine wpAny_bind ?_
  rw [show (2 : Nat) ^ 64 = (2 ^ 64 - 1) + 1 from rfl]
  have ho : mf.outcome.isSome = true := by rcases h with ⟨a, _⟩ | ⟨a, _⟩ <;> rw [a] <;> rfl
  refine reDrive_run ho ?_ (2 ^ 64 - 1) n m e hn
  refine wpAny_bind (ksk_fold' (fun s' => s' = s) _ s rfl (fun x s' hs => ?_) fun s' hs => ?_)
  · subst hs
    split
    · exact wpAny_bind (wpAny_rule (wpAny_pure ⟨rfl, rfl⟩))
    · exact wpAny_pure ⟨rfl, rfl⟩
  · subst hs
    rcases h with ⟨a, b⟩ | ⟨a, b⟩
    · rw [a]; exact wpAny_pure b
    · rw [a]; exact wpAny_pure b
theorem rb1 : builtinKind "re.Pattern.sub" = some .method := by decide +kernel
theorem rb2 : splitId "re.Pattern.sub" = some ("re.Pattern", "sub") := by decide +kernel
theorem rb3 : isSubtype (.type "re.Pattern") (.type "re.Pattern") = pure true := by kernel_rfl
theorem rb4 : typeLookup (.type "str") (Str.ofString "__call__") = pure none := by rw [typeLookup_type, builtinLookup_eq_fast]; kernel_rfl
theorem pushD {M : Model} {A : Around} {E : Value → Shared → Prop} {h : Heap} {g : Array GenState} {d : Drawn} {t : Nat} {os : OsState} {D : Addr} {vs : List Value} {c : Nat} {v : Value} {Q : Unit → Shared → Prop} (hD : h.get? D = some (seqObj "list" vs.toArray c)) (hz : vs.length ≤ 5000)
    (hq : ∀ h' c', (ExtB D h h') → h'.get? D = some (seqObj "list" (vs ++ [v]).toArray c') → Q () ⟨h', g, d, t, os⟩) : wpAny M A (updateSeq D fun x => x.push v) Q E ⟨h, g, d, t, os⟩ := by
  obtain ⟨c2, hc2⟩ : ∃ c2, (h.update D (Obj.mapSeq (·.push v))).get? D = some (seqObj "list" (vs.toArray.push v) c2) := ⟨_, get?_update_seq hD (·.push v)⟩
  refine wpAny_updateSeq hD rfl ?_ (by rw [List.size_toArray, sizeLine_eq]; exact ar2 ‹_› (by decide)) (by show (vs.toArray.push v).size ≤ _; rw [Array.size_push, List.size_toArray, sizeLine_eq]; exact ar5 ‹_› (by decide))
  refine hq _ c2 (fun b o hb e => ((Heap.SameBut.update h D (Obj.mapSeq (·.push v))).2 b hb).trans e) ?_
  rw [hc2]
  simp
noncomputable def cat (l : List Str) : List Nat := l.flatMap fun y => y.cps.toList
theorem cat_snoc (l : List Str) (y : Str) : cat (l ++ [y]) = cat l ++ y.cps.toList := by simp [cat]
theorem glue_fold (e : Str) (he : e.cps = #[]) : ∀ (l : List Str) (a : Array Nat), (l.foldl (fun acc p => acc ++ e.cps ++ p.cps) a).toList = a.toList ++ cat l
  | [], a => by simp [cat]
  | y :: l, a => by
    rw [List.foldl_cons, glue_fold e he l]
    simp [he, cat]
theorem join_cat (e : Str) (he : e.cps = #[]) (l : List Str) : Txt.join e l = ⟨(cat l).toArray⟩ := by
  unfold Txt.join Builtin.Str.glued
  congr 1
  apply Array.toList_inj.mp
  rw [glue_fold e he]
  cases l with
  | nil => rfl
  | cons y l => simp [cat]
theorem strsAre_snoc {vs : List Value} {ss : List Str} (h : StrsAre vs ss) (x : Str) (t : Tok) : StrsAre (vs ++ [.str x t]) (ss ++ [x]) := by
  induction h with
  | nil => exact .cons x t .nil
  | cons y u _ ih => exact .cons y u ih
noncomputable abbrev slc (x : Str) (a b : Nat) : Str := ⟨x.cps.extract a b⟩
theorem slc_len (x : Str) {a b : Nat} (hb : b ≤ x.cps.size) : (slc x a b).length = b - a := by show (x.cps.extract a b).size = _; rw [Array.size_extract]; lia
theorem slc_list (x : Str) (a b : Nat) : (slc x a b).cps.toList = (x.cps.toList.drop a).take (b - a) := by
  show (x.cps.extract a b).toList = _
  simp [List.extract_eq_take_drop]
end
section
set_option maxRecDepth 100000 in
set_option maxHeartbeats 4000000 in
theorem subloop {w : World} {A : Around} {Q : Value → Shared → Prop} {E : Value → Shared → Prop} {g : Array GenState} {d : Drawn} {os : OsState} {pat ct D : Addr} {ws : Array Value} {t2 t6 tr tx : Tok} {f0 f1 : Value} {r x : Str} {code : Array Nat} {nxt : Nat → Option Nat} {len : Nat → Nat} {tail : Nat → List Nat} {h₀ : Heap}
  (hcode : (ws.map Builtin.Re.reRawOf).map (·.toNat) = code) (hx : x.cps.size ≤ 1000)
  (hs : ∀ p must, p ≤ x.cps.size → Ex2 fun n mf => And3 (n ≤ 4 * (2 ^ 64 - 1)) (iterM n (Sre.forSearch code x.cps 0 p x.cps.size must) = mf) (((∃ q, And7 (nxt p = some q) (p ≤ q) (1 ≤ len q) (q + len q ≤ x.cps.size) (mf.outcome = some .matched) (mf.start = q) (mf.handed = q + len q)) ∨ (nxt p = none ∧ mf.outcome = some .failed))))
  (hr : r.length ≤ 2) (ht0 : ∀ p, nxt p = none → tail p = x.cps.toList.drop p) (ht1 : ∀ p q, p ≤ x.cps.size → nxt p = some q → tail p = (slc x p q).cps.toList ++ (r.cps.toList ++ tail (q + len q)))
  (hq : ∀ h' tk t', (Ext h₀ h') → Q (.str ⟨(tail 0).toArray⟩ t') ⟨h', g, d, tk, os⟩)
  (hD₀ : h₀.get? D = none) (P₀ : Pat h₀ pat ct ws t2 t6 f0 f1) :
   ∀ (k p n : Nat) (must : Bool) (h : Heap) (t : Nat) (vs : List Value) (acc : List Str) (c : Nat), p + k = x.cps.size → (Ext h₀ h) → h.get? D = some (seqObj "list" vs.toArray c) → StrsAre vs acc → vs.length ≤ 2 * p → (acc.map (·.length)).sum ≤ 3 * p → cat acc ++ tail p = tail 0 →
   codeAny (model PG w) A (.builtin "re.Pattern.sub.loop" ⟨[.ref pat, .str x tx, .str r tr, rawInt 0, rawInt 0, rawInt n, rawInt p, rawInt p, .bool must, .ref D, .bool false], []⟩) (fun r s' => match r with | .ok (.ret v) => Q v s' | .ok _ => False | .error e => E e s') ⟨h, g, d, t, os⟩ := by
  intro k
  induction k using Nat.strongRecOn with
  | _ k ih =>
  intro p n must h t vs acc c hp hk hD hv hvl hsum hcat
  have keepD : ∀ (h' h'' : Heap), (Ext h₀ h') → (ExtB D h' h'') → Ext h₀ h'' := fun h' h'' a b c o e => b c o (fun q => by rw [q, hD₀] at e; cases e) (a c o e)
  have eP := hk _ _ P₀.p
  have eC := hk _ _ P₀.c
  refine codeAny_builtin (entryFor_of_fast (b := Builtin.«re.Pattern.sub.loop») (by kernel_rfl)) ?_
  wtm_at "sc"
  (repeat (k_call_by "nt" [Builtin.Re.reRunToEnd .., updateSeq ..]; wtm_at "wone"))
  dsimp only
  rw [show Builtin.Re.reRawNat ((#[f0, f1, Value.int 0 t2, Value.none, Value.none, Value.ref ct, Value.int 0 t6] : Array Value).getD 2 Value.none) = 0 from rfl, Option.getD_some, hcode, Int.toNat_natCast]
  obtain ⟨n', mf, hn', e, hf⟩ := hs p must (by exact lc (lR3 _ _ _) (.e (lA z0 z1) z2 (.g z0 z2)) lT hp)
  refine reRun hn' e ?_
  rcases hf with ⟨q, hq1, hpq, hl, hle, ho, hst, hhd⟩ | ⟨hq0, ho⟩
  · refine .inl ⟨ho, ?_⟩
    wtm_at "sc"
    (repeat (k_call_by "nt" [Builtin.Re.reRunToEnd .., updateSeq ..]; wtm_at "wone"))
    rw [hst, hhd]
    have big : ∀ a b, ¬ (slc x a b).length > sizeLine := fun a b => by
      show ¬ (x.cps.extract a b).size > sizeLine
      rw [Array.size_extract, sizeLine_eq]; exact Nat.not_lt_of_le (lc (lR3 _ _ _) (.h z0 (lN 1000) (.h z1 z2 (.h z2 z0 (.g z1 (lN 16777216))))) lT hx (Nat.sub_le _ _) (Nat.min_le_right _ _))
    by_cases hlt : p < q
    · rw [if_pos hlt]
      wtm_at "sc"
      (repeat (k_call_by "nt" [Builtin.Re.reRunToEnd .., updateSeq ..]; wtm_at "wone"))
      rw [if_neg (big p q)]
      wtm_at "sc"
      refine pushD hD (by exact lc (lR4 _ _ _ _) (.h z0 (lN 1000) (.h z0 (lN 1000) (.e (lA z1 z2) z0 (.e (lA z1 z2) z0 (.h z3 (lM 2 z1) (.g z3 (lN 5000))))))) lT hx hx hp hp hvl) fun h1 c1 k1 e1 => ?_
      have hv1 := strsAre_snoc hv (slc x p q) t
      have hs1 : ((acc ++ [slc x p q]).map (·.length)).sum = (acc.map (·.length)).sum + (q - p) := by
        rw [List.map_append, List.sum_append, List.map_cons, List.map_nil, List.sum_cons, List.sum_nil, slc_len x (by exact lc (lR3 _ _ _) (.h (lA z0 z1) z2 (.g z0 z2)) lT hle)]; rfl
      wtm_at "sc"
      (repeat (k_call_by "nt" [Builtin.Re.reRunToEnd .., updateSeq ..]; wtm_at "wone"))
      refine pushD e1 (by rw [List.length_append]; simp only [List.length_cons, List.length_nil]; exact lc (lR4 _ _ _ _) (.h z0 (lN 1000) (.h z0 (lN 1000) (.e (lA z1 z2) z0 (.e (lA z1 z2) z0 (.h z3 (lM 2 z1) (.g (lA z3 (lS (lN 0))) (lN 5000))))))) lT hx hx hp hp hvl) fun h2 c2 k2 e2 => ?_
      wtm_at "sc"
      (repeat (k_call_by "nt" [Builtin.Re.reRunToEnd .., updateSeq ..]; wtm_at "wone"))
      refine ⟨Code.quiet_builtin _ (by decide +kernel), ?_⟩
      refine ih (x.cps.size - (q + len q)) (by exact lc (lR6 _ _ _ _ _ _) (.d (lA z0 z1) z2 (.h (lS z0) z3 (.e (lA z4 (lA z3 z5)) z2 (.g (lS z4) z1)))) lT hp hlt (Nat.sub_add_cancel hle)) (q + len q) (n + 1) _ h2 _ _ ((acc ++ [slc x p q]) ++ [r]) c2 (by exact ar33 ‹_›) (keepD _ _ (keepD _ _ hk k1) k2) e2 (strsAre_snoc hv1 r tr) (by simp only [List.length_append, List.length_cons, List.length_nil]; exact lc (lR4 _ _ _ _) (.h z0 (lM 2 z1) (.h (lS z1) z2 (.h (lS z1) z2 (.g (lA (lA z0 (lS (lN 0))) (lS (lN 0))) (lM 2 (lA z2 z3)))))) lT hvl hlt hlt) ?_ ?_
      · rw [List.map_append, List.sum_append, hs1]; simp only [List.map_cons, List.map_nil, List.sum_cons, List.sum_nil]; exact lc (lR6 _ _ _ _ _ _) (.h z0 (lN 2) (.h z1 (lM 3 z2) (.h (lS z2) z3 (.h (lS z2) z3 (.e (lA z4 z2) z3 (.g (lA (lA z1 z4) (lA z0 (lN 0))) (lM 3 (lA z3 z5)))))))) lT hr hsum hlt hlt (Nat.sub_add_cancel (lc (lR2 _ _) (.h (lS z0) z1 (.g z0 z1)) lT hlt))
      · rw [cat_snoc, cat_snoc, List.append_assoc, List.append_assoc, ← ht1 p q (by exact lc (lR3 _ _ _) (.e (lA z0 z1) z2 (.g z0 z2)) lT hp) hq1]; exact hcat
    · rw [if_neg hlt]
      have hpq' : p = q := by exact ar25 ‹_› ‹_›
      wtm_at "sc"
      (repeat (k_call_by "nt" [Builtin.Re.reRunToEnd .., updateSeq ..]; wtm_at "wone"))
      refine pushD hD (by exact lc (lR4 _ _ _ _) (.h z0 (lN 1000) (.h z0 (lN 1000) (.e (lA z1 z2) z0 (.e (lA z1 z2) z0 (.h z3 (lM 2 z1) (.g z3 (lN 5000))))))) lT hx hx hp hp hvl) fun h2 c2 k2 e2 => ?_
      wtm_at "sc"
      (repeat (k_call_by "nt" [Builtin.Re.reRunToEnd .., updateSeq ..]; wtm_at "wone"))
      refine ⟨Code.quiet_builtin _ (by decide +kernel), ?_⟩
      refine ih (x.cps.size - (q + len q)) (by exact lc (lR6 _ _ _ _ _ _) (.d (lA z0 z1) z2 (.h z0 z3 (.h (lN 1) z4 (.e (lA z5 (lA z3 z4)) z2 (.g (lS z5) z1))))) lT hp hpq hl (Nat.sub_add_cancel hle)) (q + len q) (n + 1) _ h2 _ _ (acc ++ [r]) c2 (by exact ar33 ‹_›) (keepD _ _ hk k2) e2 (strsAre_snoc hv r tr) (by simp only [List.length_append, List.length_cons, List.length_nil]; exact lc (lR4 _ _ _ _) (.h z0 (lM 2 z1) (.h z1 z2 (.h z1 z2 (.h (lN 1) z3 (.g (lA z0 (lS (lN 0))) (lM 2 (lA z2 z3))))))) lT hvl hpq hpq hl) ?_ ?_
      · rw [List.map_append, List.sum_append]; simp only [List.map_cons, List.map_nil, List.sum_cons, List.sum_nil]; exact lc (lR5 _ _ _ _ _) (.h z0 (lN 2) (.h z1 (lM 3 z2) (.h z2 z3 (.h z2 z3 (.h z2 z3 (.h (lN 1) z4 (.h (lN 1) z4 (.g (lA z1 (lA z0 (lN 0))) (lM 3 (lA z3 z4)))))))))) lT hr hsum hpq hpq hpq hl hl
      · have e0 := ht1 p q (by exact lc (lR3 _ _ _) (.e (lA z0 z1) z2 (.g z0 z2)) lT hp) hq1
        rw [slc_list, hpq', Nat.sub_self, List.take_zero, List.nil_append] at e0
        rw [cat_snoc, List.append_assoc, ← e0, ← hpq']; exact hcat
  · refine .inr ⟨ho, ?_⟩
    wtm_at "sc"
    (repeat (k_call_by "nt" [Builtin.Re.reRunToEnd .., updateSeq ..]; wtm_at "wone"))
    have big : ∀ a b, ¬ (slc x a b).length > sizeLine := fun a b => by
      show ¬ (x.cps.extract a b).size > sizeLine
      rw [Array.size_extract, sizeLine_eq]; exact Nat.not_lt_of_le (lc (lR3 _ _ _) (.h z0 (lN 1000) (.h z1 z2 (.h z2 z0 (.g z1 (lN 16777216))))) lT hx (Nat.sub_le _ _) (Nat.min_le_right _ _))
    have he0 : (slc x 0 0).cps = #[] := by show x.cps.extract 0 0 = #[]; simp
    have e0 := ht0 p hq0
    by_cases hlt : p < x.cps.size
    · rw [if_pos hlt]
      wtm_at "sc"
      (repeat (k_call_by "nt" [Builtin.Re.reRunToEnd .., updateSeq ..]; wtm_at "wone"))
      rw [if_neg (big p x.cps.size)]
      wtm_at "sc"
      refine pushD hD (by exact lc (lR4 _ _ _ _) (.h z0 (lN 1000) (.h z0 (lN 1000) (.e (lA z1 z2) z0 (.e (lA z1 z2) z0 (.h z3 (lM 2 z1) (.g z3 (lN 5000))))))) lT hx hx hp hp hvl) fun h1 c1 k1 e1 => ?_
      have hv1 := strsAre_snoc hv (slc x p x.cps.size) t
      wtm_at "sc"
      (repeat (k_call_by "nt" [Builtin.Re.reRunToEnd .., updateSeq ..]; wtm_at "wone"))
      rw [if_neg (big 0 0)]
      wtm_at "sc"
      (repeat (k_call_by "nt" [Builtin.Re.reRunToEnd .., updateSeq ..]; wtm_at "wone"))
      refine wpAny_ite_false (by simp) ?_
      wtm_at "sc"
      (repeat (k_call_by "nt" [Builtin.Re.reRunToEnd .., updateSeq ..]; wtm_at "wone"))
      refine join_list (ys := acc ++ [slc x p x.cps.size]) ⟨_, e1, rfl, _, rfl⟩ (by rw [List.toList_toArray]; exact hv1) ?_ fun t' k' => ?_
      · rw [show (slc x 0 0).length = 0 from by show (slc x 0 0).cps.size = 0; rw [he0]; rfl, List.map_append, List.sum_append]
        simp only [List.map_cons, List.map_nil, List.sum_cons, List.sum_nil, slc_len x (Nat.le_refl _)]
        lia
      · rw [join_cat _ he0, cat_snoc, slc_list]
        have e2 : (x.cps.toList.drop p).take (x.cps.size - p) = tail p := by
          rw [e0, List.take_of_length_le]
          simp
        rw [e2, hcat]
        wtm_at "sc"
        (repeat (k_call_by "nt" [Builtin.Re.reRunToEnd .., updateSeq ..]; wtm_at "wone"))
        exact hq h1 _ _ (keepD _ _ hk k1)
    · rw [if_neg hlt]
      wtm_at "sc"
      (repeat (k_call_by "nt" [Builtin.Re.reRunToEnd .., updateSeq ..]; wtm_at "wone"))
      rw [if_neg (big 0 0)]
      wtm_at "sc"
      (repeat (k_call_by "nt" [Builtin.Re.reRunToEnd .., updateSeq ..]; wtm_at "wone"))
      have hpe : tail p = [] := by
        rw [e0, List.drop_of_length_le]
        simp; exact Nat.le_of_not_lt ‹_›
      rw [hpe, List.append_nil] at hcat
      cases hv with
      | nil =>
        refine wpAny_ite_true (by rfl) ?_
        wtm_at "sc"
        (repeat (k_call_by "nt" [Builtin.Re.reRunToEnd .., updateSeq ..]; wtm_at "wone"))
        show Q (.str (slc x 0 0) t) _
        have : (slc x 0 0) = ⟨(tail 0).toArray⟩ := by
          rw [← hcat]
          show Str.mk (slc x 0 0).cps = _
          rw [he0]; rfl
        rw [this]
        exact hq h _ _ hk
      | cons y u hv' =>
        rename_i vs' ss'
        refine wpAny_ite_false (by simp) ?_
        wtm_at "sc"
        (repeat (k_call_by "nt" [Builtin.Re.reRunToEnd .., updateSeq ..]; wtm_at "wone"))
        refine join_list (ys := y :: ss') ⟨_, hD, rfl, _, rfl⟩ (by rw [List.toList_toArray]; exact .cons y u hv') ?_ fun t' k' => ?_
        · rw [show (slc x 0 0).length = 0 from by show (slc x 0 0).cps.size = 0; rw [he0]; rfl]
          lia
        · rw [join_cat _ he0, hcat]
          wtm_at "sc"
          (repeat (k_call_by "nt" [Builtin.Re.reRunToEnd .., updateSeq ..]; wtm_at "wone"))
          exact hq h _ _ hk

end
-- Q2
section
open PySem PySem.W PyProof.Rows PySem.Calls PySem.Spec PySem.Builtin.Str
noncomputable def nx (hit : Nat → Bool) (N p : Nat) : Option Nat := (List.range' p (N - p)).find? hit
theorem nx_some {hit : Nat → Bool} {N p q : Nat} (h1 : p ≤ q) (h2 : q < N) (h3 : hit q = true) (h4 : ∀ r, p ≤ r → r < q → hit r = false) : nx hit N p = some q := by
  unfold nx
  rw [List.find?_eq_some_iff_append]
  refine ⟨h3, List.range' p (q - p), List.range' (q + 1) (N - (q + 1)), ?_, fun a ha => ?_⟩
  · have : N - p = (q - p) + ((N - (q + 1)) + 1) := by exact Nat.le_antisymm (lc (lR6 _ _ _ _ _ _) (.e (lA z0 z1) z2 (.h z3 (lA z4 z1) (.h z2 (lA z5 (lS z3)) (.g z0 (lA z4 (lS z5)))))) lT (Nat.sub_add_cancel (lc (lR3 _ _ _) (.h z0 z1 (.h (lS z1) z2 (.g z0 z2))) lT h1 h2)) (lU _ _) (lU _ _)) (lc (lR6 _ _ _ _ _ _) (.h z0 (lA z1 z2) (.e (lA z3 z2) z4 (.e (lA z5 (lS z4)) z0 (.g (lA z3 (lS z5)) z1)))) lT (lU _ _) (Nat.sub_add_cancel h1) (Nat.sub_add_cancel h2))
    rw [this, ← List.range'_append_1, List.range'_succ]
    have : p + (q - p) = q := by exact ar33 ‹_›
    rw [this]
  · rw [List.mem_range'_1] at ha
    rw [h4 a (by exact ha.1) (by exact lc (lR4 _ _ _ _) (.h (lS z0) (lA z1 z2) (.e (lA z2 z1) z3 (.g (lS z0) z3))) lT ha.2 (Nat.sub_add_cancel h1))]; rfl
theorem nx_none {hit : Nat → Bool} {N p : Nat} (h : ∀ r, p ≤ r → r < N → hit r = false) : nx hit N p = none := by
  unfold nx
  rw [List.find?_eq_none]
  intro a ha
  rw [List.mem_range'_1] at ha
  rw [h a (by exact ha.1) (by omega)]; simp
theorem nx_sound {hit : Nat → Bool} {N p q : Nat} (h : nx hit N p = some q) : p ≤ q ∧ q < N ∧ hit q = true ∧ ∀ r, p ≤ r → r < q → hit r = false := by
  unfold nx at h
  have hm := List.mem_of_find?_eq_some h
  rw [List.mem_range'_1] at hm
  refine ⟨by exact hm.1, by omega, List.find?_some h, fun r a b => ?_⟩
  obtain ⟨_, as, bs, e, hb⟩ := List.find?_eq_some_iff_append.mp h
  have hr : r ∈ List.range' p (N - p) := by rw [List.mem_range'_1]; exact ⟨a, lc (lR4 _ _ _ _) (.h (lS z0) (lA z1 z2) (.h (lS z3) z0 (.g (lS z3) (lA z1 z2)))) lT hm.2 b⟩
  rw [e] at hr
  rcases List.mem_append.mp hr with hr | hr
  · have := hb r hr; simpa using this
  · exfalso
    have hs : (as ++ q :: bs).Pairwise (· < ·) := by rw [← e]; exact List.pairwise_lt_range'
    rw [List.pairwise_append] at hs
    rcases List.mem_cons.mp hr with rfl | hr
    · exact absurd ‹_› (Nat.lt_irrefl _)
    · have := (List.pairwise_cons.mp hs.2.1).1 r hr; exact lc (lR2 _ _) (.h (lS z0) z1 (.h (lS z1) z0 .f)) lT b this
theorem nx_no {hit : Nat → Bool} {N p : Nat} (h : nx hit N p = none) : ∀ r, p ≤ r → r < N → hit r = false := by
  unfold nx at h
  rw [List.find?_eq_none] at h
  intro r a b
  have := h r (by rw [List.mem_range'_1]; exact ⟨a, lc (lR4 _ _ _ _) (.h (lS z0) z1 (.h z1 (lA z2 z3) (.g (lS z0) (lA z3 z2)))) lT b (lU _ _)⟩)
  simpa using this
theorem plainRun {L : List Nat} {hit : Nat → Bool} {f : Nat → List Nat} (hf : ∀ p, p < L.length → hit p = false → f p = L.getD p 0 :: f (p + 1)) : ∀ (k p : Nat), p + k ≤ L.length → (∀ r, p ≤ r → r < p + k → hit r = false) → f p = (L.drop p).take k ++ f (p + k)
  | 0, p, _, _ => by simp
  | k + 1, p, hk, h => by
    have hp : p < L.length := by exact ar19 ‹_›
    rw [hf p hp (h p (Nat.le_refl _) (by exact ar27 _ _)), plainRun hf k (p + 1) (by exact ar21 ‹_›) (fun r a b => h r (by exact ar17 ‹_›) (by exact lc (lR3 _ _ _) (.h (lS z0) (lA (lS z1) z2) (.g (lS z0) (lA z1 (lS z2)))) lT b)), List.drop_eq_getElem_cons hp, List.take_succ_cons]
    have : p + 1 + k = p + (k + 1) := by exact ar31 _ _
    rw [this]
    simp [hp]
noncomputable def crlf : List Nat → List Nat
  | [] => []
  | 13 :: 10 :: t => 13 :: 10 :: crlf t
  | c :: t => if c = 13 ∨ c = 10 then 13 :: 10 :: crlf t else c :: crlf t
noncomputable def dots : Bool → List Nat → List Nat
  | _, [] => []
  | b, c :: t => (if (b && c == 46) = true then [46, 46] else [c]) ++ dots (c == 10) t
theorem getDA (x : Str) (p : Nat) : x.cps.getD p 0 = x.cps.toList.getD p 0 := by simp [Array.getD_eq_getD_getElem?]
noncomputable def tail2 (x : Str) (p : Nat) : List Nat := crlf (x.cps.toList.drop p)
noncomputable def tail1 (x : Str) (p : Nat) : List Nat := dots (p == 0 || x.cps.getD (p - 1) 0 == 10) (x.cps.toList.drop p)
theorem drop_at {L : List Nat} {p : Nat} (h : p < L.length) : L.drop p = L.getD p 0 :: L.drop (p + 1) := by
  rw [List.drop_eq_getElem_cons h]; simp [h]
theorem t1step (x : Str) (p : Nat) (hp : p < x.cps.toList.length) (h : hit1 x.cps p = false) : tail1 x p = x.cps.toList.getD p 0 :: tail1 x (p + 1) := by
  unfold tail1
  rw [drop_at hp, dots]
  have hh : ((p == 0 || x.cps.getD (p - 1) 0 == 10) && x.cps.toList.getD p 0 == 46) = false := by rw [← getDA]; exact h
  rw [hh, if_neg (by simp), Nat.add_sub_cancel, getDA x p]
  rfl
theorem t2step (x : Str) (p : Nat) (hp : p < x.cps.toList.length) (h : hit2 x.cps p = false) : tail2 x p = x.cps.toList.getD p 0 :: tail2 x (p + 1) := by
  unfold tail2
  rw [drop_at hp]
  have hh : (x.cps.toList.getD p 0 == 10 || x.cps.toList.getD p 0 == 13) = false := by rw [← getDA]; exact h
  simp only [Bool.or_eq_false_iff, beq_eq_false_iff_ne, ne_eq] at hh
  rw [crlf, if_neg (by lia)]
  intro t e
  exact absurd e (by simp; lia)
theorem tdrop {x : Str} {hit : Nat → Bool} {f : Nat → List Nat} (hf : ∀ p, p < x.cps.toList.length → hit p = false → f p = x.cps.toList.getD p 0 :: f (p + 1)) (hN : ∀ p, x.cps.toList.length ≤ p → f p = []) (p : Nat) (h : nx hit x.cps.size p = none) : f p = x.cps.toList.drop p := by
  by_cases hp : p ≤ x.cps.toList.length
  · rw [plainRun hf (x.cps.toList.length - p) p (by exact lc (lR3 _ _ _) (.e (lA z0 z1) z2 (.g (lA z1 z0) z2)) lT (Nat.sub_add_cancel hp)) (fun r a b => nx_no h r a (by rw [← Array.length_toList]; exact lc (lR4 _ _ _ _) (.h (lS z0) (lA z1 z2) (.e (lA z2 z1) z3 (.g (lS z0) z3))) lT b (Nat.sub_add_cancel hp))), hN _ (by exact lc (lR3 _ _ _) (.h z0 (lA z1 z2) (.g z0 (lA z2 z1))) lT (lU _ _)), List.append_nil, List.take_of_length_le (by rw [List.length_drop]; exact Nat.le_refl _)]
  · rw [hN p (by exact lc (lR2 _ _) (.h (lS z0) z1 (.g z0 z1)) lT (Nat.lt_of_not_le hp)), List.drop_of_length_le (by exact lc (lR2 _ _) (.h (lS z0) z1 (.g z0 z1)) lT (Nat.lt_of_not_le hp))]
theorem tsome {x : Str} {hit : Nat → Bool} {f : Nat → List Nat} (hf : ∀ p, p < x.cps.toList.length → hit p = false → f p = x.cps.toList.getD p 0 :: f (p + 1)) {p q : Nat} (h : nx hit x.cps.size p = some q) : f p = (slc x p q).cps.toList ++ f q := by
  obtain ⟨h1, h2, h3, h4⟩ := nx_sound h
  have hl : x.cps.toList.length = x.cps.size := Array.length_toList
  rw [plainRun hf (q - p) p (by exact lc (lR5 _ _ _ _ _) (.h (lS z0) z1 (.d z2 z1 (.e (lA z3 z4) z0 (.g (lA z4 z3) z2)))) lT h2 hl (Nat.sub_add_cancel h1)) (fun r a b => h4 r a (by exact lc (lR4 _ _ _ _) (.h (lS z0) (lA z1 z2) (.e (lA z2 z1) z3 (.g (lS z0) z3))) lT b (Nat.sub_add_cancel h1))), slc_list]
  have : p + (q - p) = q := by exact ar33 ‹_›
  rw [this]
theorem t1hit (x : Str) (q : Nat) (hq : q < x.cps.size) (h : hit1 x.cps q = true) : tail1 x q = [46, 46] ++ tail1 x (q + 1) := by
  have hl : x.cps.toList.length = x.cps.size := Array.length_toList
  unfold tail1
  rw [drop_at (by exact ar14 ‹_› ‹_›), dots]
  have hh : ((q == 0 || x.cps.getD (q - 1) 0 == 10) && x.cps.toList.getD q 0 == 46) = true := by rw [← getDA]; exact h
  have h46 : x.cps.toList.getD q 0 = 46 := by
    simp only [Bool.and_eq_true, beq_iff_eq] at hh; exact hh.2
  rw [hh, if_pos rfl, Nat.add_sub_cancel, getDA x q, h46]
  rfl
theorem t2hit (x : Str) (q : Nat) (hq : q < x.cps.size) (h : hit2 x.cps q = true) : tail2 x q = [13, 10] ++ tail2 x (q + len2 x.cps x.cps.size q) := by
  have hl : x.cps.toList.length = x.cps.size := Array.length_toList
  have hh : (x.cps.toList.getD q 0 = 10 ∨ x.cps.toList.getD q 0 = 13) := by
    rw [← getDA]
    have h' : (x.cps.getD q 0 == 10 || x.cps.getD q 0 == 13) = true := h
    simpa using h'
  unfold tail2 len2
  rw [getDA, getDA]
  by_cases h2 : x.cps.toList.getD q 0 = 13 ∧ q + 1 < x.cps.size ∧ x.cps.toList.getD (q + 1) 0 = 10
  · rw [if_pos h2, drop_at (by exact ar14 ‹_› ‹_›), drop_at (p := q + 1) (by exact lc (lR3 _ _ _) (.d z0 z1 (.h (lS (lS z2)) z1 (.g (lS (lS z2)) z0))) lT hl h2.2.1), h2.1, h2.2.2, crlf]; rfl
  · rw [if_neg h2, drop_at (by exact ar14 ‹_› ‹_›)]
    have no : ∀ t, x.cps.toList.getD q 0 :: x.cps.toList.drop (q + 1) ≠ 13 :: 10 :: t := fun t e => by
      simp only [List.cons.injEq] at e
      refine h2 ⟨e.1, ?_, ?_⟩
      · have := congrArg List.length e.2; simp at this; exact lc (lR4 _ _ _ _) (.d z0 (lS z1) (.e (lA z0 (lS z2)) z3 (.g (lS (lS z2)) z3))) lT this (Nat.sub_add_cancel hq)
      · by_cases hn : q + 1 < x.cps.toList.length
        · rw [drop_at hn] at e; simp only [List.cons.injEq] at e; exact e.2.1
        · rw [List.drop_of_length_le (by exact Nat.le_of_not_lt ‹_›)] at e; simp at e
    rw [crlf, if_pos (by lia)]
    · rfl
    · intro t e1 e2; exact no t (by rw [e1, e2])
set_option maxRecDepth 100000 in
set_option maxHeartbeats 4000000 in
theorem resub {w : World} {A : Around} {Q : Value → Shared → Prop} {E : Value → Shared → Prop} {h : Heap} {g : Array GenState} {d : Drawn} {t : Nat} {os : OsState} {pat ct : Addr} {ws : Array Value} {t2 t6 tr tx : Tok} {f0 f1 : Value} {r x : Str}
  {code : Array Nat} {nxt : Nat → Option Nat} {len : Nat → Nat} {tail : Nat → List Nat}
  (P : Pat h pat ct ws t2 t6 f0 f1) (hr : r.cps.contains 92 = false) (hcode : (ws.map Builtin.Re.reRawOf).map (·.toNat) = code) (hx : x.cps.size ≤ 1000)
  (hs : ∀ p must, p ≤ x.cps.size → Ex2 fun n mf => And3 (n ≤ 4 * (2 ^ 64 - 1)) (iterM n (Sre.forSearch code x.cps 0 p x.cps.size must) = mf) (((∃ q, And7 (nxt p = some q) (p ≤ q) (1 ≤ len q) (q + len q ≤ x.cps.size) (mf.outcome = some .matched) (mf.start = q) (mf.handed = q + len q)) ∨ (nxt p = none ∧ mf.outcome = some .failed))))
  (hr2 : r.length ≤ 2) (ht0 : ∀ p, nxt p = none → tail p = x.cps.toList.drop p) (ht1 : ∀ p q, p ≤ x.cps.size → nxt p = some q → tail p = (slc x p q).cps.toList ++ (r.cps.toList ++ tail (q + len q)))
  (hq : ∀ h' tk t', (Ext h h') → Q (.str ⟨(tail 0).toArray⟩ t') ⟨h', g, d, tk, os⟩) :
   wpAny (model PG w) A (call (.builtin "re.Pattern.sub") [.ref pat, .str r tr, .str x tx]) Q E ⟨h, g, d, t, os⟩ := by
  have eP := P.p
  have eC := P.c
  refine wpAny_call (codeAny_call_builtin (by decide +kernel) (entryFor_of_fast (b := Builtin.«re.Pattern.sub») (by kernel_rfl)) ?_)
  simp only [checkBuiltinCall, rb1, rb2]
  wtm_at "sc"
  (repeat wtm_at "wone")
  k_call_by "ft" (rb3)
  ((with_reducible apply wpAny_ite_false); focus (rfl; done); wtm_at "sb")
  wtm_at "sc"
  (repeat wtm_at "wone")
  k_call_by "ft" (rb4)
  (repeat wtm_at "wone")
  refine wpAny_ite_true (by rw [hr]; rfl) ?_
  wtm_at "sc"
  (repeat wtm_at "wone")
  refine al (by rfl) ?_
  intro D h1 k1 nD eD
  wtm_at "sc"
  (repeat wtm_at "wone")
  refine ⟨Code.quiet_builtin _ (by decide +kernel), ?_⟩
  refine subloop (h₀ := h) hcode hx hs hr2 ht0 ht1 (fun h' tk t' k' => hq h' tk t' k') nD P x.cps.size 0 0 false h1 _ [] [] 0 (by exact Nat.le_antisymm (lc (lR1 _) (.g (lA (lN 0) z0) z0) lT) (lc (lR1 _) (.g z0 (lA (lN 0) z0)) lT)) k1 eD .nil (by simp) (by simp) rfl
theorem pat1 {w : World} {h : Heap} (X : (KF w).In h) : Ex4 fun f0 f1 t2 t6 => Pat h 43 42 #[.int 14 0, .int 4 0, .int 0 0, .int 1 0, .int 1 0, .int 6 0, .int 1 0, .int 16 0, .int 46 0, .int 1 0] t2 t6 f0 f1 := ⟨_, _, _, _, X 43 _ rfl, X 42 _ rfl⟩
theorem pat2 {w : World} {h : Heap} (X : (KF w).In h) : Ex5 fun f0 f1 t2 t6 ws => Pat h 48 47 ws t2 t6 f0 f1 ∧ (ws.map Builtin.Re.reRawOf).map (·.toNat) = code2 := ⟨_, _, _, _, _, ⟨X 48 _ rfl, X 47 _ rfl⟩, by decide +kernel⟩
theorem sub1 {w : World} {A : Around} {Q : Value → Shared → Prop} {E : Value → Shared → Prop} {s : Shared} {tr tx : Tok} {x : Str} (X : (KF w).In s.heap) (hx : x.length ≤ 1000)
  (hq : ∀ h' tk t', (Ext s.heap h') → Q (.str ⟨(tail1 x 0).toArray⟩ t') { s with heap := h', toks := tk }) :
   wpAny (model PG w) A (call (.builtin "re.Pattern.sub") [.ref 43, .str (Str.ofString "..") tr, .str x tx]) Q E s := by
  obtain ⟨h, g, d, t, os⟩ := s
  obtain ⟨f0, f1, t2, t6, P⟩ := pat1 X
  have hl : x.cps.toList.length = x.cps.size := Array.length_toList
  refine resub (code := code1) (nxt := nx (hit1 x.cps) x.cps.size) (len := fun _ => 1) (tail := tail1 x) P (by decide +kernel) (by decide +kernel) hx (fun p must hp => ?_) (by decide +kernel) (fun p e => tdrop (t1step x) (fun p hp => by unfold tail1; rw [List.drop_of_length_le (by assumption)]; rfl) p e) (fun p q hp e => ?_) hq
  · obtain ⟨n, mf, h1, h2, h3, h4⟩ := search1 x.cps x.cps.size p must (by have : x.cps.size ≤ 1000 := hx; exact ar4 ‹_› (by decide))
    refine ⟨n, mf, h1, h2, ?_⟩
    rcases h3 hp with ⟨q, a, b, c, e, f, g, i⟩ | ⟨a, b⟩
    · exact .inl ⟨q, nx_some a b c e, a, Nat.le_refl _, by show q + 1 ≤ _; exact b, f, g, i⟩
    · exact .inr ⟨nx_none a, b⟩
  · obtain ⟨h1, h2, h3, h4⟩ := nx_sound e
    rw [tsome (t1step x) e, t1hit x q h2 h3]
    rfl
theorem len2_le {tx : Array Nat} {N q : Nat} (h : q < N) : 1 ≤ len2 tx N q ∧ q + len2 tx N q ≤ N := by
  unfold len2
  split
  · rename_i a; exact ⟨by decide, by have := a.2.1; exact lc (lR2 _ _) (.h (lS (lS z0)) z1 (.g (lA z0 (lN 2)) z1)) lT a.2.1⟩
  · exact ⟨by decide, by exact h⟩
theorem sub2 {w : World} {A : Around} {Q : Value → Shared → Prop} {E : Value → Shared → Prop} {s : Shared} {tr tx : Tok} {x : Str} (X : (KF w).In s.heap) (hx : x.length ≤ 1000)
  (hq : ∀ h' tk t', (Ext s.heap h') → Q (.str ⟨(tail2 x 0).toArray⟩ t') { s with heap := h', toks := tk }) :
   wpAny (model PG w) A (call (.builtin "re.Pattern.sub") [.ref 48, .str (Str.ofString "\r\n") tr, .str x tx]) Q E s := by
  obtain ⟨h, g, d, t, os⟩ := s
  obtain ⟨f0, f1, t2, t6, ws, P, hw⟩ := pat2 X
  have hl : x.cps.toList.length = x.cps.size := Array.length_toList
  refine resub (code := code2) (nxt := nx (hit2 x.cps) x.cps.size) (len := len2 x.cps x.cps.size) (tail := tail2 x) P (by decide +kernel) hw hx (fun p must hp => ?_) (by decide +kernel) (fun p e => tdrop (t2step x) (fun p hp => by unfold tail2; rw [List.drop_of_length_le (by assumption)]; rfl) p e) (fun p q hp e => ?_) hq
  · obtain ⟨n, mf, h1, h2, h3, h4⟩ := search2 x.cps x.cps.size p must
    refine ⟨n, mf, h1, h2, ?_⟩
    rcases h3 hp with ⟨q, a, b, c, e, f, g, i⟩ | ⟨a, b⟩
    · exact .inl ⟨q, nx_some a b c e, a, (len2_le b).1, (len2_le b).2, f, g, i⟩
    · exact .inr ⟨nx_none a, b⟩
  · obtain ⟨h1, h2, h3, h4⟩ := nx_sound e
    rw [tsome (t2step x) e, t2hit x q h2 h3]
    rfl

end
-- Q3
section
open PySem PySem.W PyProof.Rows PySem.Calls PySem.Spec PySem.Builtin.Str
theorem ty1 : typeLookup (.type "re.Pattern") (Str.ofString "__getattribute__") = pure (some (.builtin "object.__getattribute__")) := by rw [typeLookup_type, builtinLookup_eq_fast]; kernel_rfl
theorem ty2 : typeLookup (.type "re.Pattern") (Str.ofString "sub") = pure (some (.builtin "re.Pattern.sub")) := by rw [typeLookup_type, builtinLookup_eq_fast]; kernel_rfl
theorem ty3 : typeLookup (.type "re.Pattern") (Str.ofString "__getattr__") = pure none := by rw [typeLookup_type, builtinLookup_eq_fast]; kernel_rfl
theorem ty4 : typeOf (.builtin "re.Pattern.sub") = pure (.type "method_descriptor") := by show builtinType _ = _; rw [builtinType_eq_fast]; kernel_rfl
set_option maxRecDepth 100000 in
set_option maxHeartbeats 4000000 in
theorem gmPat {M : Model} {A : Around} {E : Value → Shared → Prop} {h : Heap} {g : Array GenState} {d : Drawn} {t : Nat} {os : OsState} {P : Addr} {vs : Array Value} {pl : Sem Bool} {Q : Value × List Value → Shared → Prop} (e : h.get? P = some ⟨.type "re.Pattern", none, .fields vs, #[]⟩) (hq : Q (.builtin "re.Pattern.sub", [.ref P]) ⟨h, g, d, t, os⟩) : wpAny M A (getMethod (.ref P) (Str.ofString "sub") pl) Q E ⟨h, g, d, t, os⟩ := by
  unfold getMethod
  wtm_at "sc"
  (repeat (k_call_by "nt" [call _ _ _, makeFunction .., eval (Expr.Subscript _ _ _) _, subscriptTail .., compareOp .., binaryOp .., loadName ..]; wtm_at "wtwo"))
  k_call_by "ft" (ty1)
  wtm_at "sc"
  (repeat (k_call_by "nt" [call _ _ _, makeFunction .., eval (Expr.Subscript _ _ _) _, subscriptTail .., compareOp .., binaryOp .., loadName ..]; wtm_at "wtwo"))
  k_call_by "ft" (ty3)
  wtm_at "sc"
  (repeat (k_call_by "nt" [call _ _ _, makeFunction .., eval (Expr.Subscript _ _ _) _, subscriptTail .., compareOp .., binaryOp .., loadName ..]; wtm_at "wtwo"))
  k_call_by "ft" (ty2)
  wtm_at "sc"
  (repeat (k_call_by "nt" [call _ _ _, makeFunction .., eval (Expr.Subscript _ _ _) _, subscriptTail .., compareOp .., binaryOp .., loadName ..]; wtm_at "wtwo"))
  exact hq
end
section
theorem crlf_len : ∀ l : List Nat, (crlf l).length ≤ 2 * l.length
  | [] => by simp [crlf]
  | [c] => by
    rw [crlf]
    · split <;> simp [crlf]
    · intro t e1 e2; cases e2
  | a :: b :: t => by
    by_cases h : a = 13 ∧ b = 10
    · obtain ⟨rfl, rfl⟩ := h
      rw [crlf]
      have := crlf_len t
      simp only [List.length_cons]; exact lc (lR2 _ _) (.h z0 (lM 2 z1) (.g (lS (lS z0)) (lM 2 (lS (lS z1))))) lT this
    · rw [crlf]
      · have := crlf_len (b :: t)
        split <;> simp only [List.length_cons] at * <;> lia
      · intro t' e1 e2; simp only [List.cons.injEq] at e2; exact h ⟨e1, e2.1⟩
noncomputable def quote (x : Str) : Str := ⟨(dots true (crlf x.cps.toList)).toArray⟩
set_option maxRecDepth 100000 in
set_option maxHeartbeats 4000000 in
theorem quotedata {w : World} {A : Around} {Q : Value → Shared → Prop} {E : Value → Shared → Prop} {s : Shared} {p : Program} {loose : List Str} {mean : ExcName → Option Value} {mg mb : Str → Option Value} {tx : Tok} {x : Str} (X : (KF w).In s.heap) (T : Top p loose mean mg mb s.heap) (hroom : A.depth < recursionLimit) (hx : x.length ≤ 300)
  (hq : ∀ h' tk t', (Ext s.heap h') → Q (.str (quote x) t') { s with heap := h', toks := tk }) :
   wpAny (model PG w) A (call (.ref 55) [.str x tx]) Q E s := by
  obtain ⟨o3, tc, t3, e3, l31, l32, l33⟩ : Ex2 fun o3 tc => And5 (notTab o3 = true) (s.heap.get? 3 = some o3) (nsLook (Str.ofString "_twin_re_1") o3 = pure (some (.ref 43))) (nsLook (Str.ofString "_twin_re_2") o3 = pure (some (.ref 48))) (nsLook (Str.ofString "CRLF") o3 = pure (some (.str (Str.ofString "\r\n") tc))) := ⟨_, _, by kernel_rfl, X 3 _ rfl, by kernel_rfl, by kernel_rfl, by rfl⟩
  refine enter X T (by rfl) (by rfl) hroom (BindsTo.of_eq rfl) (locs rfl) (by decide) rfl rfl rfl ?_
  intro h₁ F
  obtain ⟨h, g, d, t, os⟩ := s
  refine eCons ?_
  wtm_at "sc"
  (repeat (k_call_by "nt" [call _ _ _, makeFunction .., eval (Expr.Subscript _ _ _) _, subscriptTail .., compareOp .., binaryOp .., loadName ..]; wtm_at "wtwo"))
  have k43 := F.keep _ _ (X 43 _ rfl)
  have k48 := F.keep _ _ (X 48 _ rfl)
  refine ldG (by rfl) (by rfl) (by rfl) (F.keep _ _ e3) l31 ?_
  wtm_at "sc"
  (repeat (k_call_by "nt" [call _ _ _, getMethod _ _ _, loadName ..]; wtm_at "wtwo"))
  refine gmPat k43 ?_
  wtm_at "sc"
  (repeat (k_call_by "nt" [call _ _ _, getMethod _ _ _, loadName ..]; wtm_at "wtwo"))
  refine ldG (by rfl) (by rfl) (by rfl) (F.keep _ _ e3) l32 ?_
  wtm_at "sc"
  (repeat (k_call_by "nt" [call _ _ _, getMethod _ _ _, loadName ..]; wtm_at "wtwo"))
  refine gmPat k48 ?_
  wtm_at "sc"
  (repeat (k_call_by "nt" [call _ _ _, getMethod _ _ _, loadName ..]; wtm_at "wtwo"))
  refine ldG (by rfl) (by rfl) (by rfl) (F.keep _ _ e3) l33 ?_
  wtm_at "sc"
  (repeat (k_call_by "nt" [call _ _ _, getMethod _ _ _, loadName ..]; wtm_at "wtwo"))
  refine wpAny_loadName_local (by rfl) (by rfl) F.ns (by rfl) ?_
  wtm_at "sc"
  (repeat (k_call_by "nt" [call _ _ _, getMethod _ _ _, loadName ..]; wtm_at "wtwo"))
  show wpAny _ _ (call (.builtin "re.Pattern.sub") [.ref 48, .str (Str.ofString "\r\n") tc, .str x tx]) _ _ _
  refine sub2 (fun a o e => F.keep _ _ (X a o e)) (by exact ar2 ‹_› (by decide)) fun h2 tk2 t2 k2 => ?_
  wtm_at "sc"
  (repeat (k_call_by "nt" [call _ _ _, getMethod _ _ _, loadName ..]; wtm_at "wtwo"))
  show wpAny _ _ (call (.builtin "re.Pattern.sub") [.ref 43, .str (Str.ofString "..") _, .str ⟨(tail2 x 0).toArray⟩ t2]) _ _ _
  refine sub1 (fun a o e => k2 _ _ (F.keep _ _ (X a o e))) ?_ fun h3 tk3 t3 k3 => ?_
  · show (tail2 x 0).toArray.size ≤ 1000
    rw [List.size_toArray]
    have := crlf_len x.cps.toList
    have e : x.cps.toList.length = x.cps.size := Array.length_toList
    have h1 : x.cps.size ≤ 300 := hx
    show (crlf (x.cps.toList.drop 0)).length ≤ 1000
    rw [List.drop_zero]; exact lc (lR3 _ _ _) (.h z0 (lM 2 z1) (.e z1 z2 (.e z1 z2 (.h z2 (lN 300) (.h z2 (lN 300) (.g z0 (lN 1000))))))) lT this e e h1 h1
  · wtm_at "sc"
    (repeat (k_call_by "nt" [call _ _ _, getMethod _ _ _, loadName ..]; wtm_at "wtwo"))
    show Q (.str ⟨(tail1 ⟨(tail2 x 0).toArray⟩ 0).toArray⟩ t3) _
    have : (⟨(tail1 ⟨(tail2 x 0).toArray⟩ 0).toArray⟩ : Str) = quote x := by
      unfold quote tail1 tail2
      simp
    rw [this]
    exact hq h3 _ _ fun b o e => k3 _ _ (k2 _ _ (F.keep _ _ e))

end
-- T1
section
open PySem PySem.W PyProof.Rows PySem.Calls PySem.Spec PySem.Builtin.Str
end
section
theorem it1 : builtinKind "iter" = none := by decide +kernel
theorem iter_x {w : World} {prog : Program} {A : Around} {E : Value → Shared → Prop} {s : Shared} {R : Addr} {n : Nat} {t1 t2 t3 : Tok} {Q : Value → Shared → Prop} (hn : n < 64) (eR : IsRange s.heap R 0 n 1 t1 t2 t3)
   (hq : ∀ h' I, (Ext s.heap h') → IsRangeIter h' I 0 n 1 → s.heap.get? I = none → Q (.ref I) { s with heap := h' }) : wpAny (model prog w) A (call (.builtin "iter") [.ref R]) Q E s := by
  refine wpAny_call (codeAny_call_builtin (by decide +kernel) (entryFor_of_fast (b := Builtin.«iter») (by kernel_rfl)) ?_)
  simp only [checkBuiltinCall, it1]
  wtm_at "sc"
  repeat ((fail_if_success (with_reducible show wpAny _ _ (pyIter _) _ _ _)); first | (wp_delta; wtm_at "sc") | (wtm_at "ifa"; wtm_at "sc") | ((with_reducible show wpAny _ _ (ite _ _ _) _ _ _); k_node; wtm_at "sc") | (wtm_at "wb"; wtm_at "sc"))
  refine wpAny_pyIter_range eR (rsmall n hn) ?_
  wtm_at "sc"
  (repeat wtm_at "wone")
  rw [rsize n hn]
  exact hq _ _ (fun b o e => Heap.get?_push_of_some _ e) (Heap.get?_push_size _ rfl) (Heap.get?_none_of_le (Nat.le_refl _))
theorem Fr_set {h₀ h h' : Heap} {L : Addr} {m m' : Str → Option Value} (F : Fr h₀ L h m) (ns : h'.Ns L m') (sb : Heap.SameBut L h h') : Fr h₀ L h' m' :=
  ⟨ns, fun b o e => sb.extBut b o (fun q => absurd (Heap.lt_size e) (by rw [q]; exact Nat.not_lt.mpr F.above)) (F.keep b o e), F.above⟩
theorem Fr_up {h₀ h h' : Heap} {L : Addr} {m : Str → Option Value} (F : Fr h₀ L h m) (k : Ext h h') : Fr h₀ L h' m := ⟨F.ns.keeps k, fun b o e => k _ _ (F.keep _ _ e), F.above⟩
theorem depth_deeper' {A : Around} {env : Env} : (A.deeper env).depth = A.depth + 1 := rfl
theorem units_deeper' {A : Around} {env : Env} : (A.deeper env).units = A.units + 3 := rfl
theorem kf63 {w : World} : (KF w).lookup 63 = some ⟨.type "object", none, .plain, #[]⟩ := by rfl
theorem cwd2 {M : Model} {A : Around} {E : Value → Shared → Prop} {s : Shared} {pos : Pos} {f : Addr} {o : Obj} {fd : FuncData} {t1 t2 : Sem Value} {Q : Value → Shared → Prop} (hdat : o.data = .func fd)
    (h : wpAny M A t1 (fun v1 s1 => wpAny M A t2 (fun v2 s2 => s2.heap.get? f = some o ∧ wpAny M A (call (.ref f) [v1, v2]) Q E s2) E s1) E s) : wpAny M A (callWith pos (.ref f) [] [(false, t1), (false, t2)] []) Q E s :=
  callWith_function (o := o) (fd := fd) (evalArgs_plain (sp2 (wpAny_mono h (fun _ _ h1 => wpAny_mono h1 (fun _ _ h2 => ⟨⟨h2.1, hdat⟩, h2.2⟩) fun _ _ x => x) fun _ _ x => x)))
set_option maxRecDepth 100000 in
set_option maxHeartbeats 4000000 in
theorem reduce_c {w : World} {A : Around} {Q : Value → Shared → Prop} {E : Value → Shared → Prop} {s : Shared} {p : Program} {loose : List Str} {mean : ExcName → Option Value} {mg mb : Str → Option Value} {f R : Addr} {v0 : Value} {n : Nat} {t1 t2 t3 : Tok} (X : (KF w).In s.heap) (T : Top p loose mean mg mb s.heap) (hroom : A.depth < recursionLimit)
  (hIs : ∀ (A : Around) (E : Value → Shared → Prop) (Q : Value → Shared → Prop) (s' : Shared), (Ext s.heap s'.heap) → Q (.bool false) s' → wpAny (model PG w) A (compareOp .Is v0 (.ref 63)) Q E s') (hn : n ≤ 3) (hR : IsRange s.heap R 0 n 1 t1 t2 t3) (hh : A.handled = none) {fd : FuncData} (eF : s.heap.get? f = some ⟨.type "function", none, .func fd, #[]⟩)
  (Rp : List (Addr × Obj) → Value → Nat → Prop) (hR0 : Rp [] v0 0)
  (turn : ∀ i news v t (s' : Shared) (A' : Around) (E' : Value → Shared → Prop) (Q' : Value → Shared → Prop), i < n → (Ext s.heap s'.heap) → (∀ p ∈ news, s'.heap.get? p.1 = some p.2) → (∀ p ∈ news, s.heap.get? p.1 = none) → Rp news v i → A'.handled = none → A'.depth ≤ A.depth + 1 → A'.units ≤ A.units + 3 →
    (∀ v' h' tk news', (Ext s'.heap h') → (∀ p ∈ news', h'.get? p.1 = some p.2 ∧ s'.heap.get? p.1 = none) → Rp news' v' (i + 1) → Q' v' { s' with heap := h', toks := tk }) → wpAny (model PG w) A' (call (.ref f) [v, .int i t]) Q' E' s')
  (hq : ∀ v' h' tk news', (Ext s.heap h') → (∀ p ∈ news', h'.get? p.1 = some p.2 ∧ s.heap.get? p.1 = none) → Rp news' v' n → Q v' { s with heap := h', toks := tk }) :
   wpAny (model PG w) A (call (.ref 71) [.ref f, .ref R, v0]) Q E s := by
  obtain ⟨h, g, d, t, os⟩ := s
  dsimp only at *
  obtain ⟨o3, tt3, e3, l31, l32⟩ : ∃ o3, And4 (notTab o3 = true) (h.get? 3 = some o3) (nsLook (Str.ofString "iter") o3 = pure none) (nsLook (Str.ofString "_initial_missing") o3 = pure (some (.ref 63))) := ⟨_, by kernel_rfl, X 3 _ rfl, by rfl, by rfl⟩
  obtain ⟨o0, e0, l01⟩ : ∃ o0, h.get? 0 = some o0 ∧ nsLook (Str.ofString "iter") o0 = pure (some (.builtin "iter")) := ⟨_, X 0 _ rfl, by rfl⟩
  refine enter (binds := [(Str.ofString "function", .ref f), (Str.ofString "sequence", .ref R), (Str.ofString "initial", v0)]) X T (by rfl) (by rfl) hroom (BindsTo.of_defaults rfl (X 64 _ rfl) rfl rfl rfl) (locs rfl) (by decide) rfl rfl rfl ?_
  intro h₁ F
  refine cutQ1 fun Q₀ hQ₀ => ?_
  show wpAny _ _ (execs _ (envOf _ _ _ _ _)) _ _ ⟨h₁, g, d, _, os⟩
  refine eCons (eXpr (Calls.Constant_str ?_))
  refine eCons (eAsg (cN1 (wpAny_Name (ldB (by rfl) (by rfl) (by rfl) (by rfl) (F.keep _ _ e3) l31 (F.keep _ _ e0) l01 ?_)) (by rfl)))
  refine cwb1 (wpAny_Name (wpAny_loadName_local (by rfl) (by rfl) F.ns (by rfl) ?_))
  show wpAny _ _ (call (.builtin "iter") [.ref R]) _ _ _
  refine iter_x (by exact ar4 ‹_› (by decide)) (F.keep _ _ hR) fun h2 I k2 eI nI => ?_
  dsimp only
  have nIL : I ≠ h.objs.size := fun q => by
    obtain ⟨o, _, _, a, _⟩ := F.ns
    rw [← q, nI] at a; cases a
  have F0 := F
  replace F := Fr_up F k2
  refine wpAny_storeName_local (by rfl) F.ns (fun h3 ns3 sb3 => ?_) (by rfl)
  replace F := Fr_set F ns3 sb3
  replace eI := (sb3.2 I nIL).trans eI
  dsimp only
  refine eCons (wpAny_If (eTst (wpAny_Name (wpAny_loadName_local (by rfl) (by rfl) F.ns (by rfl) ?_))))
  refine wpAny_Name (ldG (by rfl) (by rfl) (by rfl) (F.keep _ _ e3) l32 ?_)
  refine hIs _ _ _ _ (fun b o e => F.keep _ _ e) (wpAny_truthy_bool ?_)
  rw [if_neg (by decide)]
  refine eCons (eAsg (wpAny_Name (wpAny_loadName_local (by rfl) (by rfl) F.ns (by rfl) ?_)))
  refine wpAny_storeName_local (by rfl) F.ns (fun h4 ns4 sb4 => ?_) (by rfl)
  replace F := Fr_set F ns4 sb4
  replace eI := (sb4.2 I nIL).trans eI
  dsimp only
  refine wpAny_execs_nil ?_
  refine eCons ?_
  have L0 : h.get? h.objs.size = none := Heap.get?_none_of_le (Nat.le_refl _)
  have I0 : h.get? I = none := by
    cases q : h.get? I with
    | none => rfl
    | some o => rw [F0.keep _ _ q] at nI; cases nI
  refine For_invV h (by rfl) (by rfl) ?_
  refine wpAny_Name (wpAny_loadName_local (by rfl) (by rfl) F.ns (by rfl) ?_) (by decide)
  refine wpAny_pyIter_rangeiter eI ?_
  refine ⟨I, _, _, n, _, _, _, [], fun i m news => ∃ v, And3 (m (Str.ofString "value") = some v) (m (Str.ofString "function") = some (.ref f)) (Rp news v i), rfl, Walks.range (by exact hh) I 0 1 n, ?_, ?_, ?_, ?_, F, News.nil, ⟨v0, by rfl, by rfl, hR0⟩, ?_, ?_⟩
  · intro hm; exact nIL (List.mem_singleton.mp hm).symm
  · intro b hb; rw [List.mem_singleton.mp hb]; exact I0
  · intro p hp; cases hp
  · show IsRangeIter _ _ _ _ _
    simpa using eI
  · rintro i v m₁ news₁ s₁ own ⟨hh', tk', rfl⟩ hi ⟨ti, rfl⟩ ⟨v1, hv1, hf1, hRp⟩ hnw hown hownh hfp hst F₁ N₁
    dsimp only at *
    have hi0 : ((0 : Int) + (i : Int) * 1) = (i : Int) := by exact ar30 _
    rw [hi0] at F₁
    refine cutQ1 fun Q₁ hQ₁ => ?_
    refine eCons (eAsg (cN2 (wpAny_Name (wpAny_loadName_local (by rfl) (by rfl) F₁.ns hf1 ?_)) (by rfl)))
    refine cwd2 (o := ⟨.type "function", none, .func fd, #[]⟩) rfl (wpAny_Name (wpAny_loadName_local (by rfl) (by rfl) F₁.ns hv1 ?_))
    refine wpAny_Name (wpAny_loadName_local (by rfl) (by rfl) F₁.ns (by rfl) ⟨F₁.keep _ _ eF, ?_⟩)
    refine turn i news₁ v1 ti _ _ _ _ hi (fun b o e => F₁.keep _ _ e) (fun p hp => (N₁ p (List.mem_append_right _ hp)).1) (fun p hp => (N₁ p (List.mem_append_right _ hp)).2.2) hRp hh (Nat.le_of_eq depth_deeper') (Nat.le_of_eq units_deeper') fun v' h' tk news' k' hn' hR' => ?_
    dsimp only
    have F₂ := Fr_up F₁ k'
    refine wpAny_storeName_local (by rfl) F₂.ns (fun h6 ns6 sb6 => ?_) (by rfl)
    have F₃ := Fr_set F₂ ns6 sb6
    have nL : ∀ p ∈ news', p.1 ≠ h.objs.size := fun p hp q => by
      obtain ⟨o, _, _, a, _⟩ := F₁.ns
      have b := (hn' p hp).2
      rw [q] at b
      exact absurd (b.symm.trans a) (by simp)
    refine wpAny_execs_nil (hQ₁ _ _ ?_)
    refine LoopStepV.next ⟨rfl, h6, _, _, news', rfl, F₃, ?_, ?_, ⟨v', by rfl, hf1, hR'⟩⟩
    · intro p hp
      rcases List.mem_append.mp hp with hp | hp
      · have a := N₁ p (List.mem_append_left _ hp)
        exact ⟨(sb6.2 _ a.2.1).trans (k' _ _ a.1), a.2⟩
      · refine ⟨(sb6.2 _ (nL p hp)).trans (hn' p hp).1, nL p hp, ?_⟩
        cases q : h.get? p.1 with
        | none => rfl
        | some o => exact absurd ((hn' p hp).2.symm.trans (F₁.keep _ _ q)) (by simp)
    · intro p hp hw
      have := List.mem_singleton.mp hw
      have a : hh'.get? I = some _ := hst
      have b := (hn' p hp).2
      rw [this] at b
      exact absurd (b.symm.trans a) (by simp)
  · rintro h' tk m' news' F' N' hnw ⟨v', hv', hf', hR'⟩
    show wpAny _ _ (execs _ _) _ _ _
    refine eCons (eRet (wpAny_Name (wpAny_loadName_local (by rfl) (by rfl) F'.ns hv' (hQ₀ _ _ ?_))))
    exact hq v' h' _ news' (fun b o e => F'.keep _ _ e) (fun p hp => ⟨(N' p hp).1, (N' p hp).2.2⟩) hR'
theorem is_str {w : World} {x : Str} {t : Tok} {b : Addr} {A : Around} {E : Value → Shared → Prop} {Q : Value → Shared → Prop} {s : Shared} (hq : Q (.bool false) s) : wpAny (model PG w) A (compareOp .Is (.str x t) (.ref b)) Q E s := by
  wtm_at "sc"
  (repeat wtm_at "wone")
  exact hq
theorem is_ref {w : World} {a b : Addr} {oa ob : Obj} {A : Around} {E : Value → Shared → Prop} {Q : Value → Shared → Prop} {s : Shared} (hab : a ≠ b) (ea : s.heap.get? a = some oa) (eb : s.heap.get? b = some ob) (ha : oa.cls = .type "list") (hb : ob.cls = .type "object") (hq : Q (.bool false) s) : wpAny (model PG w) A (compareOp .Is (.ref a) (.ref b)) Q E s := by
  obtain ⟨h, g, d, t, os⟩ := s
  dsimp only at *
  have hab' : decide ((a == b) = true) = false := decide_eq_false fun e => hab (eq_of_beq e)
  wtm_at "sc"
  (repeat wtm_at "wone")
  obtain ⟨oc, od, odt, osl⟩ := ob
  obtain ⟨ac, ad, adt, asl⟩ := oa
  dsimp only at *
  subst ha hb
  exact wpAny_pure (wpAny_pure hq)

end
-- T2
section
open PySem PySem.W PyProof.Rows PySem.Calls PySem.Spec PySem.Builtin.Str
noncomputable abbrev prmTT (a1 a2 : Pos) : Arguments := { posonlyargs := [], args := [{ arg := Str.ofString "told", annotation := none, pos := a1 }, { arg := Str.ofString "turn", annotation := none, pos := a2 }], vararg := none, kwonlyargs := [], kw_defaults := [], kwarg := none, defaults := [] }
noncomputable abbrev nmTT (g : String) : List (Str × NameKind) := [(Str.ofString "told", .local), (Str.ofString "turn", .local), (Str.ofString g, .globalImplicit)]
theorem bTT (a b : Value) (a1 a2 : Pos) (q : Str) (body : Expr) (sc : Scope) (cl : List (Str × Addr)) (ct : Value) (cd : Addr) : bindArgs (lfd q (prmTT a1 a2) body sc cl ct cd) ⟨[a, b], []⟩ = pure [(Str.ofString "told", a), (Str.ofString "turn", b)] := by kernel_rfl
set_option maxRecDepth 100000 in
set_option maxHeartbeats 4000000 in
theorem lamQ {w : World} {A : Around} {Q : Value → Shared → Prop} {E : Value → Shared → Prop} {s : Shared} {p : Program} {loose : List Str} {mean : ExcName → Option Value} {mg mb : Str → Option Value} {f cd : Addr} {q : Str} {T : Value} {a1 a2 p1 p2 p3 : Pos} {x : Str} {tx ti : Tok} {i : Int}
  (X : (KF w).In s.heap) (Tp : Top p loose mean mg mb s.heap) (hroom : A.depth + 1 < recursionLimit) (hx : x.length ≤ 300)
  (eF : s.heap.get? f = some (LamObj q (prmTT a1 a2) (.Call (.Name (Str.ofString "quotedata") p1) [.Name (Str.ofString "told") p2] [] p3) { kind := .function, names := nmTT "quotedata", isGenerator := false, isCoroutine := false } [] T cd)) (hcd : FC q s.heap cd)
  (hq : ∀ h' tk' t, (Ext s.heap h') → Q (.str (quote x) t) { s with heap := h', toks := tk' }) :
   wpAny (model PG w) A (call (.ref f) [.str x tx, .int i ti]) Q E s := by
  obtain ⟨h, g, d, t, os⟩ := s
  dsimp only at *
  obtain ⟨o3, e3, l31⟩ : ∃ o3, h.get? 3 = some o3 ∧ nsLook (Str.ofString "quotedata") o3 = pure (some (.ref 55)) := ⟨_, X 3 _ rfl, by kernel_rfl⟩
  refine enterLam (binds := [(Str.ofString "told", .str x tx), (Str.ofString "turn", .int i ti)]) (by exact ar16 ‹_›) eF Tp.nolimit hcd (bTT ..) (by decide) (by intro x hx; simp only [List.mem_cons, List.not_mem_nil, or_false] at hx; rcases hx with rfl | rfl <;> rfl) (fun h₁ env he hns hk => ?_)
  subst he
  replace hns : h₁.Ns h.objs.size (fun y => List.lookup y [(Str.ofString "told", Value.str x tx), (Str.ofString "turn", .int i ti)].reverse) := hns
  replace hk : Ext h h₁ := hk
  wtm_at "sc"
  (repeat (k_call_by "nt" [call _ _ _, getMethod _ _ _, loadName .., storeName .., compareOp .., release .., exec (Stmt.For _ _ _ _ _) _, exec (Stmt.While _ _ _ _) _]; wtm_at "wtwo"))
  refine ldG (by rfl) (by rfl) (by rfl) (hk _ _ e3) l31 ?_
  have k55 := hk _ _ (X 55 _ rfl)
  wtm_at "sc"
  (repeat (k_call_by "nt" [call _ _ _, getMethod _ _ _, loadName .., storeName .., compareOp .., release .., exec (Stmt.For _ _ _ _ _) _, exec (Stmt.While _ _ _ _) _]; wtm_at "wtwo"))
  refine wpAny_loadName_local (by rfl) (by rfl) hns (by rfl) ?_
  wtm_at "sc"
  (repeat (k_call_by "nt" [call _ _ _, getMethod _ _ _, loadName .., storeName .., compareOp .., release .., exec (Stmt.For _ _ _ _ _) _, exec (Stmt.While _ _ _ _) _]; wtm_at "wtwo"))
  show wpAny _ _ (call (.ref 55) [.str x tx]) _ _ _
  refine quotedata (fun a o e => hk _ _ (X a o e)) (Tp.keeps (fun b o => hk b o)) (by rw [depth_deeper]; exact hroom) hx fun h2 tk2 t2 k2 => ?_
  wtm_at "sc"
  (repeat (k_call_by "nt" [call _ _ _, getMethod _ _ _, loadName .., storeName .., compareOp .., release .., exec (Stmt.For _ _ _ _ _) _, exec (Stmt.While _ _ _ _) _]; wtm_at "wtwo"))
  exact hq h2 _ _ fun b o e => k2 _ _ (hk b o e)
set_option maxRecDepth 100000 in
set_option maxHeartbeats 4000000 in
theorem lamB {w : World} {A : Around} {Q : Value → Shared → Prop} {E : Value → Shared → Prop} {s : Shared} {p : Program} {loose : List Str} {mean : ExcName → Option Value} {mg mb : Str → Option Value} {f cd l : Addr} {q : Str} {T : Value} {a1 a2 p1 p2 p3 : Pos} {vs : List Value} {ss : List Str} {ti : Tok} {i : Int}
  (X : (KF w).In s.heap) (Tp : Top p loose mean mg mb s.heap) (hroom : A.depth + 1 < recursionLimit) (hh : A.handled = none) (hl : s.heap.IsList l vs.toArray) (hS : StrsAre vs ss) (hn : ss.length ≤ 100) (hx : ∀ x ∈ ss, x.length ≤ 1000)
  (eF : s.heap.get? f = some (LamObj q (prmTT a1 a2) (.Call (.Name (Str.ofString "_law_bare") p1) [.Name (Str.ofString "told") p2] [] p3) { kind := .function, names := nmTT "_law_bare", isGenerator := false, isCoroutine := false } [] T cd)) (hcd : FC q s.heap cd)
  (hq : ∀ D h' tk ys k, StrsAre ys (ss.map bareOf) → h'.get? D = some (seqObj "list" ys.toArray k) → s.heap.get? D = none → (Ext s.heap h') → Q (.ref D) { s with heap := h', toks := tk }) :
   wpAny (model PG w) A (call (.ref f) [.ref l, .int i ti]) Q E s := by
  obtain ⟨h, g, d, t, os⟩ := s
  dsimp only at *
  obtain ⟨o3, e3, l31⟩ : ∃ o3, h.get? 3 = some o3 ∧ nsLook (Str.ofString "_law_bare") o3 = pure (some (.ref 228)) := ⟨_, X 3 _ rfl, by kernel_rfl⟩
  refine enterLam (binds := [(Str.ofString "told", .ref l), (Str.ofString "turn", .int i ti)]) (by exact ar16 ‹_›) eF Tp.nolimit hcd (bTT ..) (by decide) (by intro x hx; simp only [List.mem_cons, List.not_mem_nil, or_false] at hx; rcases hx with rfl | rfl <;> rfl) (fun h₁ env he hns hk => ?_)
  subst he
  replace hns : h₁.Ns h.objs.size (fun y => List.lookup y [(Str.ofString "told", Value.ref l), (Str.ofString "turn", .int i ti)].reverse) := hns
  replace hk : Ext h h₁ := hk
  wtm_at "sc"
  (repeat (k_call_by "nt" [call _ _ _, getMethod _ _ _, loadName .., storeName .., compareOp .., release .., exec (Stmt.For _ _ _ _ _) _, exec (Stmt.While _ _ _ _) _]; wtm_at "wtwo"))
  refine ldG (by rfl) (by rfl) (by rfl) (hk _ _ e3) l31 ?_
  have k228 := hk _ _ (X 228 _ rfl)
  wtm_at "sc"
  (repeat (k_call_by "nt" [call _ _ _, getMethod _ _ _, loadName .., storeName .., compareOp .., release .., exec (Stmt.For _ _ _ _ _) _, exec (Stmt.While _ _ _ _) _]; wtm_at "wtwo"))
  refine wpAny_loadName_local (by rfl) (by rfl) hns (by rfl) ?_
  wtm_at "sc"
  (repeat (k_call_by "nt" [call _ _ _, getMethod _ _ _, loadName .., storeName .., compareOp .., release .., exec (Stmt.For _ _ _ _ _) _, exec (Stmt.While _ _ _ _) _]; wtm_at "wtwo"))
  show wpAny _ _ (call (.ref 228) [.ref l]) _ _ _
  refine law_bare (by exact fun a o e => hk _ _ (X a o e)) (by exact Tp.keeps (fun b o => hk b o)) (by rw [depth_deeper]; exact hroom) (by exact hh) (by exact hl.at fun o e => hk _ _ e) hS hn hx fun D h2 tk2 ys k hy eD nD k2 => ?_
  wtm_at "sc"
  (repeat (k_call_by "nt" [call _ _ _, getMethod _ _ _, loadName .., storeName .., compareOp .., release .., exec (Stmt.For _ _ _ _ _) _, exec (Stmt.While _ _ _ _) _]; wtm_at "wtwo"))
  refine hq D h2 _ ys k hy eD ?_ fun b o e => k2 _ _ (hk b o e)
  exact none_of_sub hk nD

end
-- T3
section
open PySem PySem.W PyProof.Rows PySem.Calls PySem.Spec PySem.Builtin.Str
section
variable {w : World} {A : Around} {Q : Value → Shared → Prop} {E : Value → Shared → Prop} {s : Shared} {p : Program} {loose : List Str} {mean : ExcName → Option Value} {mg mb : Str → Option Value} {f cd R : Addr} {q : Str} {T : Value} {a1 a2 p1 p2 p3 : Pos} {n : Nat} {t1 t2 t3 : Tok}
theorem redQ {x : Str} {tx : Tok} (X : (KF w).In s.heap) (Tp : Top p loose mean mg mb s.heap) (hroom : A.depth + 2 < recursionLimit) (hh : A.handled = none) (hn : n ≤ 3) (hR : IsRange s.heap R 0 n 1 t1 t2 t3)
  (hx : ∀ i, i < n → (Nat.repeat quote i x).length ≤ 300)
  (eF : s.heap.get? f = some (LamObj q (prmTT a1 a2) (.Call (.Name (Str.ofString "quotedata") p1) [.Name (Str.ofString "told") p2] [] p3) { kind := .function, names := nmTT "quotedata", isGenerator := false, isCoroutine := false } [] T cd)) (hcd : FC q s.heap cd)
  (hq : ∀ h' tk' t, (Ext s.heap h') → Q (.str (Nat.repeat quote n x) t) { s with heap := h', toks := tk' }) :
   wpAny (model PG w) A (call (.ref 71) [.ref f, .ref R, .str x tx]) Q E s := by
  refine reduce_c X Tp (by exact lc (lR2 _ _) (.h (lS (lA z0 (lN 2))) z1 (.g (lS z0) z1)) lT hroom) (fun _ _ _ _ _ hq => is_str hq) hn hR hh eF (fun _ v i => ∃ t, v = .str (Nat.repeat quote i x) t) ⟨tx, rfl⟩ ?_ ?_
  · rintro i news v ti s' A' E' Q' hi k' _ _ ⟨t, rfl⟩ hA hd hu hq'
    exact lamQ (fun a o e => k' _ _ (X a o e)) (Tp.keeps (fun b o => k' b o)) (by exact lc (lR3 _ _ _) (.h (lS (lA z0 (lN 2))) z1 (.h z2 (lS z0) (.g (lS (lS z2)) z1))) lT hroom hd) (hx i hi) (k' _ _ eF) (hcd.keeps k') fun h2 tk2 t2 k2 => hq' _ h2 tk2 [] k2 (fun _ h => nomatch h) ⟨t2, rfl⟩
  · rintro v' h' tk news' k' _ ⟨t, rfl⟩
    exact hq h' tk t k'
theorem bare_len {x : Str} : (bareOf x).length ≤ x.length := by
  unfold bareOf
  split
  · exact Txt.slice_le _ _ _
  · exact Nat.le_refl _
theorem redB {l : Addr} {vs : List Value} {ss : List Str} (X : (KF w).In s.heap) (Tp : Top p loose mean mg mb s.heap) (hroom : A.depth + 2 < recursionLimit) (hh : A.handled = none) (hn : n ≤ 3) (hR : IsRange s.heap R 0 n 1 t1 t2 t3)
  (hl : s.heap.IsList l vs.toArray) (hS : StrsAre vs ss) (hns : ss.length ≤ 100) (hx : ∀ x ∈ ss, x.length ≤ 1000)
  (eF : s.heap.get? f = some (LamObj q (prmTT a1 a2) (.Call (.Name (Str.ofString "_law_bare") p1) [.Name (Str.ofString "told") p2] [] p3) { kind := .function, names := nmTT "_law_bare", isGenerator := false, isCoroutine := false } [] T cd)) (hcd : FC q s.heap cd)
  (hq : ∀ D h' tk' ys, 1 ≤ n → (Ext s.heap h') → h'.IsList D (List.toArray ys) → StrsAre ys (Nat.repeat (List.map bareOf) n ss) → Q (.ref D) { s with heap := h', toks := tk' }) (h1 : 1 ≤ n) :
   wpAny (model PG w) A (call (.ref 71) [.ref f, .ref R, .ref l]) Q E s := by
  have hl63 : l ≠ 63 := fun e => by
    obtain ⟨o, a, b, _⟩ := hl
    have c := X 63 _ kf63
    rw [e, c] at a; cases a; simp at b
  obtain ⟨ol, hol, hocl, _⟩ := id hl
  have inv : ∀ i, (Nat.repeat (List.map bareOf) i ss).length = ss.length ∧ ∀ x ∈ Nat.repeat (List.map bareOf) i ss, x.length ≤ 1000 := by
    intro i
    induction i with
    | zero => exact ⟨rfl, hx⟩
    | succ i ih =>
      refine ⟨by show (List.map bareOf _).length = _; rw [List.length_map]; exact ih.1, fun x hx' => ?_⟩
      have hx2 : x ∈ List.map bareOf (Nat.repeat (List.map bareOf) i ss) := hx'
      obtain ⟨y, hy, rfl⟩ := List.mem_map.mp hx2
      exact Nat.le_trans bare_len (ih.2 y hy)
  refine reduce_c X Tp (by exact lc (lR2 _ _) (.h (lS (lA z0 (lN 2))) z1 (.g (lS z0) z1)) lT hroom) (fun _ _ _ s' k' hq => is_ref (b := 63) hl63 (k' _ _ hol) (k' _ _ (X 63 _ kf63)) hocl rfl hq) hn hR hh eF
    (fun news v i => Ex2 fun l' ys => And3 (v = .ref l') (StrsAre ys (Nat.repeat (List.map bareOf) i ss)) (((i = 0 ∧ l' = l ∧ ys = vs) ∨ ∃ k, (l', seqObj "list" ys.toArray k) ∈ news))) ⟨l, vs, rfl, hS, .inl ⟨rfl, rfl, rfl⟩⟩ ?_ ?_
  · rintro i news v ti s' A' E' Q' hi k' hnw _ ⟨l', ys, rfl, hY, hor⟩ hA hd hu hq'
    have hl' : s'.heap.IsList l' ys.toArray := by
      rcases hor with ⟨_, rfl, rfl⟩ | ⟨k, hm⟩
      · exact hl.at fun o e => k' _ _ e
      · exact ⟨_, hnw _ hm, rfl, _, rfl⟩
    refine lamB (fun a o e => k' _ _ (X a o e)) (Tp.keeps (fun b o => k' b o)) (by exact lc (lR3 _ _ _) (.h (lS (lA z0 (lN 2))) z1 (.h z2 (lS z0) (.g (lS (lS z2)) z1))) lT hroom hd) hA hl' hY (by rw [(inv i).1]; exact hns) (inv i).2 (k' _ _ eF) (hcd.keeps k') fun D h2 tk2 ys2 kk hy eD nD k2 => ?_
    exact hq' _ h2 tk2 [(D, seqObj "list" ys2.toArray kk)] k2 (fun p hp => by rw [List.mem_singleton.mp hp]; exact ⟨eD, nD⟩) ⟨D, ys2, rfl, hy, .inr ⟨kk, List.mem_singleton.mpr rfl⟩⟩
  · rintro v' h' tk news' k' hnw ⟨l', ys, rfl, hY, hor⟩
    rcases hor with ⟨h0, _⟩ | ⟨k, hm⟩
    · exact False.elim (lc (lR1 _) (.h (lN 1) z0 (.e z0 (lN 0) .f)) lT h1 h0)
    · exact hq l' h' tk ys h1 k' ⟨_, (hnw _ hm).1, rfl, _, rfl⟩ hY
end

end
-- U1
section
open PySem PySem.W PyProof.Rows PySem.Calls PySem.Spec PySem.Builtin.Str
end
local macro_rules | `(tactic| wtm_at "wu") => do
  let fs := nms "pyIter binaryOp unaryOp unpackItems unpack inplaceOp setItem comprehension alloc loadName storeName compareOp"
  let is := nms "call getMethod"
  let gs := nms "truthy exec eval eval exec exec"
  let hs := nms "Value.ref Stmt.Try Expr.Subscript Expr.ListComp Stmt.For Stmt.While"
  `(tactic| repeat ((fail_if_success (with_reducible first $[| show wpAny _ _ ($fs ..) _ _ _]* $[| show wpAny _ _ ($is _ _ _) _ _ _]* $[| show wpAny _ _ ($gs ($hs ..) ..) _ _ _]*)); first | (wtm_at "ast"; wtm_at "sc") | (k_call_by "rf" ["wpAny_release"]; wtm_at "sc") | wtm_at "wtwo"))
section
noncomputable abbrev SCP : Scope := { kind := .function, names := [(Str.ofString "rows", .cell), (Str.ofString "order", .local), (Str.ofString "k", .cell), (Str.ofString "place", .local), (Str.ofString "range", .globalImplicit), (Str.ofString "len", .globalImplicit)], isGenerator := false, isCoroutine := false, more := [(Str.ofString "fast", Const.str (Str.ofString "rows")), (Str.ofString "fast", Const.str (Str.ofString "order")), (Str.ofString "fast", Const.str (Str.ofString "k")), (Str.ofString "fast", Const.str (Str.ofString "j")), (Str.ofString "fast", Const.str (Str.ofString "place"))] }
noncomputable abbrev LPE (L c ck : Addr) : Env := { scope := SCP, locals := L, globals := 3, cells := [(Str.ofString "k", ck), (Str.ofString "rows", c)], qual := Str.ofString "_law_plain" ++ Str.ofString ".<locals>.", func := some 240, code := .ref 239, frame := some L, builtins := 0 }
noncomputable def bodyLP (w : World) : List Stmt := match (KXf w.params).lookup 240 with
  | some ⟨_, _, .func fd, _⟩ => match fd.body with
    | .stmts b => b
    | _ => []
  | _ => []
set_option maxRecDepth 100000 in
set_option maxHeartbeats 4000000 in
theorem lpenter {w : World} {A : Around} {Q : Value → Shared → Prop} {E : Value → Shared → Prop} {h : Heap} {g : Array GenState} {d : Drawn} {t : Nat} {os : OsState} {p : Program} {loose : List Str} {mean : ExcName → Option Value} {mg mb : Str → Option Value} {l : Addr}
  (X : (KF w).In h) (T : Top p loose mean mg mb h) (hroom : A.depth < recursionLimit)
  (hb : ∀ h₁ L c ck tk m, Fr h L h₁ m → L ≠ c → L ≠ ck → c ≠ ck → h.get? c = none → h.get? ck = none → h₁.IsCell c (some (.ref l)) → h₁.IsCell ck none →
    wpAny (model PG w) (A.deeper (LPE L c ck)) (execs (bodyLP w) (LPE L c ck)) (fun fl s' => Q (match fl with | .ret v => v | _ => .none) s') (fun e s' => wpAny (model PG w) (A.deeper (LPE L c ck)) (leaving (LPE L c ck) e) (fun _ s'' => E e s'') (fun e' s'' => E e' s'') s') ⟨h₁, g, d, tk, os⟩) :
   wpAny (model PG w) A (call (.ref 240) [.ref l]) Q E ⟨h, g, d, t, os⟩ := by
  refine wpAny_call (codeAny_call_cells (binds := [(Str.ofString "rows", .ref l)]) hroom (X _ _ (by rfl)) rfl T.nolimit (codeRec_of X (by rfl)) rfl (by rfl) rfl (by intro x hx; simp only [List.mem_singleton] at hx; subst hx; exact .inr ⟨by rfl, by rfl⟩) (fun s₁ x => ?_))
  obtain ⟨⟨⟨h₁, tk, rfl⟩, ns, keep, fresh⟩, cell, apart, above⟩ := x
  refine hb h₁ h.objs.size (h.objs.size + 1) (h.objs.size + 1 + 1) tk _ ⟨ns, keep, Nat.le_refl _⟩ (Nat.ne_of_lt (by exact Nat.lt_succ_self _)) (Nat.ne_of_lt (by exact ar28 _)) (Nat.ne_of_lt (by exact Nat.lt_succ_self _)) (Heap.get?_none_of_le (by exact Nat.le_succ _)) (Heap.get?_none_of_le (by exact ar29 _)) ?_ ?_
  · refine cast ?_ (cell (Str.ofString "rows") (h.objs.size + 1) (by rfl))
    rfl
  · refine cast ?_ (cell (Str.ofString "k") (h.objs.size + 1 + 1) (by rfl))
    rfl

theorem slc_l {prog : Program} {w : World} {A : Around} {E : Value → Shared → Prop} {s : Shared} {env : Env} {value : Expr} {lower upper : Option Expr} {p pos : Pos} {Q : Value → Shared → Prop}
    (h : wpAny (model prog w) A (eval value env) (fun o s₁ => wpAny (model prog w) A (evalPart lower env) (fun vl s₂ => wpAny (model prog w) A (evalPart upper env) (fun vu s₃ =>
      Ex4 fun l items lo hi => And6 (o = .ref l) (s₃.heap.IsList l items) (items.size ≤ sizeLine) (IsPart vl lo) (IsPart vu hi) (∀ S h', (Ext s₃.heap h') → s₃.heap.get? S = none → h'.get? S = some (seqObj "list" (slicePick items lo hi none) 0) → Q (.ref S) { s₃ with heap := h' })) E s₂) E s₁) E s)
    (ht : ∀ o r, letTemporaryGo value o r = pure () := by intro _ _; rfl) :
    wpAny (model prog w) A (eval (.Subscript value (.Slice lower upper none p) pos) env) Q E s := by
  refine wpAny_Subscript_list_slice (wpAny_mono h (fun o s₁ h₁ => wpAny_mono h₁ (fun vl s₂ h₂ => wpAny_mono h₂ (fun vu s₃ h₃ => ?_) fun _ _ e => e) fun _ _ e => e) fun _ _ e => e) ht
  obtain ⟨l, items, lo, hi, rfl, hl, hsz, pl, pu, hQ⟩ := h₃
  refine ⟨l, items, lo, hi, rfl, hl, hsz, pl, pu, hQ _ _ (fun b o e => Heap.get?_push_of_some _ (Heap.get?_push_of_some _ e)) (Heap.get?_none_of_le (Nat.le_succ _)) ?_⟩
  rw [← Heap.size_push]
  exact Heap.get?_push_size _ rfl
theorem add_l {prog : Program} {w : World} {A : Around} {E : Value → Shared → Prop} {s : Shared} {l b : Addr} {vs ws : List Value} {Q : Value → Shared → Prop} (hl : s.heap.IsList l vs.toArray) (hb : s.heap.IsList b ws.toArray) (hsz : vs.length + ws.length ≤ sizeLine)
    (h : ∀ S h', (Ext s.heap h') → s.heap.get? S = none → h'.get? S = some (seqObj "list" (vs ++ ws).toArray 0) → Q (.ref S) { s with heap := h' }) :
    wpAny (model prog w) A (binaryOp .Add (.ref l) (.ref b)) Q E s := by
  obtain ⟨⟨cls, dd, data, sl⟩, ho, hc, n, hd⟩ := id hl
  obtain ⟨⟨cls2, dd2, data2, sl2⟩, ho2, hc2, n2, hd2⟩ := id hb
  simp only at hc hd hc2 hd2
  subst hc hd hc2 hd2
  have e : vs.toArray ++ ws.toArray = (vs ++ ws).toArray := by simp
  refine concat_meets ⟨_, ho, rfl⟩ ⟨_, ho2, rfl⟩ noFill_list_add seq_list_add PySem.F.slot_list_add PySem.F.entry_list_add (PySem.F.args_list_add_2 _ _) (list_addW l b vs.toArray ws.toArray n n2 dd dd2 sl sl2 (by simpa using hsz)) ⟨ho, ho2, ?_⟩
  rw [e]
  exact h _ _ (fun b o e => Heap.get?_push_of_some _ e) (Heap.get?_none_of_le (Nat.le_refl _)) (Heap.get?_push_size _ rfl)
noncomputable def rle (ss : List Str) (j k : Nat) : Bool := decide (¬ (ss.getD k Str.empty).cps.toList < (ss.getD j Str.empty).cps.toList)
noncomputable def plainStep (ss : List Str) (o : List Nat) (k : Nat) : List Nat :=
  let p := (o.filter fun j => rle ss j k).length
  o.take p ++ [k] ++ o.drop p
noncomputable def plainOf (ss : List Str) (n : Nat) : List Nat := (List.range n).foldl (plainStep ss) []
theorem plain_succ (ss : List Str) (n : Nat) : plainOf ss (n + 1) = plainStep ss (plainOf ss n) n := by
  unfold plainOf
  rw [List.range_succ, List.foldl_append]; rfl
theorem plain_len (ss : List Str) (n : Nat) : (plainOf ss n).length = n := by
  induction n with
  | zero => rfl
  | succ n ih =>
    rw [plain_succ]
    unfold plainStep
    simp only [List.length_append, List.length_take, List.length_drop, List.length_cons, List.length_nil]
    omega
theorem plain_lt (ss : List Str) (n : Nat) : ∀ j ∈ plainOf ss n, j < n := by
  induction n with
  | zero => intro j hj; cases hj
  | succ n ih =>
    intro j hj
    rw [plain_succ] at hj
    unfold plainStep at hj
    simp only [List.mem_append, List.mem_singleton] at hj
    rcases hj with (hj | hj) | hj
    · exact Nat.lt_succ_of_lt (ih j (List.mem_of_mem_take hj))
    · exact lc (lR2 _ _) (.e z0 z1 (.g (lS z0) (lS z1))) lT hj
    · exact Nat.lt_succ_of_lt (ih j (List.mem_of_mem_drop hj))

end
-- U2
section
open PySem PySem.W PyProof.Rows PySem.Calls PySem.Spec PySem.Builtin.Str
section
variable {prog : Program} {w : World} {A : Around} {E : Value → Shared → Prop} {env : Env} {s : Shared}
theorem walks_lt {I : Addr} {fp wr : List Addr} {n : Nat} {P : Nat → Value → Prop} {St : Nat → Heap → Prop} (W : Walks prog w A I fp wr n P St) : Walks prog w A I fp wr n (fun i v => i < n ∧ P i v) St where
  sub := W.sub
  frame := W.frame
  item := fun i s Q E hi st hQ => W.item i s Q E hi st fun v h' tk hP => hQ v h' tk ⟨hi, hP⟩
  done := W.done
  self := W.self
theorem comp_range {elt iter : Expr} {x : Str} {px : Pos} {ifs : List Expr} {scope : Scope} {cl : List (Str × Addr)} {pos : Pos} {Q : Value → Shared → Prop} (hh : A.handled = none)
    (hclos : closureFor scope env = pure cl) (hcell : ∀ y ∈ scope.names, y.2 ≠ .cell) (hkind : scope.kind = .function)
    (hnames : ∀ y ∈ scope.names, y.2 = .local → scope.names.lookup y.1 = some .local) (hx : scope.names.lookup x = some .local)
    (h : wpAny (model prog w) A (eval iter env) (fun xv s₁ => Ex9 fun R a b c t1 t2 t3 n J => And8 (xv = .ref R) (IsRange s₁.heap R a b c t1 t2 t3) (Builtin.Range.small a b c = true) (Builtin.Range.rangeSize a b c = (n : Nat)) (n ≤ sizeLine) (J 0 [] []) (CompTurn prog w A env scope cl x ifs elt (fun i v => i < n ∧ ∃ t, v = .int (a + (i : Nat) * c) t) J s₁) (CompDone J n Q s₁)) E s)
    (hs : autoParam (∀ x, foldedSetIterable iter env x = pure x) aR) :
    wpAny (model prog w) A (eval (.ListComp elt [⟨.Name x px, iter, ifs, 0⟩] scope pos) env) Q E s := by
  rw [eval_ListComp]
  refine wpAny_comprehension_free (use := none) rfl hs hclos hkind hnames (wpAny_mono h (fun xv s₁ h₁ => ?_) fun _ _ e => e)
  obtain ⟨R, a, b, c, t1, t2, t3, n, J, rfl, hR, hsm, hsz', hsz, hJ, turn, done⟩ := h₁
  refine wpAny_pyIter_range hR hsm ?_
  rw [hsz']
  have W := walks_lt (Walks.range (prog := prog) (w := w) hh s₁.heap.objs.size a c n)
  refine comp_core (RR := fun acc C => compPost (model prog w) A E none Q acc C) W hsz J s₁.heap s₁.toks hcell hkind hx
    (by
      have e : IsRangeIter (s₁.heap.push { cls := .type "range_iterator", data := .fields #[rawInt a, rawInt (n : Int), rawInt c] }) s₁.heap.objs.size a n c := Heap.get?_push_size _ rfl
      simpa using e) ?_ ?_ ?_ (fun b o e => Heap.get?_push_of_some _ e) (by rw [Heap.size_push]; exact Nat.le_succ _) (Nat.le_refl _) hJ turn ?_
  · intro b hb
    rw [Heap.size_push, List.mem_singleton.mp hb]
    exact Nat.lt_succ_self _
  · intro b hb
    rw [List.mem_singleton.mp hb]
    exact Heap.get?_none_of_le (Nat.le_refl _)
  · intro i h st b hb
    rw [List.mem_singleton.mp hb]
    exact ⟨_, st⟩
  · intro D C h' tk m' ys news hD hC hDC hn hpl hJn hnews hk htk
    refine ⟨m', hn, fun h'' hs'' => ?_⟩
    obtain ⟨k, ho⟩ := hpl
    have hC0 : s₁.heap.get? C = none := by
      cases e : s₁.heap.get? C with
      | none => rfl
      | some o => have := Heap.get?_push_of_some { cls := .type "range_iterator", data := .fields #[rawInt a, rawInt (n : Int), rawInt c] } e; rw [hC] at this; cases this
    refine done D h'' tk ys.toList news k hJn hD (by rw [Array.toArray_toList]; exact hs''.extBut _ _ hDC ho) (fun p hp => ?_) (fun b o e => hs''.extBut b o (by rintro rfl; rw [hC0] at e; cases e) (hk b o e)) htk
    obtain ⟨a, b, c, d⟩ := hnews p hp
    exact ⟨hs''.extBut _ _ b a, c, d⟩
noncomputable def CompDoneU (prog : Program) (w : World) (A : Around) (E : Value → Shared → Prop) (u : Value → Sem Unit) (J : Nat → List Value → List (Addr × Obj) → Prop) (n : Nat) (Q : Value → Shared → Prop) (s₁ : Shared) : Prop :=
  ∀ D C h' tk m' ys news k, J n ys news → s₁.heap.get? D = none → s₁.heap.get? C = none → D ≠ C → h'.Ns C m' → h'.get? D = some (seqObj "list" ys.toArray k) → (∀ p ∈ news, h'.get? p.1 = some p.2 ∧ p.1 ≠ D ∧ p.1 ≠ C ∧ s₁.heap.get? p.1 = none) →
    (Ext s₁.heap h') → s₁.toks ≤ tk →
    wpAny (model prog w) A (u (.ref D)) (fun _ s'' => ∃ m, s''.heap.Ns C m ∧ ∀ h'', Heap.SameBut C s''.heap h'' → Q .none { s'' with heap := h'' }) E { s₁ with heap := h', toks := tk }
theorem comp_listU {elt iter : Expr} {x : Str} {px : Pos} {ifs : List Expr} {scope : Scope} {cl : List (Str × Addr)} {pos pos' : Pos} {u : Value → Sem Unit} {Q : Value → Shared → Prop} (hh : A.handled = none)
    (hclos : closureFor scope env = pure cl) (hcell : ∀ y ∈ scope.names, y.2 ≠ .cell) (hkind : scope.kind = .function)
    (hnames : ∀ y ∈ scope.names, y.2 = .local → scope.names.lookup y.1 = some .local) (hx : scope.names.lookup x = some .local)
    (h : wpAny (model prog w) A (eval iter env) (fun xv s₁ => Ex3 fun ax vs J => And6 (xv = .ref ax) (s₁.heap.IsList ax (List.toArray vs)) (vs.length ≤ sizeLine) (J 0 [] []) (CompTurn prog w A env scope cl x ifs elt (fun i v => vs[i]? = some v) J s₁) (CompDoneU prog w A E u J vs.length Q s₁)) E s)
    (hs : autoParam (∀ x, foldedSetIterable iter env x = pure x) aR) :
    wpAny (model prog w) A (comprehension (.ListComp elt [⟨.Name x px, iter, ifs, 0⟩] scope pos) scope env pos' (newList []) false (eval iter env) (some u)) Q E s := by
  refine wpAny_comprehension_free (use := some u) rfl hs hclos hkind hnames (wpAny_mono h (fun xv s₁ h₁ => ?_) fun _ _ e => e)
  obtain ⟨ax, vs, J, rfl, hl, hsz, hJ, turn, done⟩ := h₁
  refine wpAny_pyIter_list hl ?_
  obtain ⟨ol, hol, _⟩ := id hl
  have hax := Heap.lt_size hol
  have hne : ax ≠ s₁.heap.objs.size := Nat.ne_of_lt hax
  have W := Walks.list (prog := prog) (w := w) hh s₁.heap.objs.size ax hne vs.toArray
  have hP : (fun (i : Nat) (v : Value) => vs.toArray[i]? = some v) = fun i v => vs[i]? = some v := by funext i v; simp
  rw [hP, List.size_toArray] at W
  refine comp_core (RR := fun acc C => compPost (model prog w) A E (some u) Q acc C) W hsz J s₁.heap s₁.toks hcell hkind hx
    ⟨⟨_, Heap.get?_push_size _ rfl, rfl, rfl⟩, hl.push _⟩ ?_ ?_ ?_ (fun b o e => Heap.get?_push_of_some _ e) (by rw [Heap.size_push]; exact Nat.le_succ _) (Nat.le_refl _) hJ turn ?_
  · intro b hb
    rw [Heap.size_push]
    rcases List.mem_cons.mp hb with rfl | hb
    · exact Nat.lt_succ_self _
    · rw [List.mem_singleton.mp hb]; exact Nat.lt_succ_of_lt hax
  · intro b hb
    rw [List.mem_singleton.mp hb]
    cases e : s₁.heap.get? s₁.heap.objs.size with
    | none => rfl
    | some o => exact absurd (Heap.lt_size e) (Nat.lt_irrefl _)
  · intro i h ⟨⟨o, ho, _⟩, _⟩ b hb
    rw [List.mem_singleton.mp hb]
    exact ⟨o, ho⟩
  · intro D C h' tk m' ys news hD hC hDC hn hpl hJn hnews hk htk
    obtain ⟨k, ho⟩ := hpl
    refine done D C h' tk m' ys.toList news k hJn hD ?_ hDC hn (by rw [Array.toArray_toList]; exact ho) (fun p hp => ?_) hk htk
    · cases e : s₁.heap.get? C with
      | none => rfl
      | some o => have := Heap.get?_push_of_some { cls := .type "list_iterator", data := .fields #[.ref ax, .int 0 0] } e; rw [hC] at this; cases this
    · obtain ⟨a, b, c, d⟩ := hnews p hp
      exact ⟨a, c, b, d⟩
theorem comp_rangeU {elt iter : Expr} {x : Str} {px : Pos} {ifs : List Expr} {scope : Scope} {cl : List (Str × Addr)} {pos pos' : Pos} {u : Value → Sem Unit} {Q : Value → Shared → Prop} (hh : A.handled = none)
    (hclos : closureFor scope env = pure cl) (hcell : ∀ y ∈ scope.names, y.2 ≠ .cell) (hkind : scope.kind = .function)
    (hnames : ∀ y ∈ scope.names, y.2 = .local → scope.names.lookup y.1 = some .local) (hx : scope.names.lookup x = some .local)
    (h : wpAny (model prog w) A (eval iter env) (fun xv s₁ => Ex9 fun R a b c t1 t2 t3 n J => And8 (xv = .ref R) (IsRange s₁.heap R a b c t1 t2 t3) (Builtin.Range.small a b c = true) (Builtin.Range.rangeSize a b c = (n : Nat)) (n ≤ sizeLine) (J 0 [] []) (CompTurn prog w A env scope cl x ifs elt (fun i v => i < n ∧ ∃ t, v = .int (a + (i : Nat) * c) t) J s₁) (CompDoneU prog w A E u J n Q s₁)) E s)
    (hs : autoParam (∀ x, foldedSetIterable iter env x = pure x) aR) :
    wpAny (model prog w) A (comprehension (.ListComp elt [⟨.Name x px, iter, ifs, 0⟩] scope pos) scope env pos' (newList []) false (eval iter env) (some u)) Q E s := by
  refine wpAny_comprehension_free (use := some u) rfl hs hclos hkind hnames (wpAny_mono h (fun xv s₁ h₁ => ?_) fun _ _ e => e)
  obtain ⟨R, a, b, c, t1, t2, t3, n, J, rfl, hR, hsm, hsz', hsz, hJ, turn, done⟩ := h₁
  refine wpAny_pyIter_range hR hsm ?_
  rw [hsz']
  have W := walks_lt (Walks.range (prog := prog) (w := w) hh s₁.heap.objs.size a c n)
  refine comp_core (RR := fun acc C => compPost (model prog w) A E (some u) Q acc C) W hsz J s₁.heap s₁.toks hcell hkind hx
    (by
      have e : IsRangeIter (s₁.heap.push { cls := .type "range_iterator", data := .fields #[rawInt a, rawInt (n : Int), rawInt c] }) s₁.heap.objs.size a n c := Heap.get?_push_size _ rfl
      simpa using e) ?_ ?_ ?_ (fun b o e => Heap.get?_push_of_some _ e) (by rw [Heap.size_push]; exact Nat.le_succ _) (Nat.le_refl _) hJ turn ?_
  · intro b hb
    rw [Heap.size_push, List.mem_singleton.mp hb]
    exact Nat.lt_succ_self _
  · intro b hb
    rw [List.mem_singleton.mp hb]
    exact Heap.get?_none_of_le (Nat.le_refl _)
  · intro i h st b hb
    rw [List.mem_singleton.mp hb]
    exact ⟨_, st⟩
  · intro D C h' tk m' ys news hD hC hDC hn hpl hJn hnews hk htk
    obtain ⟨k, ho⟩ := hpl
    refine done D C h' tk m' ys.toList news k hJn hD ?_ hDC hn (by rw [Array.toArray_toList]; exact ho) (fun p hp => ?_) hk htk
    · cases e : s₁.heap.get? C with
      | none => rfl
      | some o => have := Heap.get?_push_of_some { cls := .type "range_iterator", data := .fields #[rawInt a, rawInt (n : Int), rawInt c] } e; rw [hC] at this; cases this
    · obtain ⟨a, b, c, d⟩ := hnews p hp
      exact ⟨a, c, b, d⟩
end
theorem countP_strOf (k : Str) : ∀ {vs : List Value} {ys : List Str}, StrsAre vs ys → vs.countP (isStrOf k) = ys.count k
  | _, _, .nil => rfl
  | _, _, .cons n t h => by simp [List.countP_cons, List.count_cons, isStrOf, countP_strOf k h]
theorem count_strs {prog : Program} {w : World} {A : Around} {E : Value → Shared → Prop} {s : Shared} {l : Addr} {vs : List Value} {ys : List Str} {k : Str} {t : Tok} {Q : Value → Shared → Prop} (hl : s.heap.IsList l vs.toArray) (hi : StrsAre vs ys)
    (h : Q (.int (ys.count k : Nat) s.toks) { s with toks := s.toks + 1 }) : wpAny (model prog w) A (call (.builtin "list.count") [.ref l, .str k t]) Q E s := by
  obtain ⟨⟨cls, dd, data, sl⟩, ho, hc, n, hd⟩ := id hl
  simp only at hc hd
  subst hc hd
  refine call_meets PySem.F.slot_list_count ⟨_, ho, rfl⟩ PySem.F.entry_list_count (PySem.F.args_list_count_2 _ _) (PySem.SeqAt.list_countAt l vs.toArray n dd sl (.str k t) (isStrOf k)) ⟨ho, fun y hy => (eq_isStrOf k t hi y (by simpa using hy)).at _ _, ?_⟩
  rw [show vs.toArray.toList = vs from rfl, countP_strOf k hi]
  exact h
theorem noDict {h : Heap} {l : Addr} {vs : Array Value} {k : Nat} (e : h.get? l = some (seqObj "list" vs k)) : h.NoDictAt (.ref l) := ⟨_, e, rfl⟩

end
-- U3
section
open PySem PySem.W PyProof.Rows PySem.Calls PySem.Spec PySem.Builtin.Str
noncomputable abbrev SCL : Scope := { kind := .function, names := [(Str.ofString "one", .cell), (Str.ofString "two", .cell), (Str.ofString "told", .local), (Str.ofString "range", .globalImplicit), (Str.ofString "len", .globalImplicit)], isGenerator := false, isCoroutine := false, more := [(Str.ofString "fast", Const.str (Str.ofString "one")), (Str.ofString "fast", Const.str (Str.ofString "two")), (Str.ofString "fast", Const.str (Str.ofString "k")), (Str.ofString "fast", Const.str (Str.ofString "told"))] }
noncomputable abbrev LLE (L c1 c2 : Addr) : Env := { scope := SCL, locals := L, globals := 3, cells := [(Str.ofString "two", c2), (Str.ofString "one", c1)], qual := Str.ofString "_law_less" ++ Str.ofString ".<locals>.", func := some 245, code := .ref 244, frame := some L, builtins := 0 }
noncomputable def bodyLL (w : World) : List Stmt := match (KXf w.params).lookup 245 with
  | some ⟨_, _, .func fd, _⟩ => match fd.body with
    | .stmts b => b
    | _ => []
  | _ => []
set_option maxRecDepth 100000 in
set_option maxHeartbeats 4000000 in
theorem llenter {w : World} {A : Around} {Q : Value → Shared → Prop} {E : Value → Shared → Prop} {h : Heap} {g : Array GenState} {d : Drawn} {t : Nat} {os : OsState} {p : Program} {loose : List Str} {mean : ExcName → Option Value} {mg mb : Str → Option Value} {l1 l2 : Addr}
  (X : (KF w).In h) (T : Top p loose mean mg mb h) (hroom : A.depth < recursionLimit)
  (hb : ∀ h₁ L c1 c2 tk m, Fr h L h₁ m → h₁.IsCell c1 (some (.ref l1)) → h₁.IsCell c2 (some (.ref l2)) → L ≠ c1 → L ≠ c2 → h.get? c1 = none → h.get? c2 = none →
    wpAny (model PG w) (A.deeper (LLE L c1 c2)) (execs (bodyLL w) (LLE L c1 c2)) (fun fl s' => Q (match fl with | .ret v => v | _ => .none) s') (fun e s' => wpAny (model PG w) (A.deeper (LLE L c1 c2)) (leaving (LLE L c1 c2) e) (fun _ s'' => E e s'') (fun e' s'' => E e' s'') s') ⟨h₁, g, d, tk, os⟩) :
   wpAny (model PG w) A (call (.ref 245) [.ref l1, .ref l2]) Q E ⟨h, g, d, t, os⟩ := by
  refine wpAny_call (codeAny_call_cells (binds := [(Str.ofString "one", .ref l1), (Str.ofString "two", .ref l2)]) hroom (X _ _ (by rfl)) rfl T.nolimit (codeRec_of X (by rfl)) rfl (by rfl) rfl (by intro x hx; simp only [List.mem_cons, List.not_mem_nil, or_false] at hx; rcases hx with rfl | rfl <;> exact .inr ⟨by rfl, by rfl⟩) (fun s₁ x => ?_))
  obtain ⟨⟨⟨h₁, tk, rfl⟩, ns, keep, fresh⟩, cell, apart, above⟩ := x
  refine hb h₁ h.objs.size (h.objs.size + 1) (h.objs.size + 1 + 1) tk _ ⟨ns, keep, Nat.le_refl _⟩ ?_ ?_ (Nat.ne_of_lt (by exact Nat.lt_succ_self _)) (Nat.ne_of_lt (by exact ar28 _)) (Heap.get?_none_of_le (by exact Nat.le_succ _)) (Heap.get?_none_of_le (by exact ar29 _))
  · refine cast ?_ (cell (Str.ofString "one") (h.objs.size + 1) (by rfl))
    rfl
  · refine cast ?_ (cell (Str.ofString "two") (h.objs.size + 1 + 1) (by rfl))
    rfl
theorem strs_drop : ∀ {vs : List Value} {ns : List Str}, StrsAre vs ns → ∀ k : Nat, StrsAre (vs.drop k) (ns.drop k)
  | _, _, h, 0 => h
  | _, _, .nil, _ + 1 => .nil
  | _, _, .cons _ _ h, k + 1 => strs_drop h k
theorem strs_take : ∀ {vs : List Value} {ns : List Str}, StrsAre vs ns → ∀ k : Nat, StrsAre (vs.take k) (ns.take k)
  | _, _, _, 0 => .nil
  | _, _, .nil, _ + 1 => .nil
  | _, _, .cons n t h, k + 1 => .cons n t (strs_take h k)
noncomputable def moreA (a b : List Str) (k : Nat) : Bool := decide (b.count (a.getD k Str.empty) < (a.drop k).count (a.getD k Str.empty))
noncomputable def moreB (a b : List Str) (k : Nat) : Bool := decide (a.count (b.getD k Str.empty) < (b.take (k + 1)).count (b.getD k Str.empty))
noncomputable def lessA (a b : List Str) : List Str := ((List.range a.length).reverse.filter (moreA a b)).map fun k => a.getD k Str.empty
noncomputable def lessB (a b : List Str) : List Str := ((List.range b.length).filter (moreB a b)).map fun k => b.getD k Str.empty
theorem rsmall3 : ∀ n : Nat, n < 64 → Builtin.Range.small ((n : Int) - 1) (-1) (-1) = true := by decide +kernel
theorem rsize3 : ∀ n : Nat, n < 64 → Builtin.Range.rangeSize ((n : Int) - 1) (-1) (-1) = n := by decide +kernel

end
-- V1
section
open PySem PySem.W PyProof.Rows PySem.Calls PySem.Spec PySem.Builtin.Str
noncomputable def cut (h : Heap) (S : List Addr) : Heap := ⟨h.objs.mapIdx fun i o => if i ∈ S then ⟨o.cls, o.dict, .freed, o.slots⟩ else o, h.life⟩
theorem cut_get {h : Heap} {S : List Addr} {b : Addr} : (cut h S).get? b = if b ∈ S then none else h.get? b := by
  unfold cut Heap.get?
  simp only [Array.getElem?_mapIdx]
  by_cases q : b ∈ S
  · rw [if_pos q]
    cases h.objs[b]? with
    | none => simp
    | some o => simp [q]
  · rw [if_neg q]
    cases h.objs[b]? with
    | none => simp
    | some o => simp [q]
theorem cut_none {h : Heap} {S : List Addr} {b : Addr} (hb : b ∈ S) : (cut h S).get? b = none := by rw [cut_get, if_pos hb]
theorem cut_none' {h : Heap} {S : List Addr} {b : Addr} (hb : h.get? b = none) : (cut h S).get? b = none := by rw [cut_get]; split; rfl; exact hb
theorem cut_some {h : Heap} {S : List Addr} {b : Addr} {o : Obj} (hb : b ∉ S) (e : h.get? b = some o) : (cut h S).get? b = some o := by rw [cut_get, if_neg hb]; exact e
theorem cut_size {h : Heap} {S : List Addr} : (cut h S).objs.size = h.objs.size := by unfold cut; simp
theorem cut_stays {h h' : Heap} {S : List Addr} (k : ExtZ S h h') : (cut h S).StaysIn h' := by
  intro b o e
  rw [cut_get] at e
  split at e
  · cases e
  · rename_i q
    exact k b o q e
theorem cut_keep {h h' : Heap} {S : List Addr} (k : (cut h S).StaysIn h') : ExtZ S h h' :=
  fun b o x e => k b o (cut_some x e)
theorem note_land {M : Model} {A : Around} {E : Value → Shared → Prop} {s : Shared} {h0 : Heap} {env envO : Env} {L Lo e : Addr} {oL oLo : Obj} {cls : String} {S : List Addr} {Q : Unit → Shared → Prop} (hfr : A.frames = some [env, envO]) (hk : env.scope.kind ≠ .module) (hko : envO.scope.kind ≠ .module)
    (hS : L ∈ S) (hSo : Lo ∈ S) (hf : env.frame = some L) (hfo : envO.frame = some Lo) (hL : h0.get? L = some oL) (hLo : h0.get? Lo = some oLo) (hdL : ∀ vs, oL.data ≠ .fields vs) (hdLo : ∀ vs, oLo.data ≠ .fields vs) (ne : Heap.NewExc h0 s.heap e cls)
    (hq : ∀ h' a0, Heap.FlyingW (cut h0 S) [env, envO] e (.type cls) a0 h' → (∃ sl, h'.get? L = some { oL with slots := sl }) → (∃ sl, h'.get? Lo = some { oLo with slots := sl }) → Q () { s with heap := h' }) :
    wpAny M A (noteFrame (.ref e) env) (fun _ s₂ => wpAny M A (setFlight (.ref e) none) Q E s₂) E s := by
  obtain ⟨ob, t, he, hc, hd⟩ := ne.there
  have hne : (cut h0 S).get? e = none := cut_none' ne.new
  have ff : s.heap.FunFrames (cut h0 S) [env, envO] := ⟨hk, ⟨L, oL, hf, cut_none hS, ne.keeps _ _ hL, hdL⟩, hko, ⟨Lo, oLo, hfo, cut_none hSo, ne.keeps _ _ hLo, hdLo⟩, trivial⟩
  unfold noteFrame
  simp only [hf]
  refine wpAny_bind (wpAny_field he hd rfl ?_)
  rw [if_neg (by simp)]
  refine wpAny_newEntryW hfr ff hf he (cut_stays fun b o _ x => ne.keeps b o x) hne hd (by simp) rfl fun h' hL' => ?_
  obtain ⟨k1, k2, k3, k4⟩ := hL'
  rw [hc] at k3
  exact hq h' t ⟨k1, hne, k2, k3⟩ (k4 _ _ (ne.keeps _ _ hL) hdL) (k4 _ _ (ne.keeps _ _ hLo) hdLo)

end
-- V2
section
open PySem PySem.W PyProof.Rows PySem.Calls PySem.Spec PySem.Builtin.Str
theorem mapS (vs : List Value) (k : Nat) (f : Array Value → Array Value) (ws : List Value) (h : f vs.toArray = ws.toArray) : ∃ k', Obj.mapSeq f (seqObj "list" vs.toArray k) = seqObj "list" ws.toArray k' := by
  rw [← h]
  unfold Obj.mapSeq seqObj
  exact ⟨_, rfl⟩
section
variable {prog : Program} {w : World} {A : Around} {E : Value → Shared → Prop} {s : Shared}
theorem upSeq {l : Addr} {vs ws : List Value} {k : Nat} {f : Array Value → Array Value} (e : s.heap.get? l = some (seqObj "list" vs.toArray k)) (h : f vs.toArray = ws.toArray) :
    ∃ k', (s.heap.update l (Obj.mapSeq f)).get? l = some (seqObj "list" ws.toArray k') := by
  obtain ⟨k', hk⟩ := mapS vs k f ws h
  exact ⟨k', (Heap.get?_update_self (Obj.mapSeq f) e (by rw [hk]; rfl)).trans (congrArg some hk)⟩
theorem pop_c {l : Addr} {vs : List Value} {y : Value} {k : Nat} {Q : Value → Shared → Prop} (e : s.heap.get? l = some (seqObj "list" (vs ++ [y]).toArray k)) (hsz : vs.length + 1 ≤ sizeLine)
    (hq : ∀ h' k', (ExtB l s.heap h') → h'.get? l = some (seqObj "list" vs.toArray k') → Q y { s with heap := h' }) :
    wpAny (model prog w) A (call (.builtin "list.pop") [.ref l]) Q E s := by
  refine call_meets PySem.F.slot_list_pop ⟨_, e, rfl⟩ PySem.F.entry_list_pop (PySem.F.args_list_pop_1 _) (MeetsSeq.list_pop_last l (vs ++ [y]).toArray k y (by simp) (by simp; assumption)) ⟨e, ?_⟩
  obtain ⟨k', e2⟩ := upSeq (f := fun xs => xs.eraseIdxIfInBounds ((vs ++ [y]).toArray.size - 1)) (ws := vs) e (by
    apply Array.ext'
    simp [List.eraseIdx_append_of_length_le])
  exact hq _ _ (fun b o hb he => (Heap.get?_update_other _ _ (Ne.symm hb)).trans he) e2
theorem append_c {l : Addr} {vs : List Value} {y : Value} {k : Nat} {Q : Value → Shared → Prop} (e : s.heap.get? l = some (seqObj "list" vs.toArray k)) (hsz : vs.length ≤ sizeLine)
    (hq : ∀ h' k', (ExtB l s.heap h') → h'.get? l = some (seqObj "list" (vs ++ [y]).toArray k') → Q .none { s with heap := h' }) :
    wpAny (model prog w) A (call (.builtin "list.append") [.ref l, y]) Q E s := by
  refine call_meets PySem.F.slot_list_append ⟨_, e, rfl⟩ PySem.F.entry_list_append (PySem.F.args_list_append_2 _ _) (list_append l vs.toArray k y (by simpa using hsz)) ⟨e, ?_⟩
  obtain ⟨k', e2⟩ := upSeq (f := fun xs => xs.push y) (ws := vs ++ [y]) e (by simp)
  exact hq _ _ (fun b o hb he => (Heap.get?_update_other _ _ (Ne.symm hb)).trans he) e2
theorem strs_erase : ∀ {vs : List Value} {ns : List Str}, StrsAre vs ns → ∀ j : Nat, StrsAre (vs.eraseIdx j) (ns.eraseIdx j)
  | _, _, .nil, _ => .nil
  | _, _, .cons _ _ h, 0 => h
  | _, _, .cons n t h, j + 1 => .cons n t (strs_erase h j)
theorem remove_c {l : Addr} {vs : List Value} {ys : List Str} {x : Str} {t : Tok} {k : Nat} {Q : Value → Shared → Prop} (hA : A.handled = none) (e : s.heap.get? l = some (seqObj "list" vs.toArray k)) (hS : StrsAre vs ys) (hsz : vs.length ≤ sizeLine)
    (hq : x ∈ ys → ∀ h' k' ws, (ExtB l s.heap h') → h'.get? l = some (seqObj "list" (ws : List Value).toArray k') → StrsAre ws (ys.erase x) → Q .none { s with heap := h' })
    (hE : x ∉ ys → ∀ h' tk e, Heap.NewExc s.heap h' e "ValueError" → E (.ref e) { s with heap := h', toks := tk }) :
    wpAny (model prog w) A (call (.builtin "list.remove") [.ref l, .str x t]) Q E s := by
  have he : ∀ y, y ∈ vs.toArray → MeetsSeq.EqGives y (.str x t) (isStrOf x y) := fun y hy => eq_isStrOf x t hS y (by simpa using hy)
  have hat : ∀ m (hm : m < vs.toArray.size) (hm' : m < ys.length), isStrOf x vs.toArray[m] = (ys[m] == x) := by
    intro m hm hm'
    obtain ⟨y, u, hv, hy⟩ := Mine.StrsAre.at hS (i := m) (v := vs.toArray[m]) (by simp at hm; simp [hm])
    rw [hv]
    rw [List.getElem?_eq_getElem hm'] at hy
    cases hy
    rfl
  have hlen : vs.length = ys.length := hS.length
  by_cases hx : x ∈ ys
  · have hj : ys.idxOf x < ys.length := List.idxOf_lt_length_iff.mpr hx
    refine call_meets PySem.F.slot_list_remove ⟨_, e, rfl⟩ PySem.F.entry_list_remove (PySem.F.args_list_remove_2 _ _) (MeetsSeq.list_remove l vs.toArray k (.str x t) (isStrOf x) he (ys.idxOf x) (by simp; exact ar14 ‹_› ‹_›) ?_ ?_ (by simpa using hsz)) ⟨e, ?_⟩
    · rw [hat _ _ hj]; simp
    · intro m hm hlt
      rw [hat _ _ (by exact ar35 ‹_› ‹_›)]
      have := List.not_of_lt_findIdx (p := (· == x)) (xs := ys) (i := m) hlt
      simpa using this
    · obtain ⟨k', e2⟩ := upSeq (f := fun xs => xs.eraseIdxIfInBounds (ys.idxOf x)) (ws := vs.eraseIdx (ys.idxOf x)) e (by apply Array.ext'; simp)
      refine hq hx _ _ _ (fun b o hb he => (Heap.get?_update_other _ _ (Ne.symm hb)).trans he) e2 ?_
      rw [List.erase_eq_eraseIdx_of_idxOf rfl]
      exact strs_erase hS _
  · refine call_meets PySem.F.slot_list_remove ⟨_, e, rfl⟩ PySem.F.entry_list_remove (PySem.F.args_list_remove_2 _ _) (MeetsSeq.list_remove_none l vs.toArray k (.str x t) (isStrOf x) he ?_) ⟨e, hA, fun h' tk ex hn => hE hx h' tk ex hn⟩
    intro m hm
    rw [hat _ _ (by simp at hm; exact ar15 ‹_› ‹_›)]
    have hm' : m < ys.length := by simp at hm; exact ar15 ‹_› ‹_›
    cases q : (ys[m] == x) with
    | false => rfl
    | true => exact absurd (by rw [← eq_of_beq q]; exact List.getElem_mem hm') hx
end

end
-- V3
section
open PySem PySem.W PyProof.Rows PySem.Calls PySem.Spec PySem.Builtin.Str
noncomputable def unoStep (st : List Str × List Str) (x : Str) : List Str × List Str := if x ∈ st.2 then (st.1, st.2.erase x) else (st.1 ++ [x], st.2)
noncomputable def uno (s1 s2 : List Str) : List Str × List Str := s1.reverse.foldl unoStep ([], s2)
theorem uno_in {st : List Str × List Str} {x : Str} (h : x ∈ st.2) : unoStep st x = (st.1, st.2.erase x) := if_pos h
theorem uno_out {st : List Str × List Str} {x : Str} (h : x ∉ st.2) : unoStep st x = (st.1 ++ [x], st.2) := if_neg h
theorem uno_len (s1 : List Str) : ∀ st : List Str × List Str, (s1.foldl unoStep st).1.length ≤ st.1.length + s1.length ∧ (s1.foldl unoStep st).2.length ≤ st.2.length := by
  induction s1 with
  | nil => intro st; exact ⟨Nat.le_refl _, Nat.le_refl _⟩
  | cons x r ih =>
    intro st
    obtain ⟨a, b⟩ := ih (unoStep st x)
    have c : (unoStep st x).1.length ≤ st.1.length + 1 ∧ (unoStep st x).2.length ≤ st.2.length := by
      unfold unoStep
      split
      · exact ⟨Nat.le_succ _, by rw [List.length_erase]; split <;> exact Nat.sub_le _ _⟩
      · exact ⟨by simp, Nat.le_refl _⟩
    simp only [List.foldl_cons, List.length_cons]
    exact ⟨lc (lR4 _ _ _ _) (.h z0 (lA z1 z2) (.h z1 (lS z3) (.g z0 (lA z3 (lS z2))))) lT a c.1, lc (lR3 _ _ _) (.h z0 z1 (.h z1 z2 (.g z0 z2))) lT b c.2⟩
theorem uno_step (s1 s2 : List Str) (n : Nat) (x : Str) (h : s1[n]? = some x) : (s1.drop n).reverse.foldl unoStep ([], s2) = unoStep ((s1.drop (n + 1)).reverse.foldl unoStep ([], s2)) x := by
  obtain ⟨hn, hx⟩ := List.getElem?_eq_some_iff.mp h
  rw [List.drop_eq_getElem_cons hn, hx, List.reverse_cons, List.foldl_append]
  rfl

end
-- W1
section
open PySem PySem.W PyProof.Rows PySem.Calls PySem.Spec PySem.Builtin.Str
section
variable {prog : Program} {w : World} {A : Around} {E : Value → Shared → Prop} {Q : Flow → Shared → Prop} {s : Shared} {env : Env} {h₀ : Heap}
noncomputable def EnumStep (h₀ : Heap) (L e it : Addr) (own : List (Addr × Obj)) (Jn : (Str → Option Value) → List (Addr × Obj) → Prop) (s₁ : Shared) (f : Flow) (s₂ : Shared) : Prop :=
  (f = .next ∨ f = .cont) ∧ Ex4 fun h' tk m₂ news₂ => And5 (s₂ = { s₁ with heap := h', toks := tk }) (Fr h₀ L h' m₂) (News h₀ L h' (own ++ news₂)) ((∀ p ∈ news₂, p.1 ≠ e ∧ p.1 ≠ it)) (Jn m₂ news₂)
theorem codeAny_enum {R : Result → Shared → Prop} {xi xv : Str} {pi pv pt : Pos} {x1} {body : List Stmt} {e it l : Addr} {n : Nat} {m : Str → Option Value} {news : List (Addr × Obj)} {old : Value}
    (hh : A.handled = none) (hxi : env.kindOf xi = some .local) (hxv : env.kindOf xv = some .local)
    (hp : (env.scope.kind == .class || (env.scope.kind == .module && env.locals != env.globals)) = false)
    (hei : e ≠ it) (heL : e ≠ env.locals) (hiL : it ≠ env.locals) (he0 : h₀.get? e = none) (hi0 : h₀.get? it = none)
    (he : IsEnum s.heap e it 0 old) (hit : s.heap.IsListIter it l 0) (F : Fr h₀ env.locals s.heap m) (N : News h₀ env.locals s.heap news) (hnw : ∀ p ∈ news, p.1 ≠ e ∧ p.1 ≠ it)
    (J : Nat → (Str → Option Value) → List (Addr × Obj) → Prop) (h0 : J 0 m news)
    (hl : ∀ i m news, J i m news → Ex2 fun vs kk => (l, seqObj "list" (vs : List Value).toArray kk) ∈ news ∧ vs.length = n)
    (step : ∀ i v tk m₁ news₁ s₁ oe oi, i < n → J i m₁ news₁ → (∀ vs kk, (l, seqObj "list" (vs : List Value).toArray kk) ∈ news₁ → vs[i]? = some v) → (∀ p ∈ news₁, p.1 ≠ e ∧ p.1 ≠ it) → (Ex2 fun h tk => s₁ = { s with heap := h, toks := tk }) →
      Fr h₀ env.locals s₁.heap (fun y => if y = xv then some v else if y = xi then some (.int i tk) else m₁ y) → News h₀ env.locals s₁.heap ([(e, oe), (it, oi)] ++ news₁) →
      wpAny (model prog w) A (execs body env) (EnumStep h₀ env.locals e it [(e, oe), (it, oi)] (J (i + 1)) s₁) (notedBy (model prog w) A env fun e s' => R (.error e) s') s₁)
    (hR : ∀ h' tk m' news', Fr h₀ env.locals h' m' → News h₀ env.locals h' news' → J n m' news' → R (.ok .next) { s with heap := h', toks := tk }) :
    codeAny (model prog w) A (.forLoop (.Tuple [.Name xi pi, .Name xv pv] x1 pt) (.ref e) body [] env) R s := by
  refine codeAny_forLoop_any
    (fun k s' => Ex6 fun h' tk m' news' i old => And9 (s' = { s with heap := h', toks := tk }) (IsEnum h' e it ((i : Nat) : Int) old) (h'.IsListIter it l i) (Fr h₀ env.locals h' m') (News h₀ env.locals h' news') ((∀ p ∈ news', p.1 ≠ e ∧ p.1 ≠ it)) (J i m' news') (i ≤ n) (k = n + 1 - i)) ?_ (n + 1)
    ⟨s.heap, s.toks, m, news, 0, old, rfl, he, hit, F, N, hnw, h0, Nat.zero_le _, rfl⟩
  rintro k s' ⟨H, tk, m', news', i, old, rfl, he', hit', F', N', hnw', hJ, hi, rfl⟩
  obtain ⟨vs, kk, hml, hlen⟩ := hl _ _ _ hJ
  have hl' : H.IsList l vs.toArray := ⟨_, (N' _ hml).1, rfl, _, rfl⟩
  by_cases hlt : i < n
  · have hv : vs.toArray[i]? = some (vs[i]'(by exact ar14 ‹_› ‹_›)) := by simp [hlen, hlt]
    have heH : e < H.objs.size := Heap.lt_size he'
    have hLH : env.locals < H.objs.size := F'.ns.lt
    obtain ⟨oi, hoi, _⟩ := id hit'
    have hiH : it < H.objs.size := Heap.lt_size hoi
    refine wpAny_pyNext_enum_item he' hit' hl' hv hei fun h₁ heo hit₁ ht₁ hz₁ hk₁ => ?_
    refine wpAny_letOwnedTupleGo_enum heo fun h₂ he₂ hs₂ => ?_
    replace hs₂ : Heap.SameBut e h₁ h₂ := hs₂
    have ht₂ : h₂.IsTuple H.objs.size #[.int i tk, vs[i]'(by exact ar14 ‹_› ‹_›)] := ⟨_, (hs₂.2 _ (Nat.ne_of_gt heH)).trans ht₁, rfl, _, rfl⟩
    have hz₂ : h₂.objs.size = H.objs.size + 1 := hs₂.1.trans hz₁
    refine wpAny_assign_Tuple hh ht₂ rfl rfl fun h₃ hx₃ => ?_
    replace hx₃ : Heap.ExtBut h₂.objs.size h₂ h₃ := hx₃
    have old₃ : ∀ b o, b < H.objs.size → h₂.get? b = some o → h₃.get? b = some o := fun b o hb x => hx₃ b o (by rw [hz₂]; exact Nat.ne_of_lt (Nat.lt_succ_of_lt hb)) x
    have up : ∀ b o, b ≠ e → b ≠ it → H.get? b = some o → h₃.get? b = some o := fun b o x y z => old₃ b o (Heap.lt_size z) ((hs₂.2 b x).trans (hk₁ b o x y z))
    have F₃ : Fr h₀ env.locals h₃ m' := ⟨F'.ns.at' fun o x => up _ o (Ne.symm heL) (Ne.symm hiL) x, fun b o x => up b o (fun q => by rw [q, he0] at x; cases x) (fun q => by rw [q, hi0] at x; cases x) (F'.keep b o x), F'.above⟩
    obtain ⟨oi₁, hoi₁, hc₁, hd₁⟩ := id hit₁
    obtain ⟨oe, heE, hoe⟩ : ∃ oe : Obj, h₃.get? e = some oe ∧ ∀ hh : Heap, hh.get? e = some oe → IsEnum hh e it ((i + 1 : Nat) : Int) (vs[i]'(by exact ar14 ‹_› ‹_›)) := ⟨_, old₃ _ _ heH he₂, fun _ x => x⟩
    have hiE : h₃.get? it = some oi₁ := old₃ _ _ hiH ((hs₂.2 it (Ne.symm hei)).trans hoi₁)
    have N₃ : News h₀ env.locals h₃ ([(e, oe), (it, oi₁)] ++ news') := by
      intro p hp
      rcases List.mem_append.mp hp with hp | hp
      · simp only [List.mem_cons, List.not_mem_nil, or_false] at hp
        rcases hp with rfl | rfl
        · exact ⟨heE, heL, he0⟩
        · exact ⟨hiE, hiL, hi0⟩
      · exact ⟨up _ _ (hnw' p hp).1 (hnw' p hp).2 (N' p hp).1, (N' p hp).2⟩
    show wpAny _ A (do holding [vs[i]'(by exact ar14 ‹_› ‹_›)] (assign (.Name xi pi) env (.int i tk)); do holding [] (assign (.Name xv pv) env (vs[i]'(by exact ar14 ‹_› ‹_›))); pure ()) _ _ _
    refine wpAny_bind (wpAny_holding (wpAny_assign_Name (wpAny_storeName_local hxi F₃.ns (fun h₄ hn₄ hs₄ => ?_) hp)))
    replace hs₄ : Heap.SameBut env.locals h₃ h₄ := hs₄
    refine wpAny_bind (wpAny_holding (wpAny_assign_Name (wpAny_storeName_local hxv hn₄ (fun h₅ hn₅ hs₅ => wpAny_pure ?_) hp)))
    replace hs₅ : Heap.SameBut env.locals h₄ h₅ := hs₅
    have F₅ := Fr_set (Fr_set F₃ hn₄ hs₄) hn₅ hs₅
    have N₅ : News h₀ env.locals h₅ ([(e, oe), (it, oi₁)] ++ news') := fun p hp => ⟨(hs₅.2 _ (N₃ p hp).2.1).trans ((hs₄.2 _ (N₃ p hp).2.1).trans (N₃ p hp).1), (N₃ p hp).2⟩
    refine wpAny_mono (step i (vs[i]'(by exact ar14 ‹_› ‹_›)) tk m' news' _ oe oi₁ hlt hJ (fun ws kk' hm' => ?_) hnw' ⟨_, _, rfl⟩ F₅ N₅) (fun f s₃ h₆ => ?_) fun _ _ x => x
    · have a := (N' _ hm').1
      have b := (N' _ hml).1
      rw [a] at b
      simp only [Option.some.injEq] at b
      have c : ws = vs := by
        have := congrArg Obj.data b
        simp only [seqObj] at this
        injection this with this _
        simpa using congrArg Array.toList this
      rw [c]; simp [hlen, hlt]
    · obtain ⟨hf, h', tk', m₂, news₂, rfl, F₆, N₆, hn₆, hJ₆⟩ := h₆
      have he6 := (N₆ _ (List.mem_append_left _ (.head _))).1
      have hi6 := (N₆ _ (List.mem_append_left _ (.tail _ (.head _)))).1
      have fin : ∃ m, m < n + 1 - i ∧ (Ex6 fun h'' tk m' news' i old => And9 (({ s with heap := h', toks := tk' } : Shared) = { s with heap := h'', toks := tk }) (IsEnum h'' e it ((i : Nat) : Int) old) (h''.IsListIter it l i) (Fr h₀ env.locals h'' m') (News h₀ env.locals h'' news') ((∀ p ∈ news', p.1 ≠ e ∧ p.1 ≠ it)) (J i m' news') (i ≤ n) (m = n + 1 - i)) :=
        ⟨n + 1 - (i + 1), by exact lc (lR4 _ _ _ _) (.e (lA z0 (lS z1)) (lS z2) (.h (lS z2) (lA z3 z1) (.g (lS z0) z3))) lT (Nat.sub_add_cancel (lc (lR2 _ _) (.h z0 z1 (.g (lS z0) (lS z1))) lT hi)) (lU _ _), h', tk', m₂, news₂, i + 1, _, rfl, hoe _ he6, ⟨oi₁, hi6, hc₁, hd₁⟩, F₆, fun p hp => N₆ p (List.mem_append_right _ hp), hn₆, hJ₆, hlt, rfl⟩
      rcases hf with rfl | rfl <;> exact fin
  · have hin : i = n := by exact ar25 ‹_› ‹_›
    subst hin
    refine wpAny_pyNext_enum_end hh he' hit' hl' (by simp [hlen]) fun h₁ he₁ => wpAny_execs_nil ?_
    have up : ExtB it H h₁ := fun b o x z => he₁ b o x z
    exact hR h₁ tk m' news' ⟨F'.ns.at' fun o x => up _ o (Ne.symm hiL) x, fun b o x => up b o (fun q => by rw [q, hi0] at x; cases x) (F'.keep b o x), F'.above⟩ (fun p hp => ⟨up _ _ (hnw' p hp).2 (N' p hp).1, (N' p hp).2⟩) hJ
end

end
-- W2
section
open PySem PySem.W PyProof.Rows PySem.Calls PySem.Spec PySem.Builtin.Str
end
section
noncomputable abbrev OBJ0 : Obj := ⟨.type "object", none, .plain, #[]⟩
theorem eq_null {w : World} {A : Around} {E : Value → Shared → Prop} {Q : Value → Shared → Prop} {s : Shared} {z : Addr} {x : Str} {t : Tok} (hu : A.units < cLine) (hz : s.heap.get? z = some OBJ0) (hq : Q (.bool false) s) :
    wpAny (model PG w) A (compareOp .Eq (.ref z) (.str x t)) Q E s := by
  obtain ⟨h, g, d, tk, os⟩ := s
  dsimp only at *
  show wpAny _ _ (richCompare .Eq (.ref z) (.str x t)) _ _ _
  unfold richCompare
  refine wpAny_holding (wpAny_bind (wpAny_cRoomFor hu ?_))
  wtm_at "sc"
  (repeat wtm_at "wone")
  have f : isSubtype (Value.type "str") (Value.type "object") = pure true := by kernel_rfl
  k_call_by "ft" (f)
  (repeat (k_call_by "nt" [call _ _ _, tryCompare ..]; wtm_at "wone"))
  refine wpAny_tryCompare_declines (typeIs_str _ x t) PySem.F.slot_str_eq ?_
  refine wpAny_call_entry PySem.F.slot_str_eq (typeIs_str _ x t) PySem.F.entry_str_eq ?_ (PySem.F.args_str_eq_2 _ _)
  wtm_at "sc"
  (repeat (k_call_by "nt" [call _ _ _, tryCompare ..]; wtm_at "wone"))
  refine ⟨_, rfl, rfl, ?_⟩
  wtm_at "sc"
  (repeat (k_call_by "nt" [call _ _ _, tryCompare ..]; wtm_at "wone"))
  refine wpAny_tryCompare_declines (T := "object") ⟨_, hz, rfl⟩ PySem.F.slot_object_eq ?_
  refine wpAny_call_entry PySem.F.slot_object_eq ⟨_, hz, rfl⟩ PySem.F.entry_object_eq ?_ (PySem.F.args_object_eq_2 _ _)
  wtm_at "sc"
  (repeat (k_call_by "nt" [call _ _ _, tryCompare ..]; wtm_at "wone"))
  refine ⟨_, rfl, rfl, ?_⟩
  wtm_at "sc"
  (repeat (k_call_by "nt" [call _ _ _, tryCompare ..]; wtm_at "wone"))
  exact hq

end
-- W3X
section
open PySem PySem.W PyProof.Rows PySem.Calls PySem.Spec PySem.Builtin.Str
section
set_option maxRecDepth 100000 in
set_option maxHeartbeats 8000000 in
theorem tnew_x {w : World} {prog : Program} {A : Around} {E : Value → Shared → Prop} {h : Heap} {g : Array GenState} {d : Drawn} {t : Nat} {os : OsState} {x : Nat → Int} {y : Nat → Tok} {v : Nat → Value} {t1 t2 : Tok} {B C N T : Addr} {a b : Int} {z : Str} {ta tb tz : Tok} {k : Nat}
  (eC : h.get? C = some ⟨.type "type", none, .cls { name := Str.ofString "Mismatch", bases := [.type "tuple"], mro := [.ref C, .type "tuple", .type "object"], ns := N, qualname := Str.ofString "Mismatch", hasDict := false }, #[some (.ref B), none, some (.str (Str.ofString "Mismatch") t1), some (.str (Str.ofString "Mismatch") t2), some .none, some (.bool false)]⟩)
  (eN : h.get? N = some ⟨.type "dict", none, .dict #[⟨x 0, .str (Str.ofString "__module__") (y 0), v 0⟩, ⟨x 1, .str (Str.ofString "__firstlineno__") (y 1), v 1⟩, ⟨x 2, .str (Str.ofString "__doc__") (y 2), v 2⟩, ⟨x 3, .str (Str.ofString "__slots__") (y 3), v 3⟩, ⟨x 4, .str (Str.ofString "_fields") (y 4), v 4⟩, ⟨x 5, .str (Str.ofString "_field_defaults") (y 5), v 5⟩,
   ⟨x 6, .str (Str.ofString "__new__") (y 6), v 6⟩, ⟨x 7, .str (Str.ofString "_make") (y 7), v 7⟩, ⟨x 8, .str (Str.ofString "_replace") (y 8), v 8⟩, ⟨x 9, .str (Str.ofString "__replace__") (y 9), v 9⟩, ⟨x 10, .str (Str.ofString "__repr__") (y 10), v 10⟩, ⟨x 11, .str (Str.ofString "_asdict") (y 11), v 11⟩, ⟨x 12, .str (Str.ofString "__getnewargs__") (y 12), v 12⟩, ⟨x 13, .str (Str.ofString "__match_args__") (y 13), v 13⟩, ⟨x 14, .str (Str.ofString "actual") (y 14), v 14⟩, ⟨x 15, .str (Str.ofString "expected") (y 15), v 15⟩, ⟨x 16, .str (Str.ofString "value") (y 16), v 16⟩, ⟨x 17, .str (Str.ofString "__static_attributes__") (y 17), v 17⟩] 2, #[]⟩)
  (eT : h.get? T = some ⟨.type "tuple", none, .seq #[.int a ta, .int b tb, .str z tz] k, #[]⟩) :
  wpAny (model prog w) A (call (.builtin "tuple.__new__") [.ref C, .ref T]) (fun v s' => Ex5 fun h' I k tk dd => And5 ((Ext h h')) (h.get? I = none) (h'.get? I = some ⟨.ref C, dd, .seq #[.int a ta, .int b tb, .str z tz] k, #[]⟩) (v = .ref I) (s' = ⟨h', g, d, tk, os⟩)) E ⟨h, g, d, t, os⟩ := by
  x_run
end
section
set_option maxRecDepth 100000 in
set_option maxHeartbeats 8000000 in
theorem init_x {w : World} {prog : Program} {A : Around} {E : Value → Shared → Prop} {h : Heap} {g : Array GenState} {d : Drawn} {t : Nat} {os : OsState} {x : Nat → Int} {y : Nat → Tok} {v : Nat → Value} {t1 t2 : Tok} {B C N I : Addr} {a b : Int} {z : Str} {ta tb tz : Tok} {k : Nat} {dd : Option Addr}
  (eC : h.get? C = some ⟨.type "type", none, .cls { name := Str.ofString "Mismatch", bases := [.type "tuple"], mro := [.ref C, .type "tuple", .type "object"], ns := N, qualname := Str.ofString "Mismatch", hasDict := false }, #[some (.ref B), none, some (.str (Str.ofString "Mismatch") t1), some (.str (Str.ofString "Mismatch") t2), some .none, some (.bool false)]⟩)
  (eN : h.get? N = some ⟨.type "dict", none, .dict #[⟨x 0, .str (Str.ofString "__module__") (y 0), v 0⟩, ⟨x 1, .str (Str.ofString "__firstlineno__") (y 1), v 1⟩, ⟨x 2, .str (Str.ofString "__doc__") (y 2), v 2⟩, ⟨x 3, .str (Str.ofString "__slots__") (y 3), v 3⟩, ⟨x 4, .str (Str.ofString "_fields") (y 4), v 4⟩, ⟨x 5, .str (Str.ofString "_field_defaults") (y 5), v 5⟩,
   ⟨x 6, .str (Str.ofString "__new__") (y 6), v 6⟩, ⟨x 7, .str (Str.ofString "_make") (y 7), v 7⟩, ⟨x 8, .str (Str.ofString "_replace") (y 8), v 8⟩, ⟨x 9, .str (Str.ofString "__replace__") (y 9), v 9⟩, ⟨x 10, .str (Str.ofString "__repr__") (y 10), v 10⟩, ⟨x 11, .str (Str.ofString "_asdict") (y 11), v 11⟩, ⟨x 12, .str (Str.ofString "__getnewargs__") (y 12), v 12⟩, ⟨x 13, .str (Str.ofString "__match_args__") (y 13), v 13⟩, ⟨x 14, .str (Str.ofString "actual") (y 14), v 14⟩, ⟨x 15, .str (Str.ofString "expected") (y 15), v 15⟩, ⟨x 16, .str (Str.ofString "value") (y 16), v 16⟩, ⟨x 17, .str (Str.ofString "__static_attributes__") (y 17), v 17⟩] 2, #[]⟩)
  (eI : h.get? I = some ⟨.ref C, dd, .seq #[.int a ta, .int b tb, .str z tz] k, #[]⟩) :
  wpAny (model prog w) A (call (.builtin "object.__init__") [.ref I, .int a ta, .int b tb, .str z tz]) (fun v s' => v = .none ∧ s' = ⟨h, g, d, t, os⟩) E ⟨h, g, d, t, os⟩ := by
  x_run
end
theorem tT1 : typeOf (.type "tuple") = pure (.type "type") := by kernel_rfl
theorem tT2 : Manifest.isStub "tuple" = false := by decide +kernel
theorem tT3 : findCls [] (.type "tuple") (.type "type") (Str.ofString "__new__") = some (.val (.builtin "tuple.__new__")) := by kernel_rfl
theorem tT5 : handedIn (.builtin "tuple.__new__") = true := by decide +kernel
theorem inNil (h : Heap) : Frag.In [] h := fun _ _ e => nomatch e
set_option maxRecDepth 20000 in
set_option maxHeartbeats 100000 in
theorem gmT {w : World} {A : Around} {E : Value → Shared → Prop} {Q : Value × List Value → Shared → Prop} {h₀ h : Heap} {L : Addr} {m : Str → Option Value} {g : Array GenState} {d : Drawn} {t : Nat} {os : OsState} {pl : Sem Bool} (F : Fr h₀ L h m) (hq : Q (.builtin "tuple.__new__", []) ⟨h, g, d, t + 1, os⟩) :
   wpAny (model PG w) A (getMethod (.type "tuple") (Str.ofString "__new__") pl) Q E ⟨h, g, d, t, os⟩ := by
  have q := @method_type PG w A E ⟨h, g, d, t, os⟩ [] L h₀ m (Str.ofString "__new__") (.builtin "tuple.__new__") "tuple" pl Q
  have q1 := q F
  have q2 := q1 (inNil h₀)
  have q3 := q2 tT1
  have q4 := q3 tT2
  have q5 := q4 tT3
  have q6 := q5 tT5
  exact q6 hq
theorem tT4 : classOwn (.type "tuple") (Str.ofString "__init__") = pure none := by kernel_rfl

end
-- W3
section
open PySem PySem.W PyProof.Rows PySem.Calls PySem.Spec PySem.Builtin.Str
noncomputable abbrev OM (sl : Array (Option Value)) : Obj := ⟨.type "type", none, .cls { name := Str.ofString "Mismatch", bases := [.type "tuple"], mro := [.ref 206, .type "tuple", .type "object"], ns := 205, qualname := Str.ofString "Mismatch", hasDict := false }, sl⟩
theorem tl_M {M : Model} {A : Around} {E : Value → Shared → Prop} {h : Heap} {g : Array GenState} {d : Drawn} {t : Nat} {os : OsState} {sl : Array (Option Value)} {name : Str} {oN : Obj} {r r2 r3 : Option Value} {Q : Option Value → Shared → Prop}
    (eC : h.get? 206 = some (OM sl)) (eN : h.get? 205 = some oN) (l : nsLook name oN = pure r) (b : classOwn (.type "tuple") name = pure r2) (b3 : classOwn (.type "object") name = pure r3)
    (hq : Q (r <|> (r2 <|> r3)) ⟨h, g, d, t, os⟩) : wpAny M A (typeLookup (.ref 206) name) Q E ⟨h, g, d, t, os⟩ := by
  unfold typeLookup
  wtm_at "sb"
  (wp_delta; wtm_at "sb")
  repeat (first | k_call_by "ft" (l) | k_call_by "ft" (b) | (wp_delta; wtm_at "sb") | wtm_at "ld")
  cases r with
  | some v => ((repeat (first | (wp_delta; wtm_at "sb") | ((with_reducible_and_instances first | refine wpAny_pure ?_ | refine wpAny_bind ?_); wtm_at "sb"))); exact hq)
  | none =>
    repeat (first | k_call_by "ft" (b) | (wp_delta; wtm_at "sb") | wtm_at "ld" | ((with_reducible_and_instances first | refine wpAny_pure ?_ | refine wpAny_bind ?_); wtm_at "sb"))
    cases r2 with
    | some v => ((repeat (first | (wp_delta; wtm_at "sb") | ((with_reducible_and_instances first | refine wpAny_pure ?_ | refine wpAny_bind ?_); wtm_at "sb"))); exact hq)
    | none =>
      repeat (first | k_call_by "ft" (b3) | (wp_delta; wtm_at "sb") | wtm_at "ld" | ((with_reducible_and_instances first | refine wpAny_pure ?_ | refine wpAny_bind ?_); wtm_at "sb"))
      cases r3 with
      | some v => ((repeat (first | (wp_delta; wtm_at "sb") | ((with_reducible_and_instances first | refine wpAny_pure ?_ | refine wpAny_bind ?_); wtm_at "sb"))); exact hq)
      | none => ((repeat (first | (wp_delta; wtm_at "sb") | ((with_reducible_and_instances first | refine wpAny_pure ?_ | refine wpAny_bind ?_); wtm_at "sb"))); exact hq)
theorem subM {M : Model} {A : Around} {E : Value → Shared → Prop} {h : Heap} {g : Array GenState} {d : Drawn} {t : Nat} {os : OsState} {sl : Array (Option Value)} {Q : Bool → Shared → Prop} (eC : h.get? 206 = some (OM sl)) (hq : Q true ⟨h, g, d, t, os⟩) : wpAny M A (isSubtype (.ref 206) (.ref 206)) Q E ⟨h, g, d, t, os⟩ := by
  unfold isSubtype mroOf
  wtm_at "sc"
  (repeat (k_call_by "nt" [call _ _ _, typeLookup ..]; wtm_at "wone"))
  exact hq
theorem bsI (I : Addr) : bindSpecial (.builtin "object.__init__") (.ref I) = pure (.builtin "object.__init__", [.ref I]) := by kernel_rfl
set_option maxRecDepth 100000 in
set_option maxHeartbeats 4000000 in
theorem mism {w : World} {A : Around} {E : Value → Shared → Prop} {Q : Value → Shared → Prop} {s : Shared} {a b : Int} {x : Str} {ta tb to : Tok} {p : Program} {loose : List Str} {mean : ExcName → Option Value} {mg mb : Str → Option Value} (X : (KF w).In s.heap) (Tp : Top p loose mean mg mb s.heap) (hh : A.handled = none) (hd : A.depth ≤ 400) (hu : A.units ≤ 100)
   (hq : ∀ h' C k tk dd, (Ext s.heap h') → s.heap.get? C = none → h'.get? C = some ⟨.ref 206, dd, .seq #[.int a ta, .int b tb, .str x to] k, #[]⟩ → Q (.ref C) { s with heap := h', toks := tk }) :
   wpAny (model PG w) A (call (.ref 206) [.int a ta, .int b tb, .str x to]) Q E s := by
  obtain ⟨h, g, d, t, os⟩ := s
  dsimp only at *
  obtain ⟨sl, hsl, eC⟩ : ∃ sl, (OM sl).slots[4]?.join = some Value.none ∧ h.get? 206 = some (OM sl) := ⟨_, by rfl, X 206 _ rfl⟩
  obtain ⟨oN, eN, lN, lI⟩ : ∃ oN, And3 (h.get? 205 = some oN) (nsLook (Str.ofString "__new__") oN = pure (some (.ref 207))) (nsLook (Str.ofString "__init__") oN = pure none) := ⟨_, X 205 _ rfl, by kernel_rfl, by kernel_rfl⟩
  refine wpAny_call (codeAny_of_tree ?_)
  show wpAny _ _ (callAny (.ref 206) _) _ _ _
  (repeat wtm_at "wone")
  k_call_by "ft" (q1)
  k_call_by "ft" ((q2 206))
  (repeat wtm_at "wone")
  refine ⟨by rfl, codeAny_of_tree ?_⟩
  show wpAny _ _ (callAny (.builtin "type.__call__") ⟨[.ref 206, .int a ta, .int b tb, .str x to], []⟩) _ _ _
  (repeat wtm_at "wone")
  simp only [checkBuiltinCall, q6, q7]
  wtm_at "sc"
  (repeat (k_call_by "nt" [call _ _ _, typeLookup ..]; wtm_at "wone"))
  show wpAny _ _ (isSubtype (.type "type") (.type "type")) _ _ _
  k_call_by "ft" (f3)
  ((with_reducible apply wpAny_ite_false); focus (rfl; done); wtm_at "sb")
  wtm_at "sc"
  (repeat (k_call_by "nt" [call _ _ _, typeLookup ..]; wtm_at "wone"))
  refine ⟨Code.quiet_builtin _ (by decide +kernel), codeAny_builtin entry_typeCall ?_⟩
  wtm_at "sc"
  (repeat (k_call_by "nt" [call _ _ _, typeLookup ..]; wtm_at "wone"))
  rw [hsl]
  dsimp only
  wtm_at "sc"
  (repeat (k_call_by "nt" [call _ _ _, compareOp .., loadName .., setAttr .., getAttr _ _ _]; wtm_at "wtwo"))
  have c1 : readsIn (KF w) 206 (.type "type") = true := by kernel_rfl
  have c2 : findCls (KF w) (.ref 206) (.type "type") (Str.ofString "__new__") = some (.get (.builtin "staticmethod.__get__") (.ref 207) .none (.ref 206)) := by kernel_rfl
  have c3 : recIn (KF w) 207 "staticmethod" = some [.ref 153] := by kernel_rfl
  refine cls_bind (s := ⟨h, g, d, t, os⟩) X c1 c2 (wpAny_call (sm_get (s := ⟨h, g, d, t + 1, os⟩) X c3 (handed_on (by rfl) ?_)))
  clear c1 c2 c3
  wtm_at "sc"
  (repeat (k_call_by "nt" [call _ _ _, compareOp .., loadName .., setAttr .., getAttr _ _ _]; wtm_at "wtwo"))
  obtain ⟨o3, e3, l31⟩ : ∃ o3, h.get? 3 = some o3 ∧ nsLook (Str.ofString "tuple") o3 = pure none := ⟨_, X 3 _ rfl, by kernel_rfl⟩
  obtain ⟨o0, e0, l01⟩ : ∃ o0, h.get? 0 = some o0 ∧ nsLook (Str.ofString "tuple") o0 = pure (some (.type "tuple")) := ⟨_, X 0 _ rfl, by kernel_rfl⟩
  show wpAny _ _ (call (.ref 153) [.ref 206, .int a ta, .int b tb, .str x to]) _ _ _
  refine enter (s := ⟨h, g, d, t + 1, os⟩) (binds := [(Str.ofString "_cls", .ref 206), (Str.ofString "actual", .int a ta), (Str.ofString "expected", .int b tb), (Str.ofString "value", .str x to)]) X Tp (by rfl) (by rfl) (by show (A.under _).depth < _; rw [depth_under_make]; show A.depth + 1 < 1000; exact ar6 ‹_› (by decide)) (BindsTo.of_eq rfl) (locs rfl) (by decide) rfl rfl rfl ?_
  intro h₁ F
  dsimp only at F
  dsimp only
  generalize h.objs.size = L at F ⊢
  refine eCons ?_
  wtm_at "sc"
  wtm_at "wu"
  refine ldB (by rfl) (by rfl) (by rfl) (by rfl) (F.keep _ _ e3) l31 (F.keep _ _ e0) l01 ?_
  wtm_at "sc"
  wtm_at "wu"
  refine gmT F ?_
  dsimp only
  wtm_at "sc"
  wtm_at "wu"
  refine wpAny_loadName_local (by rfl) (by rfl) F.ns (by rfl) ?_
  wtm_at "sc"
  wtm_at "wu"
  refine wpAny_loadName_local (by rfl) (by rfl) F.ns (by rfl) ?_
  wtm_at "sc"
  wtm_at "wu"
  refine wpAny_loadName_local (by rfl) (by rfl) F.ns (by rfl) ?_
  wtm_at "sc"
  wtm_at "wu"
  refine wpAny_loadName_local (by rfl) (by rfl) F.ns (by rfl) ?_
  wtm_at "sc"
  wtm_at "wu"
  refine al (by rfl) fun T h2 k2 nT eT => ?_
  wtm_at "sc"
  wtm_at "wu"
  show wpAny _ _ (call (.builtin "tuple.__new__") [.ref 206, .ref T]) _ _ _
  have kk : Ext h h2 := fun b o e => k2 _ _ (F.keep _ _ e)
  refine wpAny_mono (tnew_x (x := fun i => [_, _, _, _, _, _, _, _, _, _, _, _, _, _, _, _, _, _].getD i 0) (y := fun i => [486, 490, 492, 494, 498, 499, 510, 532, 543, 544, 552, 559, 567, 571, 581, 591, 601, 602].getD i 0) (v := fun i => [_, _, _, _, _, _, _, _, _, _, _, _, _, _, _, _, _, _].getD i .none) (kk _ _ (X 206 _ rfl)) (kk _ _ (X 205 _ rfl)) eT) (fun v s' hv => ?_) fun _ _ e => by exact e
  obtain ⟨h3, I, k, tk, dd, k3, nI, eI, rfl, rfl⟩ := hv
  have kk3 : Ext h h3 := fun b o e => k3 _ _ (kk _ _ e)
  dsimp only
  wtm_at "sc"
  wtm_at "wu"
  refine subM (kk3 _ _ eC) ?_
  wtm_at "sc"
  (repeat (k_call_by "nt" [call _ _ _, compareOp .., loadName .., setAttr .., getAttr _ _ _]; wtm_at "wtwo"))
  refine tl_M (r := none) (r2 := none) (kk3 _ _ eC) (kk3 _ _ eN) lI tT4 q3 ?_
  wtm_at "sc"
  (repeat (k_call_by "nt" [call _ _ _, compareOp .., loadName .., setAttr .., getAttr _ _ _]; wtm_at "wtwo"))
  k_call_by "ft" ((bsI I))
  wtm_at "sc"
  show wpAny _ _ (call (.builtin "object.__init__") [.ref I, .int a ta, .int b tb, .str x to]) _ _ _
  refine wpAny_mono (init_x (x := fun i => [_, _, _, _, _, _, _, _, _, _, _, _, _, _, _, _, _, _].getD i 0) (y := fun i => [486, 490, 492, 494, 498, 499, 510, 532, 543, 544, 552, 559, 567, 571, 581, 591, 601, 602].getD i 0) (v := fun i => [_, _, _, _, _, _, _, _, _, _, _, _, _, _, _, _, _, _].getD i .none) (kk3 _ _ (X 206 _ rfl)) (kk3 _ _ (X 205 _ rfl)) eI) (fun v s' hv => ?_) fun _ _ e => by exact e
  obtain ⟨rfl, rfl⟩ := hv
  try dsimp only
  wtm_at "sc"
  (repeat (k_call_by "nt" [call _ _ _, compareOp .., loadName .., setAttr .., getAttr _ _ _]; wtm_at "wtwo"))
  exact hq h3 I k _ dd kk3 (none_of_sub (fun b o e => kk b o e) nI) eI

end
-- W4
section
open PySem PySem.W PyProof.Rows PySem.Calls PySem.Spec PySem.Builtin.Str
noncomputable def VO (z : Addr) (v : Value) : Option Str → Prop
  | none => v = .ref z
  | some x => ∃ t, v = .str x t
structure OptsAre (z : Addr) (vs : List Value) (os : List (Option Str)) : Prop where
  len : vs.length = os.length
  at_ : ∀ (q : Nat) (v : Value) (o : Option Str), vs[q]? = some v → os[q]? = some o → VO z v o
theorem OptsAre.ofStrs {z : Addr} : ∀ {vs : List Value} {ss : List Str}, StrsAre vs ss → OptsAre z vs (ss.map some) := by
  intro vs ss h
  refine ⟨by rw [h.length, List.length_map], fun q v o hv ho => ?_⟩
  obtain ⟨x, t, rfl, hx⟩ := Mine.StrsAre.at h hv
  rw [List.getElem?_map, hx] at ho
  cases ho
  exact ⟨t, rfl⟩
theorem OptsAre.set {z : Addr} {vs : List Value} {os : List (Option Str)} (h : OptsAre z vs os) {q : Nat} {v : Value} {o : Option Str} (hv : VO z v o) : OptsAre z (vs.set q v) (os.set q o) := by
  refine ⟨by simp [h.len], fun p v' o' a b => ?_⟩
  rw [List.getElem?_set] at a b
  by_cases e : q = p
  · subst e
    rw [if_pos rfl] at a b
    split at a
    · split at b
      · cases a; cases b; exact hv
      · cases b
    · cases a
  · rw [if_neg e] at a b
    exact h.at_ p v' o' a b
noncomputable def upd (x : Str) (lo hi : Nat) (os : List (Option Str)) : List (Option Str) := os.mapIdx fun q o => if lo ≤ q ∧ q < hi ∧ o = some x then none else o
theorem upd_get (x : Str) (lo hi : Nat) (os : List (Option Str)) (q : Nat) : (upd x lo hi os)[q]? = os[q]?.map fun o => if lo ≤ q ∧ q < hi ∧ o = some x then none else o := by
  unfold upd; rw [List.getElem?_mapIdx]
theorem upd_len (x : Str) (lo hi : Nat) (os : List (Option Str)) : (upd x lo hi os).length = os.length := by unfold upd; simp
theorem upd_zero (x : Str) (lo : Nat) (os : List (Option Str)) : upd x lo lo os = os := by
  apply List.ext_getElem?
  intro q
  rw [upd_get]
  cases os[q]? with
  | none => rfl
  | some o => simp only [Option.map_some]; rw [if_neg (by lia)]
theorem upd_at (x : Str) (lo k : Nat) (os : List (Option Str)) : (upd x lo k os)[k]? = os[k]? := by
  rw [upd_get]
  cases os[k]? with
  | none => rfl
  | some o => simp only [Option.map_some]; rw [if_neg (by lia)]
theorem upd_hit (x : Str) (lo k : Nat) (os : List (Option Str)) (hlo : lo ≤ k) (h : os[k]? = some (some x)) : upd x lo (k + 1) os = (upd x lo k os).set k none := by
  apply List.ext_getElem?
  intro q
  rw [List.getElem?_set, upd_get, upd_get, upd_len]
  have hk : k < os.length := (List.getElem?_eq_some_iff.mp h).1
  by_cases e : k = q
  · subst e
    rw [if_pos rfl, if_pos hk, h, Option.map_some, if_pos ⟨hlo, Nat.lt_succ_self _, rfl⟩]
  · rw [if_neg e]
    cases os[q]? with
    | none => rfl
    | some o =>
      simp only [Option.map_some]
      congr 1
      by_cases c : lo ≤ q ∧ q < k ∧ o = some x
      · rw [if_pos c, if_pos ⟨c.1, by exact lc (lR2 _ _) (.h (lS z0) z1 (.g (lS z0) (lS z1))) lT c.2.1, c.2.2⟩]
      · rw [if_neg c, if_neg fun d => c ⟨d.1, by lia, d.2.2⟩]
theorem upd_miss (x : Str) (lo k : Nat) (os : List (Option Str)) (h : os[k]? ≠ some (some x)) : upd x lo (k + 1) os = upd x lo k os := by
  apply List.ext_getElem?
  intro q
  rw [upd_get, upd_get]
  cases e : os[q]? with
  | none => rfl
  | some o =>
    simp only [Option.map_some]
    congr 1
    by_cases c : lo ≤ q ∧ q < k ∧ o = some x
    · rw [if_pos c, if_pos ⟨c.1, by exact lc (lR2 _ _) (.h (lS z0) z1 (.g (lS z0) (lS z1))) lT c.2.1, c.2.2⟩]
    · rw [if_neg c, if_neg fun d => ?_]
      by_cases f : q = k
      · subst f; exact h (by rw [e, d.2.2])
      · exact c ⟨d.1, by lia, d.2.2⟩
noncomputable def cntIn (x : Str) (lo hi : Nat) (os : List (Option Str)) : Nat := ((os.take hi).drop lo).count (some x)
theorem cnt_zero (x : Str) (lo : Nat) (os : List (Option Str)) : cntIn x lo lo os = 0 := by
  unfold cntIn
  rw [List.drop_take]; simp
theorem cnt_succ (x : Str) (lo k : Nat) (os : List (Option Str)) (hlo : lo ≤ k) {o : Option Str} (h : os[k]? = some o) : cntIn x lo (k + 1) os = cntIn x lo k os + (if o = some x then 1 else 0) := by
  unfold cntIn
  have hk : k < os.length := (List.getElem?_eq_some_iff.mp h).1
  rw [take_snoc h, List.drop_append_of_le_length (by rw [List.length_take]; lia), List.count_append]
  congr 1
  by_cases e : o = some x
  · rw [if_pos e, e]; simp
  · rw [if_neg e, List.count_eq_zero]; simp; exact fun q => e q.symm
theorem rsmall2 : ∀ n : Nat, n < 64 → ∀ i : Nat, i < 64 → Builtin.Range.small (i : Int) (n : Int) 1 = true := by decide +kernel
theorem rsize2 : ∀ n : Nat, n < 64 → ∀ i : Nat, i < 64 → i ≤ n → Builtin.Range.rangeSize (i : Int) (n : Int) 1 = ((n - i : Nat) : Int) := by decide +kernel
theorem eq_vo {w : World} {A : Around} {E : Value → Shared → Prop} {Q : Value → Shared → Prop} {s : Shared} {z : Addr} {v : Value} {o : Option Str} {x : Str} {t : Tok} (hu : A.units < cLine) (hz : s.heap.get? z = some OBJ0) (hv : VO z v o) (hq : Q (.bool (decide (o = some x))) s) :
    wpAny (model PG w) A (compareOp .Eq v (.str x t)) Q E s := by
  cases o with
  | none =>
    cases (show v = .ref z from hv)
    exact eq_null hu hz hq
  | some y =>
    obtain ⟨u, rfl⟩ := hv
    refine eq_str ?_
    have : (y == x) = decide ((some y : Option Str) = some x) := by
      by_cases e : y = x
      · subst e; simp
      · simp [e]
    rw [this]; exact hq

end
-- W6
section
open PySem PySem.W PyProof.Rows PySem.Calls PySem.Spec PySem.Builtin.Str


theorem set_c {w : World} {A : Around} {E : Value → Shared → Prop} {Q : Unit → Shared → Prop} {s : Shared} {l : Addr} {vs : List Value} {kk j : Nat} {k : Int} {t : Tok} {v : Value} (e : s.heap.get? l = some (seqObj "list" vs.toArray kk)) (hk : k = (j : Int)) (hj : j < vs.length) (h64 : j < 64)
    (hq : ∀ h' k', (ExtB l s.heap h') → h'.get? l = some (seqObj "list" (vs.set j v).toArray k') → Q () { s with heap := h' }) :
    wpAny (model PG w) A (setItem (.ref l) (.int k t) v) Q E s := by
  have hl : s.heap.IsList l vs.toArray := ⟨_, e, rfl, _, rfl⟩
  obtain ⟨k', e2⟩ := upSeq (f := fun xs => xs.setIfInBounds j v) (ws := vs.set j v) e (by simp)
  unfold setItem
  try with_reducible refine wpAny_holding ?_
  first | refine wpAny_bind (wpAny_pure ?_) | skip
  refine wpAny_bind (wpAny_sequenceKey hl.typeIs (by decide) ?_)
  refine wpAny_bind (wpAny_callSpecial?_slot (name := Str.ofString "__setitem__") hl.typeIs slot_list_setitem
    (wpAny_call_entry slot_list_setitem hl.typeIs entry_list_setitem ?_ (args_list_setitem _ _ _)))
  show wpAny _ _ (Builtin.List.listSubscript? (.int k t) >>= _) _ _ s
  refine wpAny_bind (wpAny_listSubscript_int (fitsIndex_of (by lia) (by lia)) ?_)
  subst hk
  show wpAny _ _ ((seqItemAt l j >>= fun r => pure (r.map (j, ·))) >>= _) _ _ s
  refine wpAny_bind (wpAny_bind (wpAny_seqItemAt e rfl (wpAny_pure ?_)))
  rw [show vs.toArray[j]? = some (vs[j]'hj) from by simp [hj]]
  show wpAny _ _ (setSeqItemAt l j v >>= _) _ _ s
  refine wpAny_bind (wpAny_setSeqItemAt e rfl ?_)
  have fin := hq _ k' (fun b o hb he => (Heap.get?_update_other _ _ (Ne.symm hb)).trans he) e2
  first
    | exact wpAny_bind (wpAny_pure (wpAny_pure ⟨.none, rfl, wpAny_pure fin⟩))
    | exact wpAny_pure ⟨.none, rfl, wpAny_pure fin⟩

end
-- W5
section
open PySem PySem.W PyProof.Rows PySem.Calls PySem.Spec PySem.Builtin.Str
noncomputable abbrev SCD : Scope := { kind := .function, names := [(Str.ofString "actual", .local), (Str.ofString "expected", .local), (Str.ofString "s", .local), (Str.ofString "t", .local), (Str.ofString "m", .local), (Str.ofString "n", .local), (Str.ofString "NULL", .local), (Str.ofString "result", .local), (Str.ofString "i", .local), (Str.ofString "elem", .local), (Str.ofString "cnt_s", .local), (Str.ofString "cnt_t", .local), (Str.ofString "j", .local), (Str.ofString "other_elem", .local), (Str.ofString "diff", .local), (Str.ofString "list", .globalImplicit), (Str.ofString "len", .globalImplicit), (Str.ofString "object", .globalImplicit), (Str.ofString "enumerate", .globalImplicit), (Str.ofString "range", .globalImplicit), (Str.ofString "_Mismatch", .globalImplicit)], isGenerator := false, isCoroutine := false }
noncomputable abbrev CDE (L : Addr) : Env := envOf (Str.ofString "_count_diff_all_purpose") SCD L 216 (.ref 215)
set_option maxRecDepth 100000
set_option maxHeartbeats 4000000

theorem loopA {w : World} {A : Around} {E : Value → Shared → Prop} {Q : Flow → Shared → Prop} {s : Shared} {h₀ : Heap} {L ls z : Addr} {m : Str → Option Value} {vs : List Value} {os : List (Option Str)} {kk c n i : Nat} {rest : List (Addr × Obj)} {x xs xm xc : Str} {ti tn tx tc : Tok} {p1 p2 p3 p4 p5 p6 p7 p8 p9 p10 p11 p12 p13 p14 p15 p16 p17 p18 p19 p20 : Pos} {o3 o0 : Obj}
  (ks : ∀ L, (CDE L).kindOf xs = some .local) (km : ∀ L, (CDE L).kindOf xm = some .local) (kc : ∀ L, (CDE L).kindOf xc = some .local) (bs : ¬ (xs == Str.ofString "__debug__") = true) (bm : ¬ (xm == Str.ofString "__debug__") = true) (bc : ¬ (xc == Str.ofString "__debug__") = true) (d1 : xs ≠ Str.ofString "j") (d2 : xs ≠ xc) (d3 : Str.ofString "elem" ≠ xc) (d4 : Str.ofString "NULL" ≠ xc) (d5 : xc ≠ Str.ofString "j")
  (hh : A.handled = none) (hu : A.units < cLine) (e3 : h₀.get? 3 = some o3) (l3 : nsLook (Str.ofString "range") o3 = pure none) (e0 : h₀.get? 0 = some o0) (l0 : nsLook (Str.ofString "range") o0 = pure (some (.type "range")))
  (F : Fr h₀ L s.heap m) (N : News h₀ L s.heap ((ls, seqObj "list" vs.toArray kk) :: (z, OBJ0) :: rest)) (hr : ∀ p ∈ rest, p.1 ≠ ls) (hO : OptsAre z vs os) (hn : os.length = n) (hn64 : n < 64) (hi : i ≤ n)
  (mi : m (Str.ofString "i") = some (.int i ti)) (mm : m xm = some (.int n tn)) (me : m (Str.ofString "elem") = some (.str x tx)) (mz : m (Str.ofString "NULL") = some (.ref z)) (ms : m xs = some (.ref ls)) (mc : m xc = some (.int c tc))
  (hE : PassesOwn (model PG w) A (CDE L) E)
  (hq : ∀ h' tk m' vs' kk' tc', Fr h₀ L h' m' → News h₀ L h' ((ls, seqObj "list" (vs' : List Value).toArray kk') :: (z, OBJ0) :: rest) → OptsAre z vs' (upd x i n os) → m' xc = some (.int ((c + cntIn x i n os : Nat) : Int) tc') → (∀ y, y ≠ Str.ofString "j" → y ≠ xc → m' y = m y) → Q .next { s with heap := h', toks := tk }) :
  wpAny (model PG w) A (exec (.For (.Name (Str.ofString "j") p1) (.Call (.Name (Str.ofString "range") p2) [.Name (Str.ofString "i") p3, .Name xm p4] [] p5)
    [.If (.Compare (.Subscript (.Name xs p6) (.Name (Str.ofString "j") p7) p8) [.Eq] [.Name (Str.ofString "elem") p9] p10)
      [.AugAssign (.Name xc p11) .Add (.Constant (.int 1) 0 p12) p13, .Assign [.Subscript (.Name xs p14) (.Name (Str.ofString "j") p15) p16] (.Name (Str.ofString "NULL") p17) p18] [] p19] [] p20) (CDE L)) Q E s := by
  obtain ⟨h, g, d, t, osS⟩ := s
  dsimp only at *
  refine For_invV h₀ (by rfl) (by rfl) ?_ (by intro x; rfl) hE
  wtm_at "sc"
  wtm_at "wu"
  refine ldB (by rfl) (by rfl) (by rfl) (by rfl) (F.keep _ _ e3) l3 (F.keep _ _ e0) l0 ?_
  wtm_at "sc"
  wtm_at "wu"
  refine wpAny_loadName_local (by rfl) (by rfl) F.ns mi ?_
  wtm_at "sc"
  wtm_at "wu"
  rw [if_neg bm]
  refine wpAny_loadName_local (by rfl) (by exact km _) F.ns mm ?_
  wtm_at "sc"
  wtm_at "wu"
  show wpAny _ _ (call (.type "range") [.int _ _, .int _ _]) _ _ _
  refine call_range_2 ?_
  dsimp only
  generalize hH : h.push _ = h4
  have k4 : Ext h h4 := fun b o e => by rw [← hH]; exact Heap.get?_push_of_some _ e
  have hR : Ex3 fun t1 t2 t3 => IsRange h4 h.objs.size (i : Int) (n : Int) 1 t1 t2 t3 := by rw [← hH]; exact ⟨_, _, _, Heap.get?_push_size _ rfl⟩
  obtain ⟨t1, t2, t3, hR⟩ := hR
  generalize h.objs.size = R at hR ⊢
  clear hH
  replace F := Fr_up F k4
  replace N : News h₀ L h4 ((ls, seqObj "list" vs.toArray kk) :: (z, OBJ0) :: rest) := fun p hp => ⟨k4 _ _ (N p hp).1, (N p hp).2⟩
  wtm_at "sc"
  wtm_at "wu"
  have hi64 : i < 64 := by exact ar34 ‹_› ‹_›
  refine wpAny_pyIter_range hR (rsmall2 _ hn64 _ hi64) ?_
  rw [rsize2 _ hn64 _ hi64 hi]
  dsimp only
  have hIt : IsRangeIter (h4.push { cls := .type "range_iterator", data := .fields #[rawInt (i : Int), rawInt ((n - i : Nat) : Int), rawInt 1] }) h4.objs.size (i : Int) ((n - i : Nat) : Int) 1 := Heap.get?_push_size _ rfl
  have nI : h4.get? h4.objs.size = none := Heap.get?_none_of_le (Nat.le_refl _)
  have k5 : ∀ b o, h4.get? b = some o → (h4.push { cls := .type "range_iterator", data := .fields #[rawInt (i : Int), rawInt ((n - i : Nat) : Int), rawInt 1] }).get? b = some o := fun b o e => Heap.get?_push_of_some _ e
  generalize h4.push _ = h5 at hIt k5 ⊢
  generalize h4.objs.size = I at hIt nI ⊢
  have nI0 : h₀.get? I = none := none_of_sub F.keep nI
  have nIN : ∀ p ∈ (ls, seqObj "list" vs.toArray kk) :: (z, OBJ0) :: rest, p.1 ≠ I := fun p hp q => by
    rw [← q, (N p hp).1] at nI; cases nI
  have nIL : L ≠ I := fun q => by
    obtain ⟨o, _, _, a, _⟩ := F.ns
    rw [← q, show h4.get? L = some _ from a] at nI; cases nI
  replace F := Fr_up F k5
  replace N : News h₀ L h5 ((ls, seqObj "list" vs.toArray kk) :: (z, OBJ0) :: rest) := fun p hp => ⟨k5 _ _ (N p hp).1, (N p hp).2⟩
  have nzl : z ≠ ls := fun q => by
    have a := (N _ (.head _)).1
    have b := (N _ (.tail _ (.head _))).1
    dsimp only at a b
    rw [q, a] at b; exact absurd (congrArg Obj.cls (Option.some.inj b)) (by simp)
  have nlL : ls ≠ L := (N _ (.head _)).2.1
  have nl0 : h₀.get? ls = none := (N _ (.head _)).2.2
  refine ⟨I, _, _, n - i, _, _, m, (ls, seqObj "list" vs.toArray kk) :: (z, OBJ0) :: rest,
    fun k m' news' => Ex3 fun vs' kk' tc' => And4 (news' = (ls, seqObj "list" (vs' : List Value).toArray kk') :: (z, OBJ0) :: rest) (OptsAre z vs' (upd x i (i + k) os)) (m' xc = some (.int ((c + cntIn x i (i + k) os : Nat) : Int) tc')) ((∀ y, y ≠ Str.ofString "j" → y ≠ xc → m' y = m y)),
    rfl, Walks.range hh I (i : Int) 1 (n - i), ?_, ?_, ?_, ?_, F, N, ?_, ?_, ?_⟩
  · intro hm; exact nIL (List.mem_singleton.mp hm)
  · intro b hb; rw [List.mem_singleton.mp hb]; exact nI0
  · intro p hp hw; exact nIN p hp (List.mem_singleton.mp hw)
  · show IsRangeIter _ _ _ _ _
    simpa using hIt
  · exact ⟨vs, kk, tc, rfl, by rw [Nat.add_zero, upd_zero]; exact hO, by rw [Nat.add_zero, cnt_zero]; exact mc, fun y _ _ => rfl⟩
  · rintro k v m₁ news₁ s₁ own ⟨hh', tk', rfl⟩ hk ⟨tv, rfl⟩ ⟨vs₁, kk₁, tc₁, rfl, hO₁, mc₁, mo₁⟩ hnw hown hownh hfp hst F₁ N₁
    dsimp only at *
    have hi0 : ((i : Int) + (k : Int) * 1) = ((i + k : Nat) : Int) := by rw [Int.mul_one]; rfl
    rw [hi0] at F₁
    have eL₁ := (N₁ _ (List.mem_append_right _ (.head _))).1
    have ez₁ := (N₁ _ (List.mem_append_right _ (.tail _ (.head _)))).1
    dsimp only at eL₁ ez₁
    have hlen₁ : vs₁.length = n := by rw [hO₁.len, upd_len, hn]
    have hkn : i + k < n := by lia
    obtain ⟨v, hv⟩ : ∃ v, vs₁[i + k]? = some v := ⟨vs₁[i + k]'(by exact ar14 ‹_› ‹_›), by simp [hlen₁, hkn]⟩
    obtain ⟨o, ho⟩ : ∃ o, os[i + k]? = some o := ⟨os[i + k]'(by exact ar14 ‹_› ‹_›), by simp [hn, hkn]⟩
    have hvo : VO z v o := hO₁.at_ _ _ _ hv (by rw [upd_at]; exact ho)
    have hcs := cnt_succ x i (i + k) os (Nat.le_add_right _ _) ho
    refine eCons ?_
    wtm_at "sc"
    wtm_at "wu"
    refine eSub ?_
    wtm_at "sc"
    wtm_at "wu"
    rw [if_neg bs]
    refine wpAny_loadName_local (by rfl) (by exact ks _) F₁.ns (by exact (if_neg d1).trans ((mo₁ _ d1 d2).trans ms)) ?_
    wtm_at "sc"
    wtm_at "wu"
    refine wpAny_loadName_local (by rfl) (by rfl) F₁.ns (by rfl) ?_
    wtm_at "sc"
    refine item_list (items := vs₁.toArray) ⟨_, eL₁, rfl, _, rfl⟩ (by exact Int.natCast_nonneg _) (by exact l63 (lc (lR3 _ _ _) (.h (lS z0) (lN 64) (.h (lS (lA z1 z2)) z0 (.g (lS (lA z1 z2)) (lN 9223372036854775808)))) lT hn64 hkn)) (x := v) (by rw [Int.toNat_natCast]; simpa using hv) ?_ (by with_unfolding_all rfl) (by intro _; with_unfolding_all rfl)
    wtm_at "sc"
    wtm_at "wu"
    refine wpAny_loadName_local (by rfl) (by rfl) F₁.ns (by exact (mo₁ _ (by decide) d3).trans me) ?_
    wtm_at "sc"
    wtm_at "wu"
    refine eq_vo hu ez₁ hvo ?_
    wtm_at "sc"
    wtm_at "wu"
    by_cases hx : o = some x
    · rw [decide_eq_true hx, if_pos rfl]
      wtm_at "sc"
      wtm_at "wu"
      refine wpAny_loadName_local (by rfl) (by exact kc _) F₁.ns (by exact (if_neg d5).trans mc₁) ?_
      wtm_at "sc"
      wtm_at "wu"
      refine PySem.P.iadd_int ?_
      wtm_at "sc"
      wtm_at "wu"
      refine wpAny_storeName_local (by exact kc _) F₁.ns (fun h6 ns6 sb6 => ?_) (by rfl)
      have F₆ := Fr_set F₁ ns6 sb6
      wtm_at "sc"
      wtm_at "wu"
      refine wpAny_loadName_local (by rfl) (by rfl) F₆.ns (by exact (if_neg d4).trans ((mo₁ _ (by decide) d4).trans mz)) ?_
      wtm_at "sc"
      wtm_at "wu"
      rw [if_neg bs]
      refine wpAny_loadName_local (by rfl) (by exact ks _) F₆.ns (by exact (if_neg d2).trans ((if_neg d1).trans ((mo₁ _ d1 d2).trans ms))) ?_
      wtm_at "sc"
      wtm_at "wu"
      refine wpAny_loadName_local (by rfl) (by rfl) F₆.ns (by exact (if_neg (Ne.symm d5)).trans (by rfl)) ?_
      wtm_at "sc"
      wtm_at "wu"
      have nIl : ∀ p ∈ own, p.1 ≠ ls := fun p hp q => hnw _ (.head _) (by have := hown p hp; rw [q] at this; exact this)
      refine set_c ((sb6.2 ls nlL).trans eL₁) rfl (by rw [hlen₁]; exact hkn) (by exact ar35 ‹_› ‹_›) fun h7 kk7 k7 e7 => ?_
      have F₇ : Fr h₀ L h7 _ := ⟨F₆.ns.at' fun o e => k7 _ o (Ne.symm nlL) e, fun b o e => k7 b o (fun q => by rw [q, nl0] at e; cases e) (F₆.keep b o e), F₆.above⟩
      wtm_at "sc"
      wtm_at "wu"
      refine LoopStepV.next ⟨rfl, h7, _, _, (ls, seqObj "list" (vs₁.set (i + k) (.ref z)).toArray kk7) :: (z, OBJ0) :: rest, rfl, F₇, ?_, ?_, vs₁.set (i + k) (.ref z), kk7, tk' + 1, rfl, ?_, ?_, ?_⟩
      · intro p hp
        rcases List.mem_append.mp hp with hp | hp
        · have a := N₁ p (List.mem_append_left _ hp)
          exact ⟨k7 _ _ (nIl p hp) ((sb6.2 _ a.2.1).trans a.1), a.2⟩
        · rcases List.mem_cons.mp hp with rfl | hp
          · exact ⟨e7, nlL, nl0⟩
          · have a := N₁ p (List.mem_append_right _ (.tail _ hp))
            refine ⟨k7 _ _ ?_ ((sb6.2 _ a.2.1).trans a.1), a.2⟩
            rcases List.mem_cons.mp hp with rfl | hp
            · exact nzl
            · exact hr p hp
      · intro p hp
        rcases List.mem_cons.mp hp with rfl | hp
        · exact hnw (ls, seqObj "list" vs₁.toArray kk₁) (.head _)
        · exact hnw p (.tail _ hp)
      · rw [← Nat.add_assoc, upd_hit x i (i + k) os (Nat.le_add_right _ _) (by rw [ho, hx])]
        exact hO₁.set (o := none) rfl
      · rw [← Nat.add_assoc, hcs, if_pos hx]
        exact (if_pos rfl).trans (congrArg (fun z => some (Value.int z _)) (by rfl))
      · intro y hy1 hy2
        show (if y = _ then _ else if y = _ then _ else _) = _
        rw [if_neg hy2, if_neg hy1]
        exact mo₁ y hy1 hy2
    · rw [decide_eq_false hx, if_neg (by decide)]
      wtm_at "sc"
      wtm_at "wu"
      refine LoopStepV.next ⟨rfl, hh', _, _, _, rfl, F₁, N₁, hnw, vs₁, kk₁, tc₁, rfl, ?_, ?_, ?_⟩
      · rw [← Nat.add_assoc, upd_miss x i (i + k) os (by rw [ho]; exact fun q => hx (Option.some.inj q))]
        exact hO₁
      · rw [← Nat.add_assoc, hcs, if_neg hx]
        exact (if_neg d5).trans mc₁
      · intro y hy1 hy2
        show (if y = _ then _ else _) = _
        rw [if_neg hy1]
        exact mo₁ y hy1 hy2
  · rintro h' tk' m' news' F' N' hnw ⟨vs₁, kk₁, tc₁, rfl, hO₁, mc₁, mo₁⟩
    rw [Nat.add_sub_cancel' hi] at hO₁ mc₁
    exact hq h' tk' m' vs₁ kk₁ tc₁ F' N' hO₁ mc₁ mo₁


end
-- W7
section
open PySem PySem.W PyProof.Rows PySem.Calls PySem.Spec PySem.Builtin.Str
set_option maxRecDepth 100000
set_option maxHeartbeats 4000000
theorem loopB {w : World} {A : Around} {E : Value → Shared → Prop} {Q : Flow → Shared → Prop} {s : Shared} {h₀ : Heap} {L ls z : Addr} {m : Str → Option Value} {vs : List Value} {os : List (Option Str)} {kk c n : Nat} {rest : List (Addr × Obj)} {x : Str} {tx tc : Tok} {p1 p2 p3 p4 p5 p6 p9 p10 p11 p12 p13 p14 p15 p16 p17 p18 p19 p20 p21 : Pos} {x1 : Nat} {o3 o0 : Obj}
  (hh : A.handled = none) (hu : A.units < cLine) (e3 : h₀.get? 3 = some o3) (l3 : nsLook (Str.ofString "enumerate") o3 = pure none) (e0 : h₀.get? 0 = some o0) (l0 : nsLook (Str.ofString "enumerate") o0 = pure (some (.type "enumerate")))
  (F : Fr h₀ L s.heap m) (N : News h₀ L s.heap ((ls, seqObj "list" vs.toArray kk) :: (z, OBJ0) :: rest)) (hr : ∀ p ∈ rest, p.1 ≠ ls) (hO : OptsAre z vs os) (hn : os.length = n) (hn64 : n < 64)
  (me : m (Str.ofString "elem") = some (.str x tx)) (mz : m (Str.ofString "NULL") = some (.ref z)) (ms : m (Str.ofString "t") = some (.ref ls)) (mc : m (Str.ofString "cnt_t") = some (.int c tc))
  (hE : PassesOwn (model PG w) A (CDE L) E)
  (hq : ∀ h' tk m' vs' kk' tc', Fr h₀ L h' m' → News h₀ L h' ((ls, seqObj "list" (vs' : List Value).toArray kk') :: (z, OBJ0) :: rest) → OptsAre z vs' (upd x 0 n os) → m' (Str.ofString "cnt_t") = some (.int ((c + cntIn x 0 n os : Nat) : Int) tc') → (∀ y, y ≠ Str.ofString "j" → y ≠ Str.ofString "other_elem" → y ≠ Str.ofString "cnt_t" → m' y = m y) → Q .next { s with heap := h', toks := tk }) :
  wpAny (model PG w) A (exec (.For (.Tuple [.Name (Str.ofString "j") p1, .Name (Str.ofString "other_elem") p2] x1 p3) (.Call (.Name (Str.ofString "enumerate") p4) [.Name (Str.ofString "t") p5] [] p6)
    [.If (.Compare (.Name (Str.ofString "other_elem") p9) [.Eq] [.Name (Str.ofString "elem") p10] p11)
      [.AugAssign (.Name (Str.ofString "cnt_t") p12) .Add (.Constant (.int 1) 0 p13) p14, .Assign [.Subscript (.Name (Str.ofString "t") p15) (.Name (Str.ofString "j") p16) p17] (.Name (Str.ofString "NULL") p18) p19] [] p21] [] p20) (CDE L)) Q E s := by
  obtain ⟨h, g, d, t, osS⟩ := s
  dsimp only at *
  refine wpAny_For ?_ (by intro x; rfl)
  wtm_at "sc"
  wtm_at "wu"
  refine ldB (by rfl) (by rfl) (by rfl) (by rfl) (F.keep _ _ e3) l3 (F.keep _ _ e0) l0 ?_
  wtm_at "sc"
  wtm_at "wu"
  refine wpAny_loadName_local (by rfl) (by rfl) F.ns ms ?_
  wtm_at "sc"
  wtm_at "wu"
  show wpAny _ _ (call (.type "enumerate") [.ref ls]) _ _ _
  have eL := (N _ (.head _)).1
  dsimp only at eL
  refine call_enumerate_list (items := vs.toArray) ⟨_, eL, rfl, _, rfl⟩ fun h4 he hit hsz k4 => ?_
  have nE : h.get? (h.objs.size + 1) = none := Heap.get?_none_of_le (Nat.le_succ _)
  have nIt : h.get? h.objs.size = none := Heap.get?_none_of_le (Nat.le_refl _)
  have hei : h.objs.size + 1 ≠ h.objs.size := Nat.succ_ne_self _
  dsimp only at he hit ⊢
  generalize h.objs.size + 1 = e at he nE hei ⊢
  generalize h.objs.size = it at he hit nIt hei ⊢
  wtm_at "sc"
  wtm_at "wu"
  refine wpAny_pyIter_enum he ?_
  have nzl : z ≠ ls := fun q => by
    have b := (N _ (.tail _ (.head _))).1
    dsimp only at b
    rw [q, eL] at b; exact absurd (congrArg Obj.cls (Option.some.inj b)) (by simp)
  have nlL : ls ≠ L := (N _ (.head _)).2.1
  have nl0 : h₀.get? ls = none := (N _ (.head _)).2.2
  have hLs : ∃ o, h.get? L = some o := by obtain ⟨o, _, _, a, _⟩ := F.ns; exact ⟨o, a⟩
  obtain ⟨oLL, hLs⟩ := hLs
  have N4 : News h₀ L h4 ((ls, seqObj "list" vs.toArray kk) :: (z, OBJ0) :: rest) := fun p hp => ⟨k4 _ _ (N p hp).1, (N p hp).2⟩
  have nw4 : ∀ p ∈ (ls, seqObj "list" vs.toArray kk) :: (z, OBJ0) :: rest, p.1 ≠ e ∧ p.1 ≠ it := fun p hp => ⟨fun q => (by rw [← q, (N p hp).1] at nE; cases nE), fun q => (by rw [← q, (N p hp).1] at nIt; cases nIt)⟩
  refine codeAny_enum (R := fun r s' => match r with | .ok f => Q f s' | .error e => cameBackBy (model PG w) A (CDE L) E e s') (n := n) (l := ls) (old := .none) hh (by rfl) (by rfl) (by rfl) hei (fun q => by rw [q] at nE; exact absurd (nE.symm.trans hLs) (by simp)) (fun q => by rw [q] at nIt; exact absurd (nIt.symm.trans hLs) (by simp)) (none_of_sub F.keep nE) (none_of_sub F.keep nIt) he hit (Fr_up F k4) N4 nw4
    (fun k m' news' => Ex3 fun vs' kk' tc' => And4 (news' = (ls, seqObj "list" (vs' : List Value).toArray kk') :: (z, OBJ0) :: rest) (OptsAre z vs' (upd x 0 k os)) (m' (Str.ofString "cnt_t") = some (.int ((c + cntIn x 0 k os : Nat) : Int) tc')) ((∀ y, y ≠ Str.ofString "j" → y ≠ Str.ofString "other_elem" → y ≠ Str.ofString "cnt_t" → m' y = m y))) ?_ ?_ ?_ ?_
  · exact ⟨vs, kk, tc, rfl, by rw [upd_zero]; exact hO, by rw [cnt_zero]; exact mc, fun y _ _ _ => rfl⟩
  · rintro k m' news' ⟨vs', kk', tc', rfl, hO', _⟩
    exact ⟨vs', kk', .head _, by rw [hO'.len, upd_len, hn]⟩
  · rintro k v tk₁ m₁ news₁ s₁ oe oi hk ⟨vs₁, kk₁, tc₁, rfl, hO₁, mc₁, mo₁⟩ hv hnw ⟨hh', tk', rfl⟩ F₁ N₁
    dsimp only at *
    refine wpAny_passesOwn hE ?_
    have eL₁ := (N₁ _ (List.mem_append_right _ (.head _))).1
    have ez₁ := (N₁ _ (List.mem_append_right _ (.tail _ (.head _)))).1
    dsimp only at eL₁ ez₁
    have hlen₁ : vs₁.length = n := by rw [hO₁.len, upd_len, hn]
    replace hv := hv vs₁ kk₁ (.head _)
    obtain ⟨o, ho⟩ : ∃ o, os[k]? = some o := ⟨os[k]'(by exact ar14 ‹_› ‹_›), by simp [hn, hk]⟩
    have hvo : VO z v o := hO₁.at_ _ _ _ hv (by rw [upd_at]; exact ho)
    have hcs := cnt_succ x 0 k os (Nat.zero_le _) ho
    refine eCons ?_
    wtm_at "sc"
    wtm_at "wu"
    refine wpAny_loadName_local (by rfl) (by rfl) F₁.ns (by rfl) ?_
    wtm_at "sc"
    wtm_at "wu"
    refine wpAny_loadName_local (by rfl) (by rfl) F₁.ns (by exact (mo₁ _ (by decide) (by decide) (by decide)).trans me) ?_
    wtm_at "sc"
    wtm_at "wu"
    refine eq_vo hu ez₁ hvo ?_
    wtm_at "sc"
    wtm_at "wu"
    by_cases hx : o = some x
    · rw [decide_eq_true hx, if_pos rfl]
      wtm_at "sc"
      wtm_at "wu"
      refine wpAny_loadName_local (by rfl) (by rfl) F₁.ns mc₁ ?_
      wtm_at "sc"
      wtm_at "wu"
      refine PySem.P.iadd_int ?_
      wtm_at "sc"
      wtm_at "wu"
      refine wpAny_storeName_local (by rfl) F₁.ns (fun h6 ns6 sb6 => ?_) (by rfl)
      have F₆ := Fr_set F₁ ns6 sb6
      wtm_at "sc"
      wtm_at "wu"
      refine wpAny_loadName_local (by rfl) (by rfl) F₆.ns (by exact (mo₁ _ (by decide) (by decide) (by decide)).trans mz) ?_
      wtm_at "sc"
      wtm_at "wu"
      refine wpAny_loadName_local (by rfl) (by rfl) F₆.ns (by exact (mo₁ _ (by decide) (by decide) (by decide)).trans ms) ?_
      wtm_at "sc"
      wtm_at "wu"
      refine wpAny_loadName_local (by rfl) (by rfl) F₆.ns (by rfl) ?_
      wtm_at "sc"
      wtm_at "wu"
      refine set_c ((sb6.2 ls nlL).trans eL₁) rfl (by rw [hlen₁]; exact hk) (by exact ar35 ‹_› ‹_›) fun h7 kk7 k7 e7 => ?_
      have F₇ : Fr h₀ L h7 _ := ⟨F₆.ns.at' fun o e => k7 _ o (Ne.symm nlL) e, fun b o e => k7 b o (fun q => by rw [q, nl0] at e; cases e) (F₆.keep b o e), F₆.above⟩
      wtm_at "sc"
      wtm_at "wu"
      have nl := hnw _ (.head _)
      refine ⟨.inl rfl, h7, _, _, (ls, seqObj "list" (vs₁.set k (.ref z)).toArray kk7) :: (z, OBJ0) :: rest, rfl, F₇, ?_, ?_, vs₁.set k (.ref z), kk7, tk' + 1, rfl, ?_, ?_, ?_⟩
      · intro p hp
        have other : p ∈ [(e, oe), (it, oi)] ++ (z, OBJ0) :: rest → p.1 ≠ ls → News h₀ L h7 [p] := fun hp' hne q hq => by
          rw [List.mem_singleton.mp hq]
          have a := N₁ p (by rcases List.mem_append.mp hp' with x | x; exact List.mem_append_left _ x; exact List.mem_append_right _ (.tail _ x))
          exact ⟨k7 _ _ hne ((sb6.2 _ a.2.1).trans a.1), a.2⟩
        rcases List.mem_append.mp hp with hp | hp
        · refine other (List.mem_append_left _ hp) ?_ p (.head _)
          simp only [List.mem_cons, List.not_mem_nil, or_false] at hp
          rcases hp with rfl | rfl
          · exact Ne.symm nl.1
          · exact Ne.symm nl.2
        · rcases List.mem_cons.mp hp with rfl | hp
          · exact ⟨e7, nlL, nl0⟩
          · refine other (List.mem_append_right _ hp) ?_ p (.head _)
            rcases List.mem_cons.mp hp with rfl | hp
            · exact nzl
            · exact hr p hp
      · intro p hp
        rcases List.mem_cons.mp hp with rfl | hp
        · exact nl
        · exact hnw p (.tail _ hp)
      · rw [upd_hit x 0 k os (Nat.zero_le _) (by rw [ho, hx])]
        exact hO₁.set (o := none) rfl
      · rw [hcs, if_pos hx]
        exact congrArg (fun z => some (Value.int z _)) (by lia)
      · intro y hy1 hy2 hy3
        show (if y = _ then _ else if y = _ then _ else if y = _ then _ else _) = _
        rw [if_neg hy3, if_neg hy2, if_neg hy1]
        exact mo₁ y hy1 hy2 hy3
    · rw [decide_eq_false hx, if_neg (by decide)]
      wtm_at "sc"
      wtm_at "wu"
      refine ⟨.inl rfl, hh', _, _, _, rfl, F₁, N₁, hnw, vs₁, kk₁, tc₁, rfl, ?_, ?_, ?_⟩
      · rw [upd_miss x 0 k os (by rw [ho]; exact fun q => hx (Option.some.inj q))]
        exact hO₁
      · rw [hcs, if_neg hx]
        exact mc₁
      · intro y hy1 hy2 hy3
        show (if y = _ then _ else if y = _ then _ else _) = _
        rw [if_neg hy2, if_neg hy1]
        exact mo₁ y hy1 hy2 hy3
  · rintro h' tk' m' news' F' N' ⟨vs₁, kk₁, tc₁, rfl, hO₁, mc₁, mo₁⟩
    exact hq h' tk' m' vs₁ kk₁ tc₁ F' N' hO₁ mc₁ mo₁

end
-- W8D
section
open PySem PySem.W PyProof.Rows PySem.Calls PySem.Spec PySem.Builtin.Str
noncomputable abbrev Cnt := Nat × Nat × Str
noncomputable def cd1 (st : List (Option Str) × List (Option Str) × List Cnt) (i : Nat) : List (Option Str) × List (Option Str) × List Cnt :=
  match st.1[i]? with
  | some (some x) => (upd x i st.1.length st.1, upd x 0 st.2.1.length st.2.1, if cntIn x i st.1.length st.1 ≠ cntIn x 0 st.2.1.length st.2.1 then st.2.2 ++ [(cntIn x i st.1.length st.1, cntIn x 0 st.2.1.length st.2.1, x)] else st.2.2)
  | _ => st
noncomputable def cd2 (st : List (Option Str) × List Cnt) (i : Nat) : List (Option Str) × List Cnt :=
  match st.1[i]? with
  | some (some x) => (upd x i st.1.length st.1, st.2 ++ [(0, cntIn x i st.1.length st.1, x)])
  | _ => st
noncomputable def cdA (a b : List Str) (n : Nat) : List (Option Str) × List (Option Str) × List Cnt := (List.range n).foldl cd1 (a.map some, b.map some, [])
noncomputable def cdB (a b : List Str) (n : Nat) : List (Option Str) × List Cnt := (List.range n).foldl cd2 ((cdA a b a.length).2.1, (cdA a b a.length).2.2)
noncomputable def cdOf (a b : List Str) : List Cnt := (cdB a b b.length).2
theorem cdA_succ (a b : List Str) (n : Nat) : cdA a b (n + 1) = cd1 (cdA a b n) n := by unfold cdA; rw [List.range_succ, List.foldl_append]; rfl
theorem cdB_succ (a b : List Str) (n : Nat) : cdB a b (n + 1) = cd2 (cdB a b n) n := by unfold cdB; rw [List.range_succ, List.foldl_append]; rfl
theorem cd1_len (st : List (Option Str) × List (Option Str) × List Cnt) (i : Nat) : (cd1 st i).1.length = st.1.length ∧ (cd1 st i).2.1.length = st.2.1.length ∧ (cd1 st i).2.2.length ≤ st.2.2.length + 1 := by
  unfold cd1
  split
  · refine ⟨upd_len .., upd_len .., ?_⟩
    dsimp only
    split
    · simp
    · exact Nat.le_succ _
  · exact ⟨rfl, rfl, Nat.le_succ _⟩
theorem cdA_len (a b : List Str) (n : Nat) : (cdA a b n).1.length = a.length ∧ (cdA a b n).2.1.length = b.length ∧ (cdA a b n).2.2.length ≤ n := by
  induction n with
  | zero => exact ⟨by show (a.map some).length = _; simp, by show (b.map some).length = _; simp, Nat.le_refl _⟩
  | succ n ih =>
    rw [cdA_succ]
    obtain ⟨x, y, z⟩ := cd1_len (cdA a b n) n
    exact ⟨x.trans ih.1, y.trans ih.2.1, by exact lc (lR3 _ _ _) (.h z0 z1 (.h z2 (lS z0) (.g z2 (lS z1)))) lT ih.2.2 z⟩
theorem cdB_len (a b : List Str) (n : Nat) : (cdB a b n).1.length = b.length ∧ (cdB a b n).2.length ≤ a.length + n := by
  induction n with
  | zero => exact ⟨(cdA_len a b a.length).2.1, (cdA_len a b a.length).2.2⟩
  | succ n ih =>
    rw [cdB_succ]
    unfold cd2
    split
    · exact ⟨(upd_len ..).trans ih.1, by simp; exact lc (lR3 _ _ _) (.h z0 (lA z1 z2) (.g (lS z0) (lA z1 (lS z2)))) lT ih.2⟩
    · exact ⟨ih.1, by exact lc (lR3 _ _ _) (.h z0 (lA z1 z2) (.g z0 (lA z1 (lS z2)))) lT ih.2⟩
inductive MisAre : List Value → List Cnt → List (Addr × Obj) → Prop
  | nil : MisAre [] [] []
  | snoc {vs : List Value} {rs : List Cnt} {ms : List (Addr × Obj)} (C : Addr) (dd : Option Addr) (a b : Nat) (x : Str) (ta tb t : Tok) (k : Nat) : MisAre vs rs ms → MisAre (vs ++ [.ref C]) (rs ++ [(a, b, x)]) (ms ++ [(C, ⟨.ref 206, dd, .seq #[.int (a : Int) ta, .int (b : Int) tb, .str x t] k, #[]⟩)])
theorem MisAre.len {vs : List Value} {rs : List Cnt} {ms : List (Addr × Obj)} (h : MisAre vs rs ms) : vs.length = rs.length := by
  induction h with
  | nil => rfl
  | snoc _ _ _ _ _ _ _ _ _ _ ih => simp [ih]
theorem MisAre.cls {vs : List Value} {rs : List Cnt} {ms : List (Addr × Obj)} (h : MisAre vs rs ms) : ∀ p ∈ ms, p.2.cls = .ref 206 := by
  induction h with
  | nil => intro p hp; cases hp
  | snoc _ _ _ _ _ _ _ _ _ _ ih =>
    intro p hp
    rcases List.mem_append.mp hp with hp | hp
    · exact ih p hp
    · rw [List.mem_singleton.mp hp]

end
-- W8E
section
open PySem PySem.W PyProof.Rows PySem.Calls PySem.Spec PySem.Builtin.Str
theorem is_same {w : World} {a : Addr} {oa : Obj} {A : Around} {E : Value → Shared → Prop} {Q : Value → Shared → Prop} {s : Shared} (ea : s.heap.get? a = some oa) (hq : Q (.bool true) s) : wpAny (model PG w) A (compareOp .Is (.ref a) (.ref a)) Q E s := by
  obtain ⟨h, g, d, t, os⟩ := s
  have hab' : decide ((a == a) = true) = true := by simp
  wtm_at "sc"
  (repeat wtm_at "wone")
  exact hq
section
set_option maxRecDepth 100000 in
set_option maxHeartbeats 8000000 in
theorem newobj_x {w : World} {A : Around} {E : Value → Shared → Prop} {h : Heap} {g : Array GenState} {d : Drawn} {t : Nat} {os : OsState} :
   wpAny (model PG w) A (call (.type "object") []) (fun v s' => Ex2 fun h' C => And5 ((Ext h h')) (h'.get? C = some OBJ0) (h.get? C = none) (v = .ref C) (s' = ⟨h', g, d, t, os⟩)) E ⟨h, g, d, t, os⟩ := by
  x_run
end
theorem newobj {w : World} {A : Around} {E : Value → Shared → Prop} {Q : Value → Shared → Prop} {s : Shared} (hq : ∀ h' C, (Ext s.heap h') → h'.get? C = some OBJ0 → s.heap.get? C = none → Q (.ref C) { s with heap := h' }) :
   wpAny (model PG w) A (call (.type "object") []) Q E s := by
  obtain ⟨h, g, d, t, os⟩ := s
  refine wpAny_mono newobj_x (fun v s' hv => ?_) fun _ _ e => e
  obtain ⟨h', C, a, b, c, rfl, rfl⟩ := hv
  exact hq h' C a b c

end
-- AM
section
open PySem PySem.W PyProof.Rows PySem.Calls PySem.Spec PySem.Builtin.Str
section
variable {prog : Program} {w : World} {A : Around} {E : Value → Shared → Prop} {s : Shared} {env : Env}
theorem aM {o : Expr} {name : Str} {apos pos : Pos} {args : List Expr} {trees : List (Bool × Sem Value)} {Q : Value → Shared → Prop} (ht : backTo pos (starEach args env) = trees)
    (hbase : attributeBase o name env (eval o env) = eval o env) (hfew : methodCallForm (args.length + ([] : List Keyword).length) trees (backToKw pos (keywordEach [] env)) = true) (hline : (apos.endLine == pos.line) = true)
    (h : wpAny (model prog w) A (eval o env) (kont (model prog w) A (fun ov => getMethod ov name (do return (← importBound o env).getD true)) (kont (model prog w) A (fun p => callWith pos p.1 p.2 trees []) Q E) E) E s) :
    wpAny (model prog w) A (eval (.Call (.Attribute o name apos) args [] pos) env) Q E s := by
  subst ht
  rw [arm_eval_Call, hbase]
  refine wpAny_bind (wpAny_mono h (fun ov s₁ h₁ => ?_) fun _ _ e => e)
  refine wpAny_bind (wpAny_standAt ?_)
  have hpos : methodCallPos true o env apos pos = pure pos := by unfold methodCallPos; simp [hline]
  unfold methodCall
  rw [hfew]
  refine wpAny_bind (wpAny_holding ?_)
  unfold calleeOf
  rw [if_pos rfl]
  refine wpAny_mono h₁ (fun p s₂ h₂ => ?_) fun _ _ e => e
  exact wpAny_bind (wpAny_of_eq hpos h₂)
theorem aM0 {x name : Str} {p apos pos : Pos} {Q : Value → Shared → Prop} (hline : (apos.endLine == pos.line) = true)
    (h : wpAny (model prog w) A (eval (.Name x p) env) (kont (model prog w) A (fun ov => (getMethod ov name (do return (← importBound (.Name x p) env).getD true))) (kont (model prog w) A (fun p => (callWith pos p.1 p.2 [] [])) Q E) E) E s) :
    wpAny (model prog w) A (eval (.Call (.Attribute (.Name x p) name apos) [] [] pos) env) Q E s := aM rfl rfl rfl hline h
theorem aM1 {x name : Str} {p apos pos : Pos} {e : Expr} {Q : Value → Shared → Prop} (hline : (apos.endLine == pos.line) = true) (hs : starEach [e] env = [(false, eval e env)])
    (h : wpAny (model prog w) A (eval (.Name x p) env) (kont (model prog w) A (fun ov => (getMethod ov name (do return (← importBound (.Name x p) env).getD true))) (kont (model prog w) A (fun p => (callWith pos p.1 p.2 [(false, eval e env)] [])) Q E) E) E s) :
    wpAny (model prog w) A (eval (.Call (.Attribute (.Name x p) name apos) [e] [] pos) env) Q E s := aM (by rw [hs]; rfl) rfl (by rfl) hline h
end

end
-- W8L
section
open PySem PySem.W PyProof.Rows PySem.Calls PySem.Spec PySem.Builtin.Str
structure CDm (f : Str → Option Value) (ls lt z D : Addr) (n1 n2 : Nat) : Prop where
  s : f (Str.ofString "s") = some (.ref ls)
  t : f (Str.ofString "t") = some (.ref lt)
  m : ∃ u, f (Str.ofString "m") = some (.int n1 u)
  n : ∃ u, f (Str.ofString "n") = some (.int n2 u)
  z : f (Str.ofString "NULL") = some (.ref z)
  r : f (Str.ofString "result") = some (.ref D)
noncomputable def cdTurns (y : Str) : Prop := y = Str.ofString "i" ∨ y = Str.ofString "elem" ∨ y = Str.ofString "cnt_s" ∨ y = Str.ofString "cnt_t" ∨ y = Str.ofString "j" ∨ y = Str.ofString "other_elem" ∨ y = Str.ofString "diff"
theorem CDm.of {m m' : Str → Option Value} {ls lt z D : Addr} {n1 n2 : Nat} (h : CDm m ls lt z D n1 n2) (e : ∀ y, ¬ cdTurns y → m' y = m y) : CDm m' ls lt z D n1 n2 :=
  ⟨(e _ (by unfold cdTurns; decide)).trans h.s, (e _ (by unfold cdTurns; decide)).trans h.t, h.m.imp fun u x => (e _ (by unfold cdTurns; decide)).trans x, h.n.imp fun u x => (e _ (by unfold cdTurns; decide)).trans x, (e _ (by unfold cdTurns; decide)).trans h.z, (e _ (by unfold cdTurns; decide)).trans h.r⟩
theorem News_sub {h₀ h : Heap} {L : Addr} {l l' : List (Addr × Obj)} (N : News h₀ L h l) (s : ∀ p ∈ l', p ∈ l) : News h₀ L h l' := fun p hp => N p (s p hp)
theorem is_diff {w : World} {a : Addr} {x : Str} {t : Tok} {A : Around} {E : Value → Shared → Prop} {Q : Value → Shared → Prop} {s : Shared} (hq : Q (.bool false) s) : wpAny (model PG w) A (compareOp .Is (.str x t) (.ref a)) Q E s := by
  obtain ⟨h, g, d, t, os⟩ := s
  wtm_at "sc"
  (repeat wtm_at "wone")
  exact hq
theorem kM : keepIn [(206, OM #[some (.ref 136), none, some (.str (Str.ofString "Mismatch") 479), some (.str (Str.ofString "Mismatch") 487), some .none, some (.bool false)])] (.ref 206) = true := by kernel_rfl
theorem inM {w : World} {h : Heap} (X : (KF w).In h) : Frag.In [(206, OM #[some (.ref 136), none, some (.str (Str.ofString "Mismatch") 479), some (.str (Str.ofString "Mismatch") 487), some .none, some (.bool false)])] h := by
  intro a o e
  rw [List.lookup_cons] at e
  by_cases q : a = 206
  · subst q
    cases e
    exact X 206 _ rfl
  · have : (a == 206) = false := by simp [q]
    rw [this] at e
    cases e
theorem asg2 {prog : Program} {w : World} {A : Around} {E : Value → Shared → Prop} {s : Shared} {env : Env} {x y : Str} {value : Expr} {p1 p2 pos : Pos} {Q : Flow → Shared → Prop}
    (h : wpAny (model prog w) A (eval value env) (fun v s₁ => wpAny (model prog w) A (storeName env x v) (fun _ s₂ => wpAny (model prog w) A (storeName env y v) (fun _ => Q .next) E s₂) E s₁) E s)
    (he : autoParam ((assignEach [.Name x p1, .Name y p2] env).map (·.2) = [assign (.Name x p1) env, assign (.Name y p2) env]) aR)
    (hw : autoParam (swappedStores [.Name x p1, .Name y p2] value env = pure none) aR) :
    wpAny (model prog w) A (exec (.Assign [.Name x p1, .Name y p2] value pos) env) Q E s :=
  wpAny_Assign_two (wpAny_mono h (fun _ _ h₁ => wpAny_assign_Name (wpAny_mono h₁ (fun _ _ h₂ => wpAny_assign_Name h₂) fun _ _ e => e)) fun _ _ e => e) he hw

end
-- W8M
section
open PySem PySem.W PyProof.Rows PySem.Calls PySem.Spec PySem.Builtin.Str
set_option maxRecDepth 100000
set_option maxHeartbeats 4000000
theorem cw3K {prog : Program} {w : World} {K : Frag} {h₀ : Heap} {A : Around} {E : Value → Shared → Prop} {s : Shared} {env : Env} {pos : Pos} {f : Value} {e1 e2 e3 : Expr} {Q : Value → Shared → Prop} (X : K.In h₀) (hk : keepIn K f = true)
    (hs : starEach [e1, e2, e3] env = [(false, eval e1 env), (false, eval e2 env), (false, eval e3 env)])
    (hs2 : starEach [e2, e3] env = [(false, eval e2 env), (false, eval e3 env)])
    (h : wpAny (model prog w) A (eval e1 env) (fun v1 s1 => wpAny (model prog w) A (eval e2 env) (fun v2 s2 => wpAny (model prog w) A (eval e3 env) (fun v3 s3 => K.In s3.heap ∧ wpAny (model prog w) A (call f [v1, v2, v3]) Q E s3) E s2) E s1) E s) :
    wpAny (model prog w) A (callWith pos f [] [(false, eval e1 env), (false, eval e2 env), (false, eval e3 env)] []) Q E s := by
  have he : starEach (e1 :: [e2, e3]) env = (false, eval e1 env) :: starEach [e2, e3] env := by rw [hs, hs2]
  have hp : (backTo pos (starEach [e2, e3] env)).any (·.1) = false := by rw [hs2]; rfl
  have := callWith_K (M := model prog w) (A := A) (E := E) (s := s) (env := env) (pos := pos) (f := f) (first := []) (e := e1) (rest := [e2, e3]) (Q := Q) X hk (he := he) (hplain := hp)
  rw [hs] at this
  exact this (sp3 h)
theorem mkDiff {w : World} {A : Around} {E : Value → Shared → Prop} {Q : Flow → Shared → Prop} {s : Shared} {h₀ : Heap} {L D : Addr} {m : Str → Option Value} {wd : List Value} {kd a b : Nat} {rest : List (Addr × Obj)} {x : Str} {tx : Tok} {ea eb : Expr} {p1 p2 p3 p4 p5 p6 p7 p8 p9 p10 : Pos} {o3 : Obj}
  {p : Program} {loose : List Str} {mean : ExcName → Option Value} {mg mb : Str → Option Value} (X : (KF w).In h₀) (Tp : Top p loose mean mg mb h₀)
  (hh : A.handled = none) (hd : A.depth ≤ 400) (hun : A.units ≤ 100) (e3 : h₀.get? 3 = some o3) (l3 : nsLook (Str.ofString "_Mismatch") o3 = pure (some (.ref 206)))
  (F : Fr h₀ L s.heap m) (N : News h₀ L s.heap ((D, seqObj "list" wd.toArray kd) :: rest)) (hr : ∀ q ∈ rest, q.1 ≠ D) (hz : wd.length ≤ 1000)
  (me : m (Str.ofString "elem") = some (.str x tx)) (mr : m (Str.ofString "result") = some (.ref D)) (hl : (p8.endLine == p10.line) = true)
  (hst2 : starEach [eb, .Name (Str.ofString "elem") p3] (CDE L) = [(false, eval eb (CDE L)), (false, eval (.Name (Str.ofString "elem") p3) (CDE L))])
  (hst : starEach [ea, eb, .Name (Str.ofString "elem") p3] (CDE L) = [(false, eval ea (CDE L)), (false, eval eb (CDE L)), (false, eval (.Name (Str.ofString "elem") p3) (CDE L))])
  (hea : ∀ (Q' : Value → Shared → Prop), (∀ ta tk, Q' (.int (a : Int) ta) { s with toks := tk }) → wpAny (model PG w) A (eval ea (CDE L)) Q' E s)
  (heb : ∀ tk (Q' : Value → Shared → Prop), (∀ tb tk', Q' (.int (b : Int) tb) { s with toks := tk' }) → wpAny (model PG w) A (eval eb (CDE L)) Q' E { s with toks := tk })
  (hq : ∀ h' tk m' C dd k kd' ta tb, Fr h₀ L h' m' → News h₀ L h' ((D, seqObj "list" (wd ++ [Value.ref C]).toArray kd') :: (C, ⟨.ref 206, dd, .seq #[.int (a : Int) ta, .int (b : Int) tb, .str x tx] k, #[]⟩) :: rest) → C ≠ D → (∀ q ∈ rest, q.1 ≠ C) → (∀ y, y ≠ Str.ofString "diff" → m' y = m y) → Q .next { s with heap := h', toks := tk }) :
  wpAny (model PG w) A (execs [.Assign [.Name (Str.ofString "diff") p1] (.Call (.Name (Str.ofString "_Mismatch") p2) [ea, eb, .Name (Str.ofString "elem") p3] [] p4) p5,
     .Expr (.Call (.Attribute (.Name (Str.ofString "result") p7) (Str.ofString "append") p8) [.Name (Str.ofString "diff") p9] [] p10) p6] (CDE L)) Q E s := by
  obtain ⟨h, g, d, t, os⟩ := s
  dsimp only at *
  refine eCons (eAsg ?_)
  refine cN3 (wpAny_Name (ldG (by rfl) (by rfl) (by rfl) (F.keep _ _ e3) l3 ?_)) hst
  refine cw3K (h₀ := h) (inM fun a o e => F.keep _ _ (X a o e)) kM hst hst2 ?_
  refine hea _ fun ta tk1 => heb _ _ fun tb tk2 => ?_
  refine wpAny_Name (wpAny_loadName_local (by rfl) (by rfl) F.ns me ⟨inM fun a o e => F.keep _ _ (X a o e), ?_⟩)
  refine mism (s := ⟨h, g, d, tk2, os⟩) (fun a o e => F.keep _ _ (X a o e)) (Tp.keeps F.keep) hh hd hun fun h2 C k tk3 dd k2 nC eC => ?_
  dsimp only at k2 nC eC ⊢
  have nCL : C ≠ L := fun q => by obtain ⟨o, _, _, u, _⟩ := F.ns; rw [q, show h.get? L = some _ from u] at nC; cases nC
  have F2 := Fr_up F k2
  have N2 : News h₀ L h2 ((C, ⟨.ref 206, dd, .seq #[.int (a : Int) ta, .int (b : Int) tb, .str x tx] k, #[]⟩) :: (D, seqObj "list" wd.toArray kd) :: rest) := by
    intro q hq
    rcases List.mem_cons.mp hq with rfl | hq
    · exact ⟨eC, nCL, none_of_sub F.keep nC⟩
    · exact ⟨k2 _ _ (N q hq).1, (N q hq).2⟩
  have nCr : ∀ q ∈ (D, seqObj "list" wd.toArray kd) :: rest, q.1 ≠ C := fun q hq e => by have := (N q hq).1; rw [e, nC] at this; cases this
  refine wpAny_storeName_local (by rfl) F2.ns (fun h3 ns3 sb3 => ?_) (by rfl)
  have F3 := Fr_set F2 ns3 sb3
  have N3 := N2.set sb3
  have eD3 := (N3 _ (.tail _ (.head _))).1
  refine eCons (eXpr ?_)
  refine aM1 hl (by rfl) (wpAny_Name (wpAny_loadName_local (by rfl) (by rfl) F3.ns (by exact mr) ?_))
  with_unfolding_all refine getMethod_list_of PySem.F.slot_list_append PySem.F.type_list_append ⟨_, eD3, rfl, _, rfl⟩ (noDict eD3) ?_
  refine cwb1 (wpAny_Name (wpAny_loadName_local (by rfl) (by rfl) F3.ns (by rfl) ?_))
  refine append_c (s := ⟨h3, g, d, _, os⟩) eD3 (by rw [sizeLine_eq]; exact ar2 ‹_› (by decide)) fun h4 kd' k4 e4 => ?_
  dsimp only at k4 e4 ⊢
  have nDL : D ≠ L := (N _ (.head _)).2.1
  have nD0 : h₀.get? D = none := (N _ (.head _)).2.2
  have F4 : Fr h₀ L h4 _ := ⟨F3.ns.at' fun o e => k4 _ o (Ne.symm nDL) e, fun b o e => k4 b o (fun q => by rw [q, nD0] at e; cases e) (F3.keep b o e), F3.above⟩
  have nCD : C ≠ D := Ne.symm (nCr _ (.head _))
  refine wpAny_execs_nil (hq h4 _ _ C dd k kd' ta tb F4 ?_ nCD (fun q hq => nCr q (.tail _ hq)) fun y hy => if_neg hy)
  intro q hq
  rcases List.mem_cons.mp hq with rfl | hq
  · exact ⟨e4, nDL, nD0⟩
  · have m : q ∈ (C, (⟨.ref 206, dd, .seq #[.int (a : Int) ta, .int (b : Int) tb, .str x tx] k, #[]⟩ : Obj)) :: (D, seqObj "list" wd.toArray kd) :: rest := by
      rcases List.mem_cons.mp hq with rfl | hq
      · exact .head _
      · exact .tail _ (.tail _ hq)
    refine ⟨k4 _ _ ?_ (N3 q m).1, (N3 q m).2⟩
    rcases List.mem_cons.mp hq with rfl | hq
    · exact nCD
    · exact hr q hq

end
-- W8N
section
open PySem PySem.W PyProof.Rows PySem.Calls PySem.Spec PySem.Builtin.Str
set_option maxRecDepth 100000
set_option maxHeartbeats 4000000
theorem cdTurn1 {w : World} {A : Around} {E : Value → Shared → Prop} {Q : Flow → Shared → Prop} {s : Shared} {h₀ : Heap} {L ls lt z D e it : Addr} {oe oi : Obj} {m : Str → Option Value} {va vb wd : List Value} {ms : List (Addr × Obj)} {os1 os2 : List (Option Str)} {cs : List Cnt} {i ka kb kd n1 n2 : Nat} {ti : Tok} {v : Value} {o : Option Str} {o3 o0 : Obj}
  {a1 a2 a3 a4 a5 a6 a7 a8 a9 b1 b2 b3 b4 b5 b6 b7 b8 b9 b10 b11 b12 b13 b14 b15 b16 b17 b18 b19 b20 c1 c2 c3 c4 c5 c6 c9 c10 c11 c12 c13 c14 c15 c16 c17 c18 c19 c20 c21 d1 d2 d3 d4 d5 d6 d7 d8 d9 d10 d11 d12 d13 d14 d15 d16 : Pos} {x1 : Nat}
  {p : Program} {loose : List Str} {mean : ExcName → Option Value} {mg mb : Str → Option Value} (X : (KF w).In h₀) (Tp : Top p loose mean mg mb h₀)
  (hh : A.handled = none) (hu : A.units < cLine) (hd : A.depth ≤ 400) (hun : A.units ≤ 100)
  (e3 : h₀.get? 3 = some o3) (G3 : nsLook (Str.ofString "range") o3 = pure none ∧ nsLook (Str.ofString "enumerate") o3 = pure none ∧ nsLook (Str.ofString "_Mismatch") o3 = pure (some (.ref 206)))
  (e0 : h₀.get? 0 = some o0) (G0 : nsLook (Str.ofString "range") o0 = pure (some (.type "range")) ∧ nsLook (Str.ofString "enumerate") o0 = pure (some (.type "enumerate")))
  (F : Fr h₀ L s.heap m) (N : News h₀ L s.heap ([(e, oe), (it, oi)] ++ ((ls, seqObj "list" va.toArray ka) :: (lt, seqObj "list" vb.toArray kb) :: (z, OBJ0) :: (D, seqObj "list" wd.toArray kd) :: ms)))
  (apE : ∀ q ∈ (ls, seqObj "list" va.toArray ka) :: (lt, seqObj "list" vb.toArray kb) :: (z, OBJ0) :: (D, seqObj "list" wd.toArray kd) :: ms, q.1 ≠ e ∧ q.1 ≠ it)
  (nst : ls ≠ lt) (nsD : ls ≠ D) (ntD : lt ≠ D) (apM : ∀ q ∈ ms, q.1 ≠ ls ∧ q.1 ≠ lt ∧ q.1 ≠ D)
  (cm : CDm m ls lt z D n1 n2) (mi : m (Str.ofString "i") = some (.int (i : Int) ti)) (me : m (Str.ofString "elem") = some v)
  (hO1 : OptsAre z va os1) (hO2 : OptsAre z vb os2) (hn1 : os1.length = n1) (hn2 : os2.length = n2) (h1 : n1 < 64) (h2 : n2 < 64) (hi : i < n1) (ho : os1[i]? = some o) (hv : VO z v o) (hM : MisAre wd cs ms) (hcs : cs.length < 200)
  (hE : PassesOwn (model PG w) A (CDE L) E) (hl : (d11.endLine == d13.line) = true)
  (hq : ∀ f h' tk m' va' vb' wd' ka' kb' kd' ms', (f = .next ∨ f = .cont) → Fr h₀ L h' m' → News h₀ L h' ([(e, oe), (it, oi)] ++ ((ls, seqObj "list" (va' : List Value).toArray ka') :: (lt, seqObj "list" (vb' : List Value).toArray kb') :: (z, OBJ0) :: (D, seqObj "list" (wd' : List Value).toArray kd') :: ms')) →
    (∀ q ∈ ms', (q.1 ≠ e ∧ q.1 ≠ it) ∧ q.1 ≠ ls ∧ q.1 ≠ lt ∧ q.1 ≠ D) → CDm m' ls lt z D n1 n2 → OptsAre z va' (cd1 (os1, os2, cs) i).1 → OptsAre z vb' (cd1 (os1, os2, cs) i).2.1 → MisAre wd' (cd1 (os1, os2, cs) i).2.2 ms' → Q f { s with heap := h', toks := tk }) :
  wpAny (model PG w) A (execs [.If (.Compare (.Name (Str.ofString "elem") a1) [.Is] [.Name (Str.ofString "NULL") a2] a3) [.Continue a4] [] a5,
    .Assign [.Name (Str.ofString "cnt_s") a6, .Name (Str.ofString "cnt_t") a7] (.Constant (.int 0) 0 a8) a9,
    .For (.Name (Str.ofString "j") b1) (.Call (.Name (Str.ofString "range") b2) [.Name (Str.ofString "i") b3, .Name (Str.ofString "m") b4] [] b5)
      [.If (.Compare (.Subscript (.Name (Str.ofString "s") b6) (.Name (Str.ofString "j") b7) b8) [.Eq] [.Name (Str.ofString "elem") b9] b10)
        [.AugAssign (.Name (Str.ofString "cnt_s") b11) .Add (.Constant (.int 1) 0 b12) b13, .Assign [.Subscript (.Name (Str.ofString "s") b14) (.Name (Str.ofString "j") b15) b16] (.Name (Str.ofString "NULL") b17) b18] [] b19] [] b20,
    .For (.Tuple [.Name (Str.ofString "j") c1, .Name (Str.ofString "other_elem") c2] x1 c3) (.Call (.Name (Str.ofString "enumerate") c4) [.Name (Str.ofString "t") c5] [] c6)
      [.If (.Compare (.Name (Str.ofString "other_elem") c9) [.Eq] [.Name (Str.ofString "elem") c10] c11)
        [.AugAssign (.Name (Str.ofString "cnt_t") c12) .Add (.Constant (.int 1) 0 c13) c14, .Assign [.Subscript (.Name (Str.ofString "t") c15) (.Name (Str.ofString "j") c16) c17] (.Name (Str.ofString "NULL") c18) c19] [] c21] [] c20,
    .If (.Compare (.Name (Str.ofString "cnt_s") d1) [.NotEq] [.Name (Str.ofString "cnt_t") d2] d3)
      [.Assign [.Name (Str.ofString "diff") d4] (.Call (.Name (Str.ofString "_Mismatch") d5) [.Name (Str.ofString "cnt_s") d6, .Name (Str.ofString "cnt_t") d7, .Name (Str.ofString "elem") d8] [] d9) d10,
       .Expr (.Call (.Attribute (.Name (Str.ofString "result") d12) (Str.ofString "append") d11) [.Name (Str.ofString "diff") d14] [] d13) d15] [] d16] (CDE L)) Q E s := by
  obtain ⟨h, g, d, t, os⟩ := s
  dsimp only at *
  have ez := (N _ (.tail _ (.tail _ (.tail _ (.tail _ (.head _)))))).1
  dsimp only at ez
  have nE := apE _ (.head _)
  have nEt := apE _ (.tail _ (.head _))
  have nED := apE _ (.tail _ (.tail _ (.tail _ (.head _))))
  dsimp only at nE nEt nED
  refine eCons (wpAny_If (eTst ?_))
  refine wpAny_Name (wpAny_loadName_local (by rfl) (by rfl) F.ns me ?_)
  refine wpAny_Name (wpAny_loadName_local (by rfl) (by rfl) F.ns cm.z ?_)
  cases o with
  | none =>
    cases (show v = .ref z from hv)
    refine is_same ez (wpAny_truthy_bool ?_)
    rw [if_pos rfl]
    refine eCons (wpAny_Continue ?_)
    have ec : cd1 (os1, os2, cs) i = (os1, os2, cs) := by unfold cd1; dsimp only; rw [ho]
    refine hq .cont h _ m va vb wd ka kb kd ms (.inr rfl) F N (fun q hq' => ⟨apE q (.tail _ (.tail _ (.tail _ (.tail _ hq')))), apM q hq'⟩) cm ?_ ?_ ?_
    · rw [ec]; exact hO1
    · rw [ec]; exact hO2
    · rw [ec]; exact hM
  | some x =>
    obtain ⟨tx, rfl⟩ := hv
    refine is_diff (wpAny_truthy_bool ?_)
    rw [if_neg (by decide)]
    refine wpAny_execs_nil ?_
    refine eCons (asg2 (wpAny_Constant_int ?_))
    refine wpAny_storeName_local (by rfl) F.ns (fun h3 ns3 sb3 => ?_) (by rfl)
    have F3 := Fr_set F ns3 sb3
    refine wpAny_storeName_local (by rfl) F3.ns (fun h4 ns4 sb4 => ?_) (by rfl)
    have F4 := Fr_set F3 ns4 sb4
    have N4 := (N.set sb3).set sb4
    clear F3 ns3 ns4 F
    obtain ⟨m4, F4, cm4, mi4, me4, ms4, mt4⟩ : ∃ m, And6 (Fr h₀ L h4 m) (CDm m ls lt z D n1 n2) (m (Str.ofString "i") = some (.int (i : Int) ti)) (m (Str.ofString "elem") = some (.str x tx)) ((∃ u, m (Str.ofString "cnt_s") = some (.int ((0 : Nat) : Int) u))) ((∃ u, m (Str.ofString "cnt_t") = some (.int ((0 : Nat) : Int) u))) :=
      ⟨_, F4, cm.of (fun y hy => by
        have y1 : y ≠ Str.ofString "cnt_t" := fun q => hy (.inr (.inr (.inr (.inl q))))
        have y2 : y ≠ Str.ofString "cnt_s" := fun q => hy (.inr (.inr (.inl q)))
        show (if y = _ then _ else if y = _ then _ else _) = _
        rw [if_neg y1, if_neg y2]), mi, me, ⟨_, by rfl⟩, ⟨_, by rfl⟩⟩
    clear sb3 sb4 N
    obtain ⟨us, ms4⟩ := ms4
    obtain ⟨ut, mt4⟩ := mt4
    obtain ⟨um, mm4⟩ := cm4.m
    refine eCons ?_
    have N5 : News h₀ L h4 ((ls, seqObj "list" va.toArray ka) :: (z, OBJ0) :: ((e, oe) :: (it, oi) :: (lt, seqObj "list" vb.toArray kb) :: (D, seqObj "list" wd.toArray kd) :: ms)) := News_pick N4 [2, 4, 0, 1, 3, 5] 6
    refine loopA (xs := Str.ofString "s") (xm := Str.ofString "m") (xc := Str.ofString "cnt_s") (i := i) (n := n1) (fun _ => by rfl) (fun _ => by rfl) (fun _ => by rfl) (by decide) (by decide) (by decide) (by decide) (by decide) (by decide) (by decide) (by decide) hh hu e3 G3.1 e0 G0.1 F4 N5 ?_ hO1 hn1 h1 (by exact Nat.le_of_lt ‹_›) mi4 mm4 me4 cm4.z cm4.s ms4 hE fun h6 tk6 m6 va6 ka6 tc6 F6 N6 hO6 mc6 mo6 => ?_
    · exact fcons (Ne.symm nE.1) (fcons (Ne.symm nE.2) (fcons (Ne.symm nst) (fcons (Ne.symm nsD) fun q hq' => (apM q hq').1)))
    have cm6 : CDm m6 ls lt z D n1 n2 := cm4.of fun y hy => mo6 y (fun q => hy (.inr (.inr (.inr (.inr (.inl q)))))) (fun q => hy (.inr (.inr (.inl q))))
    have me6 := (mo6 (Str.ofString "elem") (by decide) (by decide)).trans me4
    have mt6 := (mo6 (Str.ofString "cnt_t") (by decide) (by decide)).trans mt4
    clear F4 N4 N5 cm4 mi4 me4 ms4 mt4 mm4 mo6 m4
    refine eCons ?_
    have N7 : News h₀ L h6 ((lt, seqObj "list" vb.toArray kb) :: (z, OBJ0) :: ((e, oe) :: (it, oi) :: (ls, seqObj "list" va6.toArray ka6) :: (D, seqObj "list" wd.toArray kd) :: ms)) := News_pick N6 [4, 1, 2, 3, 0, 5] 6
    refine loopB (n := n2) hh hu e3 G3.2.1 e0 G0.2 F6 N7 ?_ hO2 hn2 h2 me6 cm6.z cm6.t mt6 hE fun h8 tk8 m8 vb8 kb8 tc8 F8 N8 hO8 mc8 mo8 => ?_
    · exact fcons (Ne.symm nEt.1) (fcons (Ne.symm nEt.2) (fcons nst (fcons (Ne.symm ntD) fun q hq' => (apM q hq').2.1)))
    have cm8 : CDm m8 ls lt z D n1 n2 := cm6.of fun y hy => mo8 y (fun q => hy (.inr (.inr (.inr (.inr (.inl q)))))) (fun q => hy (.inr (.inr (.inr (.inr (.inr (.inl q))))))) (fun q => hy (.inr (.inr (.inr (.inl q)))))
    have me8 := (mo8 (Str.ofString "elem") (by decide) (by decide) (by decide)).trans me6
    have mc8s := (mo8 (Str.ofString "cnt_s") (by decide) (by decide) (by decide)).trans mc6
    clear F6 N6 N7 cm6 me6 mt6 mc6 mo8 m6
    rw [Nat.zero_add] at mc8 mc8s
    have ec : cd1 (os1, os2, cs) i = (upd x i n1 os1, upd x 0 n2 os2, if cntIn x i n1 os1 ≠ cntIn x 0 n2 os2 then cs ++ [(cntIn x i n1 os1, cntIn x 0 n2 os2, x)] else cs) := by unfold cd1; dsimp only; rw [ho]; dsimp only; rw [hn1, hn2]
    rw [ec] at hq
    dsimp only at hq
    clear ec
    generalize cntIn x i n1 os1 = ca at *
    generalize cntIn x 0 n2 os2 = cb at *
    have hwl := hM.len
    refine eCons (wpAny_If (eTst ?_))
    refine wpAny_Name (wpAny_loadName_local (by rfl) (by rfl) F8.ns mc8s ?_)
    refine wpAny_Name (wpAny_loadName_local (by rfl) (by rfl) F8.ns mc8 ?_)
    refine PySem.P.ne_int (wpAny_truthy_bool ?_)
    by_cases hc : ca = cb
    · rw [if_neg (by simp [hc])]
      refine wpAny_execs_nil (wpAny_execs_nil ?_)
      rw [if_neg (by simp [hc])] at hq
      refine hq .next h8 _ m8 va6 vb8 wd ka6 kb8 kd ms (.inl rfl) F8 ?_ (fun q hq' => ⟨apE q (.tail _ (.tail _ (.tail _ (.tail _ hq')))), apM q hq'⟩) cm8 hO6 hO8 hM
      exact News_pick N8 [2, 3, 4, 0, 1, 5] 6
    · rw [if_pos (by simp; lia)]
      rw [if_pos hc] at hq
      have N9 : News h₀ L h8 ((D, seqObj "list" wd.toArray kd) :: ((e, oe) :: (it, oi) :: (ls, seqObj "list" va6.toArray ka6) :: (lt, seqObj "list" vb8.toArray kb8) :: (z, OBJ0) :: ms)) := News_pick N8 [5, 2, 3, 4, 0, 1] 6
      have nzD : z ≠ D := fun q => by
        have a := (N9 _ (.head _)).1
        have b := (N9 _ (.tail _ (.tail _ (.tail _ (.tail _ (.tail _ (.head _))))))).1
        dsimp only at a b
        rw [q, a] at b; exact absurd (congrArg Obj.cls (Option.some.inj b)) (by simp)
      refine mkDiff (s := ⟨h8, g, d, _, os⟩) (a := ca) (b := cb) X Tp hh hd hun e3 G3.2.2 F8 N9 ?_ (by rw [hwl]; exact ar3 ‹_› (by decide)) me8 cm8.r hl (by rfl) (by rfl) ?_ ?_ fun h9 tk9 m9 C dd k kd9 ta tb F9 N10 nCD nCr mo9 => ?_
      · exact fcons (Ne.symm nED.1) (fcons (Ne.symm nED.2) (fcons nsD (fcons ntD (fcons nzD fun q hq' => (apM q hq').2.2))))
      · intro Q' h'
        exact wpAny_Name (wpAny_loadName_local (by rfl) (by rfl) F8.ns mc8s (h' _ _))
      · intro tk Q' h'
        exact wpAny_Name (wpAny_loadName_local (by rfl) (by rfl) F8.ns mc8 (h' _ _))
      refine wpAny_execs_nil (hq .next h9 tk9 m9 va6 vb8 (wd ++ [.ref C]) ka6 kb8 kd9 (ms ++ [(C, ⟨.ref 206, dd, .seq #[.int (ca : Int) ta, .int (cb : Int) tb, .str x tx] k, #[]⟩)]) (.inl rfl) F9 ?_ ?_ (cm8.of fun y hy => mo9 y fun q => hy (.inr (.inr (.inr (.inr (.inr (.inr q))))))) hO6 hO8 (.snoc C dd ca cb x ta tb tx k hM))
      · exact News_join (News_some N10 [2, 3]) (News_join (l := [_, _, _, _]) (News_some N10 [4, 5, 6, 0]) (News_join (News_drop N10 7) (News_some N10 [1])))
      · intro q hq'
        rcases List.mem_append.mp hq' with hq' | hq'
        · exact ⟨apE q (.tail _ (.tail _ (.tail _ (.tail _ hq')))), apM q hq'⟩
        · rw [List.mem_singleton.mp hq']
          refine ⟨⟨Ne.symm (nCr (e, oe) (.head _)), Ne.symm (nCr (it, oi) (.tail _ (.head _)))⟩, Ne.symm (nCr (ls, _) (.tail _ (.tail _ (.head _)))), Ne.symm (nCr (lt, _) (.tail _ (.tail _ (.tail _ (.head _))))), nCD⟩

end
-- W8O
section
open PySem PySem.W PyProof.Rows PySem.Calls PySem.Spec PySem.Builtin.Str
set_option maxRecDepth 100000
set_option maxHeartbeats 4000000
theorem cdTurn2 {w : World} {A : Around} {E : Value → Shared → Prop} {Q : Flow → Shared → Prop} {s : Shared} {h₀ : Heap} {L ls lt z D e it : Addr} {oe oi : Obj} {m : Str → Option Value} {vb wd : List Value} {ms : List (Addr × Obj)} {os2 : List (Option Str)} {cs : List Cnt} {i kb kd n1 n2 : Nat} {ti : Tok} {v : Value} {o : Option Str} {o3 o0 : Obj}
  {a1 a2 a3 a4 a5 a6 a8 a9 b1 b2 b3 b4 b5 b6 b7 b8 b9 b10 b11 b12 b13 b14 b15 b16 b17 b18 b19 b20 d4 d5 d6 d7 d8 d9 d10 d11 d12 d13 d14 c6 : Pos}
  {p : Program} {loose : List Str} {mean : ExcName → Option Value} {mg mb : Str → Option Value} (X : (KF w).In h₀) (Tp : Top p loose mean mg mb h₀)
  (hh : A.handled = none) (hu : A.units < cLine) (hd : A.depth ≤ 400) (hun : A.units ≤ 100)
  (e3 : h₀.get? 3 = some o3) (G3 : nsLook (Str.ofString "range") o3 = pure none ∧ nsLook (Str.ofString "enumerate") o3 = pure none ∧ nsLook (Str.ofString "_Mismatch") o3 = pure (some (.ref 206)))
  (e0 : h₀.get? 0 = some o0) (G0 : nsLook (Str.ofString "range") o0 = pure (some (.type "range")) ∧ nsLook (Str.ofString "enumerate") o0 = pure (some (.type "enumerate")))
  (F : Fr h₀ L s.heap m) (N : News h₀ L s.heap ([(e, oe), (it, oi)] ++ ((lt, seqObj "list" vb.toArray kb) :: (z, OBJ0) :: (D, seqObj "list" wd.toArray kd) :: ms)))
  (apE : ∀ q ∈ (lt, seqObj "list" vb.toArray kb) :: (z, OBJ0) :: (D, seqObj "list" wd.toArray kd) :: ms, q.1 ≠ e ∧ q.1 ≠ it)
  (ntD : lt ≠ D) (apM : ∀ q ∈ ms, q.1 ≠ lt ∧ q.1 ≠ D)
  (cm : CDm m ls lt z D n1 n2) (mi : m (Str.ofString "i") = some (.int (i : Int) ti)) (me : m (Str.ofString "elem") = some v)
  (hO2 : OptsAre z vb os2) (hn2 : os2.length = n2) (h2 : n2 < 64) (hi : i < n2) (ho : os2[i]? = some o) (hv : VO z v o) (hM : MisAre wd cs ms) (hcs : cs.length < 200)
  (hE : PassesOwn (model PG w) A (CDE L) E) (hl : (d11.endLine == d13.line) = true)
  (hq : ∀ f h' tk m' vb' wd' kb' kd' ms', (f = .next ∨ f = .cont) → Fr h₀ L h' m' → News h₀ L h' ([(e, oe), (it, oi)] ++ ((lt, seqObj "list" (vb' : List Value).toArray kb') :: (z, OBJ0) :: (D, seqObj "list" (wd' : List Value).toArray kd') :: ms')) →
    (∀ q ∈ ms', (q.1 ≠ e ∧ q.1 ≠ it) ∧ q.1 ≠ lt ∧ q.1 ≠ D) → CDm m' ls lt z D n1 n2 → OptsAre z vb' (cd2 (os2, cs) i).1 → MisAre wd' (cd2 (os2, cs) i).2 ms' → Q f { s with heap := h', toks := tk }) :
  wpAny (model PG w) A (execs [.If (.Compare (.Name (Str.ofString "elem") a1) [.Is] [.Name (Str.ofString "NULL") a2] a3) [.Continue a4] [] a5,
    .Assign [.Name (Str.ofString "cnt_t") a6] (.Constant (.int 0) 0 a8) a9,
    .For (.Name (Str.ofString "j") b1) (.Call (.Name (Str.ofString "range") b2) [.Name (Str.ofString "i") b3, .Name (Str.ofString "n") b4] [] b5)
      [.If (.Compare (.Subscript (.Name (Str.ofString "t") b6) (.Name (Str.ofString "j") b7) b8) [.Eq] [.Name (Str.ofString "elem") b9] b10)
        [.AugAssign (.Name (Str.ofString "cnt_t") b11) .Add (.Constant (.int 1) 0 b12) b13, .Assign [.Subscript (.Name (Str.ofString "t") b14) (.Name (Str.ofString "j") b15) b16] (.Name (Str.ofString "NULL") b17) b18] [] b19] [] b20,
    .Assign [.Name (Str.ofString "diff") d4] (.Call (.Name (Str.ofString "_Mismatch") d5) [.Constant (.int 0) 0 d6, .Name (Str.ofString "cnt_t") d7, .Name (Str.ofString "elem") d8] [] d9) d10,
    .Expr (.Call (.Attribute (.Name (Str.ofString "result") d12) (Str.ofString "append") d11) [.Name (Str.ofString "diff") d14] [] d13) c6] (CDE L)) Q E s := by
  obtain ⟨h, g, d, t, os⟩ := s
  dsimp only at *
  have ez := (N _ (.tail _ (.tail _ (.tail _ (.head _))))).1
  dsimp only at ez
  have nEt := apE _ (.head _)
  have nED := apE _ (.tail _ (.tail _ (.head _)))
  dsimp only at nEt nED
  refine eCons (wpAny_If (eTst ?_))
  refine wpAny_Name (wpAny_loadName_local (by rfl) (by rfl) F.ns me ?_)
  refine wpAny_Name (wpAny_loadName_local (by rfl) (by rfl) F.ns cm.z ?_)
  cases o with
  | none =>
    cases (show v = .ref z from hv)
    refine is_same ez (wpAny_truthy_bool ?_)
    rw [if_pos rfl]
    refine eCons (wpAny_Continue ?_)
    have ec : cd2 (os2, cs) i = (os2, cs) := by unfold cd2; dsimp only; rw [ho]
    refine hq .cont h _ m vb wd kb kd ms (.inr rfl) F N (fun q hq' => ⟨apE q (.tail _ (.tail _ (.tail _ hq'))), apM q hq'⟩) cm ?_ ?_
    · rw [ec]; exact hO2
    · rw [ec]; exact hM
  | some x =>
    obtain ⟨tx, rfl⟩ := hv
    refine is_diff (wpAny_truthy_bool ?_)
    rw [if_neg (by decide)]
    refine wpAny_execs_nil ?_
    refine eCons (eAsg (wpAny_Constant_int ?_))
    refine wpAny_storeName_local (by rfl) F.ns (fun h4 ns4 sb4 => ?_) (by rfl)
    have F4 := Fr_set F ns4 sb4
    have N4 := N.set sb4
    clear ns4 F
    obtain ⟨m4, F4, cm4, mi4, me4, ut, mt4⟩ : ∃ m, And5 (Fr h₀ L h4 m) (CDm m ls lt z D n1 n2) (m (Str.ofString "i") = some (.int (i : Int) ti)) (m (Str.ofString "elem") = some (.str x tx)) ((∃ u, m (Str.ofString "cnt_t") = some (.int ((0 : Nat) : Int) u))) :=
      ⟨_, F4, cm.of (fun y hy => by
        have y1 : y ≠ Str.ofString "cnt_t" := fun q => hy (.inr (.inr (.inr (.inl q))))
        show (if y = _ then _ else _) = _
        rw [if_neg y1]), mi, me, ⟨_, by rfl⟩⟩
    clear sb4 N
    obtain ⟨um, mm4⟩ := cm4.n
    refine eCons ?_
    have N5 : News h₀ L h4 ((lt, seqObj "list" vb.toArray kb) :: (z, OBJ0) :: ((e, oe) :: (it, oi) :: (D, seqObj "list" wd.toArray kd) :: ms)) := News_pick N4 [2, 3, 0, 1, 4] 5
    refine loopA (xs := Str.ofString "t") (xm := Str.ofString "n") (xc := Str.ofString "cnt_t") (i := i) (n := n2) (fun _ => by rfl) (fun _ => by rfl) (fun _ => by rfl) (by decide) (by decide) (by decide) (by decide) (by decide) (by decide) (by decide) (by decide) hh hu e3 G3.1 e0 G0.1 F4 N5 ?_ hO2 hn2 h2 (by exact Nat.le_of_lt ‹_›) mi4 mm4 me4 cm4.z cm4.t mt4 hE fun h8 tk8 m8 vb8 kb8 tc8 F8 N8 hO8 mc8 mo8 => ?_
    · exact fcons (Ne.symm nEt.1) (fcons (Ne.symm nEt.2) (fcons (Ne.symm ntD) fun q hq' => (apM q hq').1))
    have cm8 : CDm m8 ls lt z D n1 n2 := cm4.of fun y hy => mo8 y (fun q => hy (.inr (.inr (.inr (.inr (.inl q)))))) (fun q => hy (.inr (.inr (.inr (.inl q)))))
    have me8 := (mo8 (Str.ofString "elem") (by decide) (by decide)).trans me4
    clear F4 N4 N5 cm4 mi4 me4 mt4 mm4 mo8 m4
    rw [Nat.zero_add] at mc8
    have ec : cd2 (os2, cs) i = (upd x i n2 os2, cs ++ [(0, cntIn x i n2 os2, x)]) := by unfold cd2; dsimp only; rw [ho]; dsimp only; rw [hn2]
    rw [ec] at hq
    dsimp only at hq
    clear ec
    generalize cntIn x i n2 os2 = cb at *
    have hwl := hM.len
    have N9 : News h₀ L h8 ((D, seqObj "list" wd.toArray kd) :: ((e, oe) :: (it, oi) :: (lt, seqObj "list" vb8.toArray kb8) :: (z, OBJ0) :: ms)) := News_pick N8 [4, 2, 3, 0, 1] 5
    have nzD : z ≠ D := fun q => by
      have a := (N9 _ (.head _)).1
      have b := (N9 _ (.tail _ (.tail _ (.tail _ (.tail _ (.head _)))))).1
      dsimp only at a b
      rw [q, a] at b; exact absurd (congrArg Obj.cls (Option.some.inj b)) (by simp)
    refine mkDiff (s := ⟨h8, g, d, _, os⟩) (a := 0) (b := cb) X Tp hh hd hun e3 G3.2.2 F8 N9 ?_ (by rw [hwl]; exact ar3 ‹_› (by decide)) me8 cm8.r hl (by rfl) (by rfl) ?_ ?_ fun h9 tk9 m9 C dd k kd9 ta tb F9 N10 nCD nCr mo9 => ?_
    · exact fcons (Ne.symm nED.1) (fcons (Ne.symm nED.2) (fcons ntD (fcons nzD fun q hq' => (apM q hq').2)))
    · intro Q' h'
      exact wpAny_Constant_int (h' _ _)
    · intro tk Q' h'
      exact wpAny_Name (wpAny_loadName_local (by rfl) (by rfl) F8.ns mc8 (h' _ _))
    refine hq .next h9 tk9 m9 vb8 (wd ++ [.ref C]) kb8 kd9 (ms ++ [(C, ⟨.ref 206, dd, .seq #[.int ((0 : Nat) : Int) ta, .int (cb : Int) tb, .str x tx] k, #[]⟩)]) (.inl rfl) F9 ?_ ?_ (cm8.of fun y hy => mo9 y fun q => hy (.inr (.inr (.inr (.inr (.inr (.inr q))))))) hO8 (.snoc C dd 0 cb x ta tb tx k hM)
    · exact News_join (News_some N10 [2, 3]) (News_join (l := [_, _, _]) (News_some N10 [4, 5, 0]) (News_join (News_drop N10 6) (News_some N10 [1])))
    · intro q hq'
      rcases List.mem_append.mp hq' with hq' | hq'
      · exact ⟨apE q (.tail _ (.tail _ (.tail _ hq'))), apM q hq'⟩
      · rw [List.mem_singleton.mp hq']
        exact ⟨⟨Ne.symm (nCr (e, oe) (.head _)), Ne.symm (nCr (it, oi) (.tail _ (.head _)))⟩, Ne.symm (nCr (lt, _) (.tail _ (.tail _ (.head _)))), nCD⟩

end
-- W8P
section
open PySem PySem.W PyProof.Rows PySem.Calls PySem.Spec PySem.Builtin.Str
set_option maxRecDepth 100000
set_option maxHeartbeats 4000000
theorem enumFor {w : World} {A : Around} {E : Value → Shared → Prop} {Q : Flow → Shared → Prop} {s : Shared} {h₀ : Heap} {L l : Addr} {m : Str → Option Value} {vs : List Value} {kk n : Nat} {news : List (Addr × Obj)} {nm : Str} {body : List Stmt} {p1 p2 p3 p4 p5 p6 p7 : Pos} {x1 : Nat} {o3 o0 : Obj}
  (hh : A.handled = none) (e3 : h₀.get? 3 = some o3) (l3 : nsLook (Str.ofString "enumerate") o3 = pure none) (e0 : h₀.get? 0 = some o0) (l0 : nsLook (Str.ofString "enumerate") o0 = pure (some (.type "enumerate")))
  (F : Fr h₀ L s.heap m) (N : News h₀ L s.heap news) (hm : (l, seqObj "list" vs.toArray kk) ∈ news) (hk : (CDE L).kindOf nm = some .local) (hnd : (nm == ("__debug__" : Str)) = false) (mx : m nm = some (.ref l))
  (hst : starEach [.Name nm p5] (CDE L) = [(false, eval (.Name nm p5) (CDE L))])
  (hE : PassesOwn (model PG w) A (CDE L) E)
  (J : Nat → (Str → Option Value) → List (Addr × Obj) → Prop) (h0 : J 0 m news)
  (hl : ∀ i m news, J i m news → Ex2 fun vs kk => (l, seqObj "list" (vs : List Value).toArray kk) ∈ news ∧ vs.length = n)
  (step : ∀ i v tk m₁ news₁ h₁ tk₁ e it oe oi (Q' : Flow → Shared → Prop), i < n → J i m₁ news₁ → (∀ vs kk, (l, seqObj "list" (vs : List Value).toArray kk) ∈ news₁ → vs[i]? = some v) → (∀ p ∈ news₁, p.1 ≠ e ∧ p.1 ≠ it) →
    Fr h₀ L h₁ (fun y => if y = Str.ofString "elem" then some v else if y = Str.ofString "i" then some (.int i tk) else m₁ y) → News h₀ L h₁ ([(e, oe), (it, oi)] ++ news₁) →
    (∀ f h' tk' m' news', (f = .next ∨ f = .cont) → Fr h₀ L h' m' → News h₀ L h' ([(e, oe), (it, oi)] ++ news') → (∀ p ∈ news', p.1 ≠ e ∧ p.1 ≠ it) → J (i + 1) m' news' → Q' f { s with heap := h', toks := tk' }) →
    wpAny (model PG w) A (execs body (CDE L)) Q' E { s with heap := h₁, toks := tk₁ })
  (hq : ∀ h' tk m' news', Fr h₀ L h' m' → News h₀ L h' news' → J n m' news' → Q .next { s with heap := h', toks := tk }) :
  wpAny (model PG w) A (exec (.For (.Tuple [.Name (Str.ofString "i") p1, .Name (Str.ofString "elem") p2] x1 p3) (.Call (.Name (Str.ofString "enumerate") p4) [.Name nm p5] [] p6) body [] p7) (CDE L)) Q E s := by
  obtain ⟨h, g, d, t, osS⟩ := s
  dsimp only at *
  refine wpAny_For ?_ (by intro x; rfl)
  refine cN1 (wpAny_Name (ldB (by rfl) (by rfl) (by rfl) (by rfl) (F.keep _ _ e3) l3 (F.keep _ _ e0) l0 ?_)) hst
  refine cwt1 (wpAny_Name (wpAny_loadName_local (by rfl) hk F.ns mx ?_) hnd)
  show wpAny _ _ (call (.type "enumerate") [.ref l]) _ _ _
  have eL := (N _ hm).1
  refine call_enumerate_list (items := vs.toArray) ⟨_, eL, rfl, _, rfl⟩ fun h4 he hit hsz k4 => ?_
  have nE : h.get? (h.objs.size + 1) = none := Heap.get?_none_of_le (Nat.le_succ _)
  have nIt : h.get? h.objs.size = none := Heap.get?_none_of_le (Nat.le_refl _)
  have hei : h.objs.size + 1 ≠ h.objs.size := Nat.succ_ne_self _
  dsimp only at he hit ⊢
  generalize h.objs.size + 1 = e at he nE hei ⊢
  generalize h.objs.size = it at he hit nIt hei ⊢
  refine wpAny_pyIter_enum he ?_
  have hLs : ∃ o, h.get? L = some o := by obtain ⟨o, _, _, a, _⟩ := F.ns; exact ⟨o, a⟩
  obtain ⟨oLL, hLs⟩ := hLs
  have N4 : News h₀ L h4 news := fun p hp => ⟨k4 _ _ (N p hp).1, (N p hp).2⟩
  have nw4 : ∀ p ∈ news, p.1 ≠ e ∧ p.1 ≠ it := fun p hp => ⟨fun q => (by rw [← q, (N p hp).1] at nE; cases nE), fun q => (by rw [← q, (N p hp).1] at nIt; cases nIt)⟩
  refine codeAny_enum (R := fun r s' => match r with | .ok f => Q f s' | .error e => cameBackBy (model PG w) A (CDE L) E e s') (n := n) (l := l) (old := .none) hh (by rfl) (by rfl) (by rfl) hei (fun q => by rw [q] at nE; exact absurd (nE.symm.trans hLs) (by simp)) (fun q => by rw [q] at nIt; exact absurd (nIt.symm.trans hLs) (by simp)) (none_of_sub F.keep nE) (none_of_sub F.keep nIt) he hit (Fr_up F k4) N4 nw4 J h0 hl ?_ ?_
  · rintro k v tk₁ m₁ news₁ s₁ oe oi hk hJ hv hnw ⟨hh', tk', rfl⟩ F₁ N₁
    dsimp only at *
    refine wpAny_passesOwn hE ?_
    exact step k v tk₁ m₁ news₁ hh' tk' e it oe oi _ hk hJ hv hnw F₁ N₁ fun f h' tk'' m' news' hf F' N' hnw' hJ' => ⟨hf, h', tk'', m', news', rfl, F', N', hnw', hJ'⟩
  · exact fun h' tk' m' news' F' N' hJ => hq h' tk' m' news' F' N' hJ

end
-- AN
section
open PySem PySem.W PyProof.Rows PySem.Calls PySem.Spec PySem.Builtin.Str
theorem News_keep {h₀ h h' : Heap} {L : Addr} {l : List (Addr × Obj)} (N : News h₀ L h l) (k : Ext h h') : News h₀ L h' l := fun p hp => ⟨k _ _ (N p hp).1, (N p hp).2⟩
theorem News_ne {h₀ : Heap} {L a : Addr} {m : Str → Option Value} {h1 : Heap} (F : Fr h₀ L h1 m) (n : h1.get? a = none) : a ≠ L := by
  intro q
  obtain ⟨o, _, _, u, _⟩ := F.ns
  rw [q, show h1.get? L = some _ from u] at n
  cases n
theorem News_cons {h₀ h : Heap} {L a : Addr} {m : Str → Option Value} {o : Obj} {l : List (Addr × Obj)} {h1 : Heap} (F : Fr h₀ L h1 m) (n : h1.get? a = none) (e : h.get? a = some o) (N : News h₀ L h l) : News h₀ L h ((a, o) :: l) := by
  intro p hp
  rcases List.mem_cons.mp hp with rfl | hp
  · exact ⟨e, News_ne F n, none_of_sub F.keep n⟩
  · exact N p hp
theorem fresh_ne {h : Heap} {a b : Addr} {o : Obj} (n : h.get? a = none) (e : h.get? b = some o) : b ≠ a := fun q => by rw [q, n] at e; cases e
section
variable {prog : Program} {w : World} {A : Around} {E : Value → Shared → Prop} {s : Shared} {env : Env}
theorem newH {h : Heap} {o : Obj} (hf : o.isFreed = false) : (Ext h (h.push o)) ∧ h.get? h.objs.size = none ∧ (h.push o).get? h.objs.size = some o := ⟨fun _ _ e => Heap.get?_push_of_some _ e, Heap.get?_none_of_le (Nat.le_refl _), Heap.get?_push_size _ hf⟩
theorem cwt0 {id : String} {pos : Pos} {Q : Value → Shared → Prop} (h : wpAny (model prog w) A (call (.type id) []) Q E s) : wpAny (model prog w) A (callWith pos (.type id) [] [] []) Q E s := PySem.callWith_type rfl (evalArgs_nil3 h)
theorem lst0 {pos : Pos} {Q : Value → Shared → Prop} (hs : autoParam (starEach [] env = []) aR) (h : ∀ a h', (Ext s.heap h') → s.heap.get? a = none → h'.get? a = some (seqObj "list" ([] : List Value).toArray 0) → Q (.ref a) { s with heap := h' }) : wpAny (model prog w) A (eval (.List [] pos) env) Q E s := by
  refine wpAny_List_spliced ?_
  rw [hs]
  refine spliced_nil ⟨Nat.zero_le _, ?_⟩
  obtain ⟨a, b, c⟩ := newH (h := s.heap) (o := { cls := .type "list", data := .seq ([] : List Value).toArray }) rfl
  exact h _ _ a b c
theorem tup2 {e1 e2 : Expr} {k : Nat} {pos : Pos} {Q : Value → Shared → Prop} (hs : starEach [e1, e2] env = [(false, eval e1 env), (false, eval e2 env)])
  (h : wpAny (model prog w) A (eval e1 env) (fun v1 s1 => wpAny (model prog w) A (eval e2 env) (fun v2 s2 => ∀ a h', (Ext s2.heap h') → s2.heap.get? a = none → h'.IsTuple a #[v1, v2] → Q (.ref a) { s2 with heap := h' }) E s1) E s) :
  wpAny (model prog w) A (eval (.Tuple [e1, e2] k pos) env) Q E s := by
  refine wpAny_Tuple_spliced ?_
  rw [hs]
  refine sp2 (wpAny_mono h (fun v1 s1 h1 => wpAny_mono h1 (fun v2 s2 h2 => ⟨by simp [sizeLine_eq], ?_⟩) fun _ _ e => e) fun _ _ e => e)
  obtain ⟨a, b, c⟩ := newH (h := s2.heap) (o := { cls := .type "tuple", data := .seq [v1, v2].toArray }) rfl
  exact h2 _ _ a b ⟨_, c, rfl, _, rfl⟩
theorem asgT {h₀ : Heap} {x y : Str} {e1 e2 : Expr} {k k' : Nat} {p1 p2 p3 p4 p5 : Pos} {Q : Flow → Shared → Prop} (hh : A.handled = none)
  (hx : env.kindOf x = some .local) (hy : env.kindOf y = some .local) (hc : (env.scope.kind == .class || (env.scope.kind == .module && env.locals != env.globals)) = false)
  (hst : starEach [e1, e2] env = [(false, eval e1 env), (false, eval e2 env)]) (hw : swappedStores [.Tuple [.Name x p1, .Name y p2] k p3] (.Tuple [e1, e2] k' p4) env = pure (some [x, y]))
  (h : wpAny (model prog w) A (eval e1 env) (fun v1 s1 => wpAny (model prog w) A (eval e2 env) (fun v2 s2 => Ex2 fun m news => And3 (Fr h₀ env.locals s2.heap m) (News h₀ env.locals s2.heap news) (∀ h' tk, Fr h₀ env.locals h' (fun z => if z = x then some v1 else if z = y then some v2 else m z) → News h₀ env.locals h' news → Q .next { s2 with heap := h', toks := tk })) E s1) E s) :
  wpAny (model prog w) A (exec (.Assign [.Tuple [.Name x p1, .Name y p2] k p3] (.Tuple [e1, e2] k' p4) p5) env) Q E s := by
  refine Assign_Tuple_swapped (names := [x, y]) (tup2 hst (wpAny_mono h (fun v1 s1 h1 => wpAny_mono h1 (fun v2 s2 h2 a h3 k3 n3 t3 => ?_) fun _ _ e => e) fun _ _ e => e)) (by rfl) hw
  obtain ⟨m, news, F, N, hq⟩ := h2
  have F3 := Fr_up F k3
  have N3 : News h₀ env.locals h3 news := fun p hp => ⟨k3 _ _ (N p hp).1, (N p hp).2⟩
  refine unpackItemsN_ F3 N3 t3 hh (by rfl) fun h5 F5 N5 => ?_
  refine assignInOrder_cons (bindName_ (wpAny_storeName_local hy F5.ns (fun h6 ns6 sb6 => ?_) hc))
  refine assignInOrder_cons (bindName_ (wpAny_storeName_local hx (Fr_set F5 ns6 sb6).ns (fun h7 ns7 sb7 => ?_) hc))
  exact assignInOrder_nil (hq _ _ (Fr_set (Fr_set F5 ns6 sb6) ns7 sb7) ((N5.set sb6).set sb7))
end
theorem ws2 {h₀ h' : Heap} {L : Addr} {s : Shared} {J : Nat → (Str → Option Value) → List (Addr × Obj) → Prop} {Q : Flow → Shared → Prop} {n n' : Nat} {tk : Nat} {m₂ : Str → Option Value} {news₂ : List (Addr × Obj)} (F : Fr h₀ L h' m₂) (N : News h₀ L h' news₂) (l : n' < n) (hJ : J n' m₂ news₂) : WhileStep2 h₀ L s J Q n .next { s with heap := h', toks := tk } :=
  ⟨h', tk, m₂, news₂, n', rfl, F, N, l, hJ⟩

end
-- W8Q
section
open PySem PySem.W PyProof.Rows PySem.Calls PySem.Spec PySem.Builtin.Str
set_option maxRecDepth 100000
set_option maxHeartbeats 8000000
theorem cdPre {w : World} {A : Around} {Q : Flow → Shared → Prop} {E : Value → Shared → Prop} {s : Shared} {h₀ : Heap} {L l1 l2 : Addr} {v1 v2 : List Value} {n1 n2 : Nat} {o3 o0 : Obj} {m : Str → Option Value} {rest : List Stmt}
  {a1 a2 a3 a4 a5 a6 a7 a8 a9 a10 a11 b1 b2 b3 b4 b5 b6 b7 b8 b9 b10 b11 c1 c2 c3 c4 c5 c6 c7 : Pos} {x1 x2 x3 x4 : Nat}
  (hh : A.handled = none)
  (w1 : swappedStores [.Tuple [.Name (Str.ofString "s") a1, .Name (Str.ofString "t") a2] x1 a3] (.Tuple [.Call (.Name (Str.ofString "list") a4) [.Name (Str.ofString "actual") a5] [] a6, .Call (.Name (Str.ofString "list") a7) [.Name (Str.ofString "expected") a8] [] a9] x2 a10) (CDE L) = pure (some [Str.ofString "s", Str.ofString "t"]))
  (w2 : swappedStores [.Tuple [.Name (Str.ofString "m") b1, .Name (Str.ofString "n") b2] x3 b3] (.Tuple [.Call (.Name (Str.ofString "len") b4) [.Name (Str.ofString "s") b5] [] b6, .Call (.Name (Str.ofString "len") b7) [.Name (Str.ofString "t") b8] [] b9] x4 b10) (CDE L) = pure (some [Str.ofString "m", Str.ofString "n"]))
  (e3 : h₀.get? 3 = some o3) (G3 : nsLook (Str.ofString "list") o3 = pure none ∧ nsLook (Str.ofString "len") o3 = pure none ∧ nsLook (Str.ofString "object") o3 = pure none)
  (e0 : h₀.get? 0 = some o0) (G0 : nsLook (Str.ofString "list") o0 = pure (some (.type "list")) ∧ nsLook (Str.ofString "len") o0 = pure (some (.builtin "len")) ∧ nsLook (Str.ofString "object") o0 = pure (some (.type "object")))
  (F : Fr h₀ L s.heap m) (ma : m (Str.ofString "actual") = some (.ref l1)) (mb : m (Str.ofString "expected") = some (.ref l2))
  (e1 : h₀.get? l1 = some (seqObj "list" v1.toArray n1)) (e2 : h₀.get? l2 = some (seqObj "list" v2.toArray n2)) (hn1 : v1.length < 64) (hn2 : v2.length < 64)
  (hq : ∀ h' tk m' ls lt z D k1 k2, Fr h₀ L h' m' → News h₀ L h' [(ls, seqObj "list" v1.toArray k1), (lt, seqObj "list" v2.toArray k2), (z, OBJ0), (D, seqObj "list" ([] : List Value).toArray 0)] → ls ≠ lt → ls ≠ D → lt ≠ D → CDm m' ls lt z D v1.length v2.length →
    wpAny (model PG w) A (execs rest (CDE L)) Q E { s with heap := h', toks := tk }) :
  wpAny (model PG w) A (execs (.Assign [.Tuple [.Name (Str.ofString "s") a1, .Name (Str.ofString "t") a2] x1 a3] (.Tuple [.Call (.Name (Str.ofString "list") a4) [.Name (Str.ofString "actual") a5] [] a6, .Call (.Name (Str.ofString "list") a7) [.Name (Str.ofString "expected") a8] [] a9] x2 a10) a11 ::
     .Assign [.Tuple [.Name (Str.ofString "m") b1, .Name (Str.ofString "n") b2] x3 b3] (.Tuple [.Call (.Name (Str.ofString "len") b4) [.Name (Str.ofString "s") b5] [] b6, .Call (.Name (Str.ofString "len") b7) [.Name (Str.ofString "t") b8] [] b9] x4 b10) b11 ::
     .Assign [.Name (Str.ofString "NULL") c1] (.Call (.Name (Str.ofString "object") c2) [] [] c3) c4 ::
     .Assign [.Name (Str.ofString "result") c5] (.List [] c6) c7 :: rest) (CDE L)) Q E s := by
  obtain ⟨h, g, d, t, os⟩ := s
  dsimp only at *
  refine eCons (asgT (h₀ := h₀) hh (by rfl) (by rfl) (by rfl) (by rfl) w1 ?_)
  refine cN1 (wpAny_Name (ldB (by rfl) (by rfl) (by rfl) (by rfl) (F.keep _ _ e3) G3.1 (F.keep _ _ e0) G0.1 ?_)) (by rfl)
  refine cwt1 (wpAny_Name (wpAny_loadName_local (by rfl) (by rfl) F.ns ma ?_))
  show wpAny _ _ (call (.type "list") [.ref l1]) _ _ _
  refine call_list_seq l1 (T := "list") (.inl rfl) (F.keep _ _ e1) rfl rfl (fun h2 kl1 k2 eS => ?_) (by rw [sizeLine_eq, List.size_toArray]; exact ar3 ‹_› (by decide))
  dsimp only at k2 eS ⊢
  have nS : h.get? h.objs.size = none := Heap.get?_none_of_le (Nat.le_refl _)
  generalize h.objs.size = ls at eS nS ⊢
  have F2 := Fr_up F k2
  have N2 : News h₀ L h2 [(ls, seqObj "list" v1.toArray kl1)] := News_cons F nS eS fun p hp => by cases hp
  refine cN1 (wpAny_Name (ldB (by rfl) (by rfl) (by rfl) (by rfl) (F2.keep _ _ e3) G3.1 (F2.keep _ _ e0) G0.1 ?_)) (by rfl)
  refine cwt1 (wpAny_Name (wpAny_loadName_local (by rfl) (by rfl) F2.ns mb ?_))
  show wpAny _ _ (call (.type "list") [.ref l2]) _ _ _
  refine call_list_seq l2 (T := "list") (.inl rfl) (F2.keep _ _ e2) rfl rfl (fun h3 kl2 k3 eT => ?_) (by rw [sizeLine_eq, List.size_toArray]; exact ar3 ‹_› (by decide))
  dsimp only at k3 eT ⊢
  have nT : h2.get? h2.objs.size = none := Heap.get?_none_of_le (Nat.le_refl _)
  generalize h2.objs.size = lt at eT nT ⊢
  have N3 := News_cons F2 nT eT (News_keep N2 k3)
  have nst : ls ≠ lt := fresh_ne nT eS
  refine ⟨m, _, Fr_up F2 k3, N3, fun h4 tk4 F4 N4 => ?_⟩
  clear F F2 N2 N3 eS eT nS nT k2 k3
  obtain ⟨m4, F4, ms, mt⟩ : ∃ m, And3 (Fr h₀ L h4 m) (m (Str.ofString "s") = some (.ref ls)) (m (Str.ofString "t") = some (.ref lt)) := ⟨_, F4, by rfl, by rfl⟩
  refine eCons (asgT (h₀ := h₀) hh (by rfl) (by rfl) (by rfl) (by rfl) w2 ?_)
  refine cN1 (wpAny_Name (ldB (by rfl) (by rfl) (by rfl) (by rfl) (F4.keep _ _ e3) G3.2.1 (F4.keep _ _ e0) G0.2.1 ?_)) (by rfl)
  refine cwb1 (wpAny_Name (wpAny_loadName_local (by rfl) (by rfl) F4.ns ms ?_))
  show wpAny _ _ (call (.builtin "len") [.ref ls]) _ _ _
  refine len_list (items := v1.toArray) ⟨_, (N4 _ (.tail _ (.head _))).1, rfl, _, rfl⟩ (by rw [List.size_toArray]; exact ar9 ‹_› (by decide)) ?_
  rw [List.size_toArray]
  refine cN1 (wpAny_Name (ldB (by rfl) (by rfl) (by rfl) (by rfl) (F4.keep _ _ e3) G3.2.1 (F4.keep _ _ e0) G0.2.1 ?_)) (by rfl)
  refine cwb1 (wpAny_Name (wpAny_loadName_local (by rfl) (by rfl) F4.ns mt ?_))
  show wpAny _ _ (call (.builtin "len") [.ref lt]) _ _ _
  refine len_list (items := v2.toArray) ⟨_, (N4 _ (.head _)).1, rfl, _, rfl⟩ (by rw [List.size_toArray]; exact ar9 ‹_› (by decide)) ?_
  rw [List.size_toArray]
  refine ⟨m4, _, F4, N4, fun h5 tk5 F5 N5 => ?_⟩
  clear F4 N4
  obtain ⟨m5, F5, ms, mt, mm, mn⟩ : ∃ m, And5 (Fr h₀ L h5 m) (m (Str.ofString "s") = some (.ref ls)) (m (Str.ofString "t") = some (.ref lt)) ((∃ u, m (Str.ofString "m") = some (.int v1.length u))) ((∃ u, m (Str.ofString "n") = some (.int v2.length u))) := ⟨_, F5, by exact ms, by exact mt, ⟨_, by rfl⟩, ⟨_, by rfl⟩⟩
  refine eCons (eAsg ?_)
  refine cN0 (wpAny_Name (ldB (by rfl) (by rfl) (by rfl) (by rfl) (F5.keep _ _ e3) G3.2.2 (F5.keep _ _ e0) G0.2.2 ?_))
  refine cwt0 ?_
  refine newobj fun h6 z k6 ez nz => ?_
  dsimp only at k6 nz ⊢
  have F6 := Fr_up F5 k6
  have N6 := News_cons F5 nz ez (News_keep N5 k6)
  refine wpAny_storeName_local (by rfl) F6.ns (fun h7 ns7 sb7 => ?_) (by rfl)
  have F7 := Fr_set F6 ns7 sb7
  have N7 := N6.set sb7
  clear F5 F6 N5 N6 ns7 sb7
  refine eCons (eAsg (lst0 (by rfl) fun D h8 k8 nD eD => ?_))
  dsimp only at k8 nD ⊢
  have F8 := Fr_up F7 k8
  have N8 := News_cons F7 nD eD (News_keep N7 k8)
  refine wpAny_storeName_local (by rfl) F8.ns (fun h9 ns9 sb9 => ?_) (by rfl)
  refine hq h9 _ _ ls lt z D kl1 kl2 (Fr_set F8 ns9 sb9) (News_some (N8.set sb9) [3, 2, 1, 0]) nst (fresh_ne nD (N7 _ (.tail _ (.tail _ (.head _)))).1) (fresh_ne nD (N7 _ (.tail _ (.head _))).1) ⟨ms, mt, mm, mn, by rfl, by rfl⟩

end
-- W8R
section
open PySem PySem.W PyProof.Rows PySem.Calls PySem.Spec PySem.Builtin.Str
set_option maxRecDepth 100000
set_option maxHeartbeats 8000000
noncomputable def CJ1 (ls lt z D : Addr) (s1 s2 : List Str) (k : Nat) (m : Str → Option Value) (news : List (Addr × Obj)) : Prop :=
  Ex7 fun va vb wd ka kb kd ms => And6 (news = (ls, seqObj "list" (va : List Value).toArray ka) :: (lt, seqObj "list" (vb : List Value).toArray kb) :: (z, OBJ0) :: (D, seqObj "list" (wd : List Value).toArray kd) :: ms) (OptsAre z va (cdA s1 s2 k).1) (OptsAre z vb (cdA s1 s2 k).2.1) (MisAre wd (cdA s1 s2 k).2.2 ms) (CDm m ls lt z D s1.length s2.length) (∀ q ∈ ms, q.1 ≠ ls ∧ q.1 ≠ lt ∧ q.1 ≠ D)
noncomputable def CJ2 (ls lt z D : Addr) (s1 s2 : List Str) (k : Nat) (m : Str → Option Value) (news : List (Addr × Obj)) : Prop :=
  Ex5 fun vb wd kb kd ms => And5 (news = (lt, seqObj "list" (vb : List Value).toArray kb) :: (z, OBJ0) :: (D, seqObj "list" (wd : List Value).toArray kd) :: ms) (OptsAre z vb (cdB s1 s2 k).1) (MisAre wd (cdB s1 s2 k).2 ms) (CDm m ls lt z D s1.length s2.length) (∀ q ∈ ms, q.1 ≠ lt ∧ q.1 ≠ D)
theorem cdAt {z : Addr} {va : List Value} {os : List (Option Str)} (h : OptsAre z va os) {i : Nat} {v : Value} (hv : va[i]? = some v) : ∃ o, os[i]? = some o ∧ VO z v o := by
  have : i < os.length := by rw [← h.len]; exact (List.getElem?_eq_some_iff.mp hv).1
  exact ⟨os[i], List.getElem?_eq_getElem this, h.at_ _ _ _ hv (List.getElem?_eq_getElem this)⟩
theorem count_diff {w : World} {A : Around} {Q : Value → Shared → Prop} {E : Value → Shared → Prop} {s : Shared} {l1 l2 : Addr} {v1 v2 : List Value} {s1 s2 : List Str} {n1 n2 : Nat} {p : Program} {loose : List Str} {mean : ExcName → Option Value} {mg mb : Str → Option Value}
  (X : (KF w).In s.heap) (Tp : Top p loose mean mg mb s.heap) (hh : A.handled = none) (hroom : A.depth ≤ 390) (hun : A.units ≤ 90)
  (e1 : s.heap.get? l1 = some (seqObj "list" v1.toArray n1)) (e2 : s.heap.get? l2 = some (seqObj "list" v2.toArray n2)) (hS1 : StrsAre v1 s1) (hS2 : StrsAre v2 s2) (hn1 : s1.length < 64) (hn2 : s2.length < 64)
  (hq : ∀ D h' tk ws ms k, (Ext s.heap h') → h'.get? D = some (seqObj "list" (ws : List Value).toArray k) → MisAre ws (cdOf s1 s2) ms → (∀ p ∈ ms, h'.get? p.1 = some p.2) → Q (.ref D) { s with heap := h', toks := tk }) :
   wpAny (model PG w) A (call (.ref 216) [.ref l1, .ref l2]) Q E s := by
  obtain ⟨h, g, d, t, os⟩ := s
  dsimp only at *
  obtain ⟨o3, e3, P3, G3⟩ : ∃ o3, And3 (h.get? 3 = some o3) ((nsLook (Str.ofString "list") o3 = pure none ∧ nsLook (Str.ofString "len") o3 = pure none ∧ nsLook (Str.ofString "object") o3 = pure none)) ((nsLook (Str.ofString "range") o3 = pure none ∧ nsLook (Str.ofString "enumerate") o3 = pure none ∧ nsLook (Str.ofString "_Mismatch") o3 = pure (some (.ref 206)))) := ⟨_, X 3 _ rfl, ⟨by kernel_rfl, by kernel_rfl, by kernel_rfl⟩, ⟨by kernel_rfl, by kernel_rfl, by kernel_rfl⟩⟩
  obtain ⟨o0, e0, P0, G0⟩ : ∃ o0, And3 (h.get? 0 = some o0) ((nsLook (Str.ofString "list") o0 = pure (some (.type "list")) ∧ nsLook (Str.ofString "len") o0 = pure (some (.builtin "len")) ∧ nsLook (Str.ofString "object") o0 = pure (some (.type "object")))) ((nsLook (Str.ofString "range") o0 = pure (some (.type "range")) ∧ nsLook (Str.ofString "enumerate") o0 = pure (some (.type "enumerate")))) := ⟨_, X 0 _ rfl, ⟨by kernel_rfl, by kernel_rfl, by kernel_rfl⟩, ⟨by kernel_rfl, by kernel_rfl⟩⟩
  refine enter (binds := [(Str.ofString "actual", .ref l1), (Str.ofString "expected", .ref l2)]) X Tp (by rfl) (by rfl) (by show A.depth < 1000; exact ar4 ‹_› (by decide)) (BindsTo.of_eq rfl) (locs rfl) (by decide) rfl rfl rfl ?_
  intro h₁ F
  generalize h.objs.size = L at F ⊢
  generalize hE : (fun (e : Value) (s' : Shared) => wpAny (model PG w) (A.deeper (envOf _ _ L 216 _)) (leaving (envOf _ _ L 216 _) e) (fun _ s'' => E e s'') (fun e' s'' => E e' s'') s') = EE
  have hE' : PassesOwn (model PG w) (A.deeper (CDE L)) (CDE L) EE := by rw [← hE]; exact PassesOwn.leaving
  show wpAny _ (A.deeper (CDE L)) (execs _ (CDE L)) _ _ _
  have hh' : (A.deeper (CDE L)).handled = none := hh
  have hu' : (A.deeper (CDE L)).units ≤ 100 := by show A.units + 3 ≤ 100; exact ar5 ‹_› (by decide)
  have hd' : (A.deeper (CDE L)).depth ≤ 400 := by show A.depth + 1 ≤ 400; exact ar5 ‹_› (by decide)
  generalize A.deeper (CDE L) = A' at hE' hh' hu' hd' ⊢
  have hu9 : A'.units < cLine := by show A'.units < 9900; exact ar4 ‹_› (by decide)
  have hl1 : v1.length = s1.length := hS1.length
  have hl2 : v2.length = s2.length := hS2.length
  refine eCons (eXpr (Calls.Constant_str ?_))
  refine cdPre hh' (by rfl) (by rfl) e3 P3 e0 P0 F (by rfl) (by rfl) e1 e2 (by exact ar1 (ar10 ‹_› ‹_›) (by decide)) (by exact ar1 (ar10 ‹_› ‹_›) (by decide)) fun h2 tk2 m2 ls lt z D k1 k2 F2 N2 nst nsD ntD cm2 => ?_
  rw [hl1, hl2] at cm2
  refine eCons (enumFor (n := s1.length) hh' e3 G3.2.1 e0 G0.2 F2 N2 (l := ls) (.head _) (by rfl) (by rfl) cm2.s (by rfl) hE' (CJ1 ls lt z D s1 s2) ⟨v1, v2, [], k1, k2, 0, [], rfl, OptsAre.ofStrs hS1, OptsAre.ofStrs hS2, .nil, cm2, fun q hq' => by cases hq'⟩ ?_ ?_ ?_)
  · rintro i m news ⟨va, vb, wd, ka, kb, kd, ms, rfl, hO, -⟩
    exact ⟨va, ka, .head _, by rw [hO.len, (cdA_len s1 s2 i).1]⟩
  · rintro i v tk m₁ news₁ h₁ tk₁ e it oe oi Q' hi ⟨va, vb, wd, ka, kb, kd, ms, rfl, hO1, hO2, hM, cm, apM⟩ hv apE F₁ N₁ hq'
    obtain ⟨o, ho, hvo⟩ := cdAt hO1 (hv va ka (.head _))
    have hL := cdA_len s1 s2 i
    have ce := cdA_succ s1 s2 i
    refine cdTurn1 (os1 := (cdA s1 s2 i).1) (os2 := (cdA s1 s2 i).2.1) (cs := (cdA s1 s2 i).2.2) (i := i) (o := o) X Tp hh' hu9 hd' hu' e3 G3 e0 G0 F₁ N₁ apE nst nsD ntD apM (cm.of fun y hy => ?_) (by rfl) (by rfl) hO1 hO2 hL.1 hL.2.1 hn1 hn2 hi ho hvo hM (by exact lc (lR3 _ _ _) (.h (lS z0) (lN 64) (.h (lS z1) z0 (.h z2 z1 (.g (lS z2) (lN 200))))) lT hn1 hi hL.2.2) hE' (by rfl) ?_
    · have y1 : y ≠ Str.ofString "elem" := fun q => hy (.inr (.inl q))
      have y2 : y ≠ Str.ofString "i" := fun q => hy (.inl q)
      show (if y = _ then _ else if y = _ then _ else _) = _
      rw [if_neg y1, if_neg y2]
    · intro f h' tk' m' va' vb' wd' ka' kb' kd' ms' hf F' N' ap' cm' hO1' hO2' hM'
      refine hq' f h' tk' m' _ hf F' N' ?_ ⟨va', vb', wd', ka', kb', kd', ms', rfl, by rw [ce]; exact hO1', by rw [ce]; exact hO2', by rw [ce]; exact hM', cm', fun q hq => (ap' q hq).2⟩
      intro q hq
      simp only [List.mem_cons] at hq
      rcases hq with rfl | rfl | rfl | rfl | hq
      · exact apE (ls, seqObj "list" va.toArray ka) (.head _)
      · exact apE (lt, seqObj "list" vb.toArray kb) (.tail _ (.head _))
      · exact apE (z, _) (.tail _ (.tail _ (.head _)))
      · exact apE (D, seqObj "list" wd.toArray kd) (.tail _ (.tail _ (.tail _ (.head _))))
      · exact (ap' q hq).1
  · rintro h3 tk3 m3 news3 F3 N3 ⟨va, vb, wd, ka, kb, kd, ms, rfl, hO1, hO2, hM, cm, apM⟩
    have N3' : News h L h3 ((lt, seqObj "list" vb.toArray kb) :: (z, OBJ0) :: (D, seqObj "list" wd.toArray kd) :: ms) := News_sub N3 fun q hq => .tail _ hq
    refine eCons (enumFor (n := s2.length) hh' e3 G3.2.1 e0 G0.2 F3 N3' (l := lt) (.head _) (by rfl) (by rfl) cm.t (by rfl) hE' (CJ2 ls lt z D s1 s2) ⟨vb, wd, kb, kd, ms, rfl, hO2, hM, cm, fun q hq' => (apM q hq').2⟩ ?_ ?_ ?_)
    · rintro i m news ⟨vb, wd, kb, kd, ms, rfl, hO, -⟩
      exact ⟨vb, kb, .head _, by rw [hO.len, (cdB_len s1 s2 i).1]⟩
    · clear hO1 hO2 hM cm apM N3 N3' F3 N2 F2 cm2 F
      rintro i v tk m₁ news₁ h₁ tk₁ e it oe oi Q' hi ⟨vb, wd, kb, kd, ms, rfl, hO2, hM, cm, apM⟩ hv apE F₁ N₁ hq'
      obtain ⟨o, ho, hvo⟩ := cdAt hO2 (hv vb kb (.head _))
      have hL := cdB_len s1 s2 i
      have ce := cdB_succ s1 s2 i
      refine cdTurn2 (os2 := (cdB s1 s2 i).1) (cs := (cdB s1 s2 i).2) (i := i) (o := o) X Tp hh' hu9 hd' hu' e3 G3 e0 G0 F₁ N₁ apE ntD apM (cm.of fun y hy => ?_) (by rfl) (by rfl) hO2 hL.1 hn2 hi ho hvo hM (by exact lc (lR4 _ _ _ _) (.h (lS z0) (lN 64) (.h (lS z1) (lN 64) (.h (lS z2) z1 (.h z3 (lA z0 z2) (.g (lS z3) (lN 200)))))) lT hn1 hn2 hi hL.2) hE' (by rfl) ?_
      · have y1 : y ≠ Str.ofString "elem" := fun q => hy (.inr (.inl q))
        have y2 : y ≠ Str.ofString "i" := fun q => hy (.inl q)
        show (if y = _ then _ else if y = _ then _ else _) = _
        rw [if_neg y1, if_neg y2]
      · intro f h' tk' m' vb' wd' kb' kd' ms' hf F' N' ap' cm' hO2' hM'
        refine hq' f h' tk' m' _ hf F' N' ?_ ⟨vb', wd', kb', kd', ms', rfl, by rw [ce]; exact hO2', by rw [ce]; exact hM', cm', fun q hq => (ap' q hq).2⟩
        intro q hq
        simp only [List.mem_cons] at hq
        rcases hq with rfl | rfl | rfl | hq
        · exact apE (lt, seqObj "list" vb.toArray kb) (.head _)
        · exact apE (z, _) (.tail _ (.head _))
        · exact apE (D, seqObj "list" wd.toArray kd) (.tail _ (.tail _ (.head _)))
        · exact (ap' q hq).1
    · rintro h4 tk4 m4 news4 F4 N4 ⟨vb', wd', kb', kd', ms', rfl, hO2', hM', cm', -⟩
      refine eCons (eRet (wpAny_Name (wpAny_loadName_local (by rfl) (by rfl) F4.ns cm'.r ?_)))
      exact hq D h4 _ wd' ms' kd' F4.keep (N4 _ (.tail _ (.tail _ (.head _)))).1 hM' fun q hq => (N4 q (.tail _ (.tail _ (.tail _ hq)))).1

end
-- X1A
section
open PySem PySem.W PyProof.Rows PySem.Calls PySem.Spec PySem.Builtin.Str
structure ExcC (h h' : Heap) (e : Addr) (cls : String) (c : Value) : Prop where
  keeps : Ext h h'
  new : h.get? e = none
  there : Ex3 fun t d sl => h'.get? e = some ⟨.type cls, d, .fields #[t, .none, c, .none, .bool false, .none], sl⟩
theorem ExcC.of {h h' : Heap} {e : Addr} {cls : String} (x : Heap.NewExc h h' e cls) : ExcC h h' e cls .none := by
  obtain ⟨⟨c, d, dt, sl⟩, t, he, hc, hd⟩ := x.there
  dsimp only at hc hd
  subst hc hd
  exact ⟨x.keeps, x.new, t, d, sl, he⟩
structure XS (h : Heap) (e T : Addr) (cls : String) (c fl : Value) : Prop where
  he : Ex3 fun t d sl => h.get? e = some ⟨.type cls, d, .fields #[t, .ref T, c, .none, .bool false, .none], sl⟩
  hT : Ex2 fun oT ts => h.get? T = some oT ∧ oT.data = .fields ts ∧ ts[3]? = some fl
  ne : e ≠ T
section
variable {M : Model} {A : Around} {E : Value → Shared → Prop} {s : Shared} {env envO : Env} {L Lo e T : Addr} {cls : String} {c fl : Value}
theorem XS.keeps {h h' : Heap} (x : XS h e T cls c fl) (k : ∀ b o, b = e ∨ b = T → h.get? b = some o → h'.get? b = some o) : XS h' e T cls c fl := by
  obtain ⟨⟨t, d, sl, he⟩, ⟨oT, ts, hT, a⟩, ne⟩ := x
  exact ⟨⟨t, d, sl, k _ _ (.inl rfl) he⟩, ⟨oT, ts, k _ _ (.inr rfl) hT, a⟩, ne⟩
theorem noteC {h0 : Heap} {oL oLo : Obj} {Q : Unit → Shared → Prop} (hfr : A.frames = some [env, envO]) (hk : env.scope.kind ≠ .module) (hko : envO.scope.kind ≠ .module)
    (hf : env.frame = some L) (hfo : envO.frame = some Lo) (hL : h0.get? L = some oL) (hLo : h0.get? Lo = some oLo) (hdL : ∀ vs, oL.data ≠ .fields vs) (hdLo : ∀ vs, oLo.data ≠ .fields vs) (ne : ExcC h0 s.heap e cls c)
    (hq : ∀ h' T, XS h' e T cls c (rawInt L) → h0.get? T = none → (∀ b o, b ≠ L → b ≠ Lo → h0.get? b = some o → h'.get? b = some o) → (∃ sl, h'.get? L = some { oL with slots := sl }) → (∃ sl, h'.get? Lo = some { oLo with slots := sl }) → Q () { s with heap := h' }) :
    wpAny M A (noteFrame (.ref e) env) Q E s := by
  obtain ⟨k, nw, t, d, sl, he⟩ := ne
  have ff : s.heap.FunFrames ⟨#[], s.heap.life⟩ [env, envO] := ⟨hk, ⟨L, oL, hf, rfl, k _ _ hL, hdL⟩, hko, ⟨Lo, oLo, hfo, rfl, k _ _ hLo, hdLo⟩, trivial⟩
  unfold noteFrame
  simp only [hf]
  refine wpAny_bind (wpAny_field (x := .none) he rfl rfl ?_)
  rw [if_neg (by simp)]
  refine wpAny_bind (wpAny_frameOf_fun hfr ff hf fun h1 s1 => ?_)
  refine wpAny_bind (wpAny_entryPlaceOf fun pl hpl => ?_)
  have hS : ([env, envO].filterMap (·.frame)) = [L, Lo] := by simp [hf, hfo]
  rw [hS] at s1
  obtain ⟨-, sk, ss⟩ := s1
  have eL : e ≠ L := fun q => by rw [q, hL] at nw; cases nw
  have eLo : e ≠ Lo := fun q => by rw [q, hLo] at nw; cases nw
  have he1 := (sk e (by simp [eL, eLo])).trans he
  have nT : h0.get? h1.objs.size = none := by
    cases hh : h0.get? h1.objs.size with
    | none => rfl
    | some o =>
      obtain ⟨_, q⟩ := ss _ _ (k _ _ hh)
      rw [Heap.get?_none_of_le (Nat.le_refl _)] at q
      cases q
  have k1 : ∀ b o, b ≠ L → b ≠ Lo → h0.get? b = some o → h1.get? b = some o := fun b o x y z => (sk b (by simp [x, y])).trans (k _ _ z)
  have l1 := ss _ _ (k _ _ hL)
  have l2 := ss _ _ (k _ _ hLo)
  clear ff sk ss he k
  unfold EntryCells.newEntry newFields
  refine wpAny_bind (wpAny_newObj_type ?_ (hpl.sizeOk5 _ _ _ _ _))
  refine wpAny_setField (Heap.get?_push_of_some _ he1) rfl (by simp) ?_
  dsimp only
  generalize hob : ({ cls := .type "traceback", data := .fields (([Value.none, .ref L, .none, rawInt L, .none] ++ (if pl.isEmpty then List.replicate 6 Value.none else pl)).toArray) } : Obj) = ob
  obtain ⟨n1, n2, n3⟩ := newH (h := h1) (o := ob) (by rw [← hob]; rfl)
  have he2 := n1 _ _ he1
  have neT : e ≠ h1.objs.size := fun q => by rw [q, n2] at he1; cases he1
  have hu : ∀ b, b ≠ e → ((h1.push ob).update e (Obj.mapFields (·.setIfInBounds 1 (Value.ref h1.objs.size)))).get? b = (h1.push ob).get? b := fun b hb => Heap.get?_update_other _ _ (Ne.symm hb)
  have hv := Heap.get?_update_self (Obj.mapFields (·.setIfInBounds 1 (Value.ref h1.objs.size))) he2 rfl
  refine hq _ h1.objs.size ⟨⟨t, d, sl, hv⟩, ⟨ob, _, (hu _ (Ne.symm neT)).trans n3, by rw [← hob], by rfl⟩, neT⟩ nT (fun b o x y z => (hu b (fun q => by rw [q, nw] at z; cases z)).trans (n1 _ _ (k1 b o x y z))) ?_ ?_
  · obtain ⟨sl, x⟩ := l1
    exact ⟨sl, (hu _ (Ne.symm eL)).trans (n1 _ _ x)⟩
  · obtain ⟨sl, x⟩ := l2
    exact ⟨sl, (hu _ (Ne.symm eLo)).trans (n1 _ _ x)⟩
theorem againC {Q : Unit → Shared → Prop} (hf : env.frame = some L) (x : XS s.heap e T cls c (rawInt L)) (hq : Q () s) : wpAny M A (noteFrame (.ref e) env) Q E s := by
  obtain ⟨⟨t, d, sl, he⟩, ⟨oT, ts, hT, hd, h3⟩, ne⟩ := x
  unfold noteFrame
  simp only [hf]
  refine wpAny_bind (wpAny_field he rfl rfl ?_)
  rw [if_pos (by simp)]
  refine wpAny_bind (wpAny_field hT hd h3 ?_)
  rw [if_pos (by simp)]
  exact wpAny_pure hq
theorem flightC {Q : Unit → Shared → Prop} {f : Option Addr} (x : XS s.heap e T cls c fl) (hq : ∀ h', XS h' e T cls c (f.elim .none fun a => rawInt a) → (ExtB T s.heap h') → Q () { s with heap := h' }) : wpAny M A (setFlight (.ref e) f) Q E s := by
  obtain ⟨⟨t, d, sl, he⟩, ⟨oT, ts, hT, hd, h3⟩, ne⟩ := x
  unfold setFlight
  refine wpAny_bind (wpAny_field he rfl rfl ?_)
  rw [if_pos (by simp)]
  have hi : 3 < ts.size := (Array.getElem?_eq_some_iff.mp h3).1
  refine wpAny_setField hT hd hi ?_
  have hd' := Obj.data_mapFields hd (·.setIfInBounds 3 (f.elim Value.none fun a => rawInt a))
  have hu : ∀ b, b ≠ T → (s.heap.update T (Obj.mapFields (·.setIfInBounds 3 (f.elim Value.none fun a => rawInt a)))).get? b = s.heap.get? b := fun b hb => Heap.get?_update_other _ _ (Ne.symm hb)
  exact hq _ ⟨⟨t, d, sl, (hu e ne).trans he⟩, ⟨_, _, Heap.get?_update_self _ hT (Obj.isFreed_of_fields hd'), hd', by simp [hi]⟩, ne⟩ fun b o hb x => (hu b hb).trans x
theorem cameC {EE : Value → Shared → Prop} (x : XS s.heap e T cls c fl) (hq : ∀ h', XS h' e T cls c (env.frame.elim .none fun a => rawInt a) → (ExtB T s.heap h') → EE (.ref e) { s with heap := h' }) : cameBackBy M A env EE (.ref e) s := by
  obtain ⟨t, d, sl, he⟩ := x.he
  unfold cameBackBy
  refine wpAny_bind (wpAny_field he rfl rfl ?_)
  rw [if_neg (by simp)]
  exact flightC x hq
end

end
-- X1B
section
open PySem PySem.W PyProof.Rows PySem.Calls PySem.Spec PySem.Builtin.Str
theorem entry_unchain : entryFor table "proto.unchain" = some Builtin.«proto.unchain» := entryFor_of_fast (by kernel_rfl)
inductive CtxOf (A : Around) (h : Heap) : Value → Prop
  | none : A.handled = none → CtxOf A h .none
  | some (e1 : Addr) (o : Obj) (vs : Array Value) : A.handled = some (.ref e1) → h.get? e1 = some o → o.data = .fields vs → vs[2]? = some .none → CtxOf A h (.ref e1)
section
variable {α : Type} {prog : Program} {w : World} {A : Around} {E : Value → Shared → Prop} {s : Shared} {c : Value}
theorem raiseC {cls msg : String} {Q : α → Shared → Prop} (hp : PlainExc cls) (hc : CtxOf A s.heap c)
    (h : ∀ h' tk e, ExcC s.heap h' e cls c → E (.ref e) { s with heap := h', toks := tk }) : wpAny (model prog w) A (raiseErrorWords cls msg : Sem α) Q E s := by
  unfold raiseErrorWords
  refine wpAny_bind (wpAny_mkText (wpAny_bind ?_))
  refine wpAny_newExc_plain hp (fun h1 e me => ?_) (by simp [sizeLine_eq])
  obtain ⟨k, nw, t, he, -, -⟩ := me
  unfold raiseNew
  refine wpAny_bind (wpAny_handled ?_)
  cases hc with
  | none hh =>
    rw [hh]
    exact wpAny_bind (wpAny_pure (wpAny_throw (h _ _ _ ⟨k, nw, _, _, _, he⟩)))
  | some e1 o vs hh ho hd h2 =>
    rw [hh]
    dsimp only
    have ne1 : e1 ≠ e := fun q => by rw [q, nw] at ho; cases ho
    rw [if_pos (by simpa using ne1)]
    have hu : ∀ b, b ≠ e → (h1.update e (Obj.mapFields (·.setIfInBounds 2 (Value.ref e1)))).get? b = h1.get? b := fun b hb => Heap.get?_update_other _ _ (Ne.symm hb)
    refine wpAny_bind (wpAny_holding (wpAny_runValue (codeAny_builtin entry_unchain ?_)))
    show wpAny _ _ (field (.ref e1) 2 >>= _) _ _ _
    refine wpAny_bind (wpAny_field (k _ _ ho) hd h2 ?_)
    rw [if_pos (by rfl)]
    refine wpAny_bind (show wpAny _ _ (ret .none) _ _ _ from wpAny_pure (wpAny_pure ?_))
    show wpAny _ _ (setField (.ref e) 2 (.ref e1) >>= _) _ _ _
    refine wpAny_bind (wpAny_setField (a := e) (i := 2) (x := .ref e1) he rfl (by simp) ?_)
    exact wpAny_throw (h _ _ _ ⟨fun b o x => (hu b (fun q => by rw [q, nw] at x; cases x)).trans (k _ _ x), nw, _, _, _, Heap.get?_update_self _ he rfl⟩)
theorem item_out {l : Addr} {items : Array Value} {k : Int} {t : Tok} {Q : Value → Shared → Prop} (hc : CtxOf A s.heap c) (hl : s.heap.IsList l items) (hj : (items.size : Int) ≤ k) (hf : k < 2 ^ 63)
    (h : ∀ h' tk e, ExcC s.heap h' e "IndexError" c → E (.ref e) { s with heap := h', toks := tk }) : wpAny (model prog w) A (getItem (.ref l) (.int k t)) Q E s := by
  obtain ⟨o, ho, -, n, hd⟩ := id hl
  unfold getItem
  try with_reducible refine wpAny_holding ?_
  first | refine wpAny_bind (wpAny_pure ?_) | skip
  refine wpAny_bind (wpAny_sequenceKey hl.typeIs (by decide) ?_)
  refine wpAny_bind (wpAny_callSpecial?_slot (name := Str.ofString "__getitem__") hl.typeIs PySem.slot_list_getitem (wpAny_call_entry PySem.slot_list_getitem hl.typeIs PySem.entry_list_getitem ?_ (PySem.args_list_getitem _ _)))
  show wpAny _ _ (Builtin.List.listSubscript? (.int k t) >>= _) _ _ s
  refine wpAny_bind (wpAny_listSubscript_int (fitsIndex_both (by lia) hf) ?_)
  clear hf
  cases k with
  | negSucc j => exact absurd hj (by have := Int.negSucc_lt_zero j; lia)
  | ofNat j =>
  have hx : items[j]? = none := Array.getElem?_eq_none (by have : (items.size : Int) ≤ (j : Int) := hj; lia)
  show wpAny _ _ ((seqItemAt l j >>= fun r => pure (r.map (j, ·))) >>= _) _ _ s
  refine wpAny_bind (wpAny_bind (wpAny_seqItemAt ho hd (wpAny_pure ?_)))
  rw [hx]
  refine wpAny_bind (wpAny_rule (wpAny_bind (raiseC plainExc_IndexError ?_ h)))
  cases hc with
  | none hh => exact .none hh
  | some e1 o vs a b c d => exact .some e1 o vs a b c d
theorem sub_out {value slice : Expr} {l : Addr} {items : Array Value} {j : Nat} {t : Tok} {Q : Value → Shared → Prop} (hc : CtxOf A s.heap c) (hl : s.heap.IsList l items) (hj : items.size ≤ j) (hf : (j : Int) < 2 ^ 63)
    (h : ∀ h' tk e, ExcC s.heap h' e "IndexError" c → E (.ref e) { s with heap := h', toks := tk })
    (hs : autoParam (subscripted slice false (.ref l) (.int (j : Int) t) = operate [.ref l, .int (j : Int) t] (getItem (.ref l) (.int (j : Int) t))) aR) (hg : autoParam (∀ r, letTemporaryGo value (.ref l) r = pure ()) aR) :
    wpAny (model prog w) A (subscriptTail value slice (.ref l) (.int (j : Int) t)) Q E s :=
  subscriptTail_builtin hl.typeIs slot_list_getitem.lookup (item_out hc hl (by exact Int.ofNat_le.mpr hj) hf h) hs hg
end

end
-- P1
section
open PySem PySem.W PyProof.Rows PySem.Calls PySem.Spec PySem.Builtin.Str
noncomputable def repl2 : List Nat → List Nat
  | [] => []
  | 13 :: 10 :: t => 10 :: repl2 t
  | c :: t => c :: repl2 t
theorem repl2_cons (c : Nat) (t : List Nat) (h : (c :: t).take 2 ≠ [13, 10]) : repl2 (c :: t) = c :: repl2 t := by
  cases t with
  | nil => simp [repl2]
  | cons d t =>
    by_cases e : c = 13
    · subst e
      by_cases e2 : d = 10
      · subst e2; exact absurd rfl h
      · rw [repl2]; simpa using e2
    · rw [repl2]; intro _ q; exact absurd q e
theorem at_iff {x y : Str} {k : Nat} : StrLaws.At x y x.length k ↔ k + y.length ≤ x.length ∧ (x.cps.toList.drop k).take y.length = y.cps.toList := by
  unfold StrLaws.At
  rw [StrLaws.subAt_eq]
  simp
theorem repl2_run {x y : Str} (hy : y.cps = #[13, 10]) : ∀ (n a : Nat), a + n ≤ x.length → (∀ k, a ≤ k → k < a + n → ¬ StrLaws.At x y x.length k) → repl2 (x.cps.toList.drop a) = (x.cps.toList.drop a).take n ++ repl2 (x.cps.toList.drop (a + n))
  | 0, a, _, _ => by simp
  | n + 1, a, h, hn => by
    have hx : x.cps.toList.length = x.length := by simp [Str.length]
    have ha : a < x.cps.toList.length := by exact ar39 ‹_› ‹_›
    have ih := repl2_run hy n (a + 1) (by exact ar21 ‹_›) (fun k h1 h2 => hn k (by exact ar17 ‹_›) (by exact lc (lR3 _ _ _) (.h (lS z0) (lA (lS z1) z2) (.g (lS z0) (lA z1 (lS z2)))) lT h2))
    have hyl : y.length = 2 := by simp [Str.length, hy]
    rw [List.drop_eq_getElem_cons ha, repl2_cons, ih, List.take_succ_cons]
    · rw [show a + 1 + n = a + (n + 1) by exact ar31 _ _]; rfl
    · intro q
      rw [← List.drop_eq_getElem_cons ha] at q
      refine hn a (Nat.le_refl _) (by exact ar27 _ _) (at_iff.mpr ⟨?_, by rw [hyl, q, hy]⟩)
      have := congrArg List.length q
      have hx' : x.length = x.cps.size := rfl
      simp at this
      exact lc (lR6 _ _ _ _ _ _) (.e z0 (lN 2) (.d z1 z2 (.d z3 (lN 2) (.h z3 z4 (.e (lA z4 z5) z2 (.g (lA z5 z0) z1)))))) lT hyl hx' this (Nat.min_le_right _ _) (Nat.sub_add_cancel (lc (lR4 _ _ _ _) (.e z0 z1 (.h (lS z2) z0 (.e z1 z3 (.g z2 z3)))) lT hx ha hx'))
theorem sub_list {x : Str} (a c : Nat) : (strSub x a c).cps.toList = (x.cps.toList.drop a).take (c - a) := StrLaws.strSub_toList ..
theorem repl2_parts {x y z : Str} (hy : y.cps = #[13, 10]) (hz : z.cps = #[10]) : ∀ (cuts : List Nat) (a f : Nat), a ≤ x.length → StrLaws.ChainG x y x.length a cuts f → (∀ k, f ≤ k → ¬ StrLaws.At x y x.length k) →
    (Str.join z (StrLaws.partsFrom x y.length a cuts)).cps.toList = repl2 (x.cps.toList.drop a)
  | [], a, f, ha, h, hn => by
    have e : f = a := h
    subst e
    have hx : x.cps.toList.length = x.length := by simp [Str.length]
    have := repl2_run hy (x.length - f) f (by exact lc (lR3 _ _ _) (.e (lA z0 z1) z2 (.g (lA z1 z0) z2)) lT (Nat.sub_add_cancel ha)) (fun k h1 _ => hn k h1)
    show (strSub x f x.length).cps.toList = _
    rw [this, sub_list, show f + (x.length - f) = x.length by exact ar33 ‹_›, ← hx, List.drop_length]
    simp [repl2]
  | c :: r, a, f, ha, h, hn => by
    obtain ⟨h1, h2, h3, h4⟩ := h
    have hyl : y.length = 2 := by simp [Str.length, hy]
    have hx : x.cps.toList.length = x.length := by simp [Str.length]
    obtain ⟨h5, h6⟩ := at_iff.mp h2
    rw [hyl] at h5
    obtain ⟨p, q, e⟩ := StrLaws.partsFrom_ne x y.length (c + y.length) r
    have ih := repl2_parts hy hz r (c + y.length) f (by exact lc (lR3 _ _ _) (.e z0 (lN 2) (.h (lA z1 (lN 2)) z2 (.g (lA z1 z0) z2))) lT hyl h5) h4 hn
    have run := repl2_run (x := x) hy (c - a) a (by lia) (fun k u v => h3 k u (by exact lc (lR4 _ _ _ _) (.h (lS z0) (lA z1 z2) (.e (lA z2 z1) z3 (.g (lS z0) z3))) lT v (Nat.sub_add_cancel h1)))
    show (Str.join z (strSub x a c :: StrLaws.partsFrom x y.length (c + y.length) r)).cps.toList = _
    rw [e] at ih ⊢
    show (strSub x a c ++ z ++ Str.join z (p :: q)).cps.toList = _
    have d2 : x.cps.toList.drop c = 13 :: 10 :: x.cps.toList.drop (c + 2) := by
      have := List.take_append_drop 2 (x.cps.toList.drop c)
      rw [← this, List.drop_drop]
      rw [hyl] at h6
      rw [h6, hy]; rfl
    rw [run, show a + (c - a) = c by exact ar33 ‹_›, d2]
    simp only [Str.cps_append, Array.toList_append, ih, sub_list, hz, hyl]
    simp [repl2]
theorem replace_repl2 {x y z : Str} (hy : y.cps = #[13, 10]) (hz : z.cps = #[10]) : (Txt.replace x y z).cps.toList = repl2 x.cps.toList := by
  have hyl : y.length = 2 := by simp [Str.length, hy]
  have hzl : z.length = 1 := by simp [Str.length, hz]
  obtain ⟨f, h1, h2⟩ := StrLaws.occ_tight x y (by exact lc (lR1 _) (.d z0 (lN 2) (.g (lN 1) z0)) lT hyl)
  have e : Txt.replace x y z = Str.join z (StrLaws.partsFrom x y.length 0 (occurrences x y 0 x.length (x.length + 1))) := by
    unfold Txt.replace
    rw [hyl, hzl]
    cases q : occurrences x y 0 x.length (x.length + 1) with
    | nil =>
      simp only [List.isEmpty_nil, Bool.true_or, if_true]
      show x = strSub x 0 x.length
      exact (StrLaws.sub_whole x).symm
    | cons a r =>
      simp only [List.isEmpty_cons, Bool.false_or]
      rw [if_neg (by decide), StrLaws.glued_eq_join, StrLaws.partsBetween_eq]
  rw [e, repl2_parts hy hz _ 0 f (Nat.zero_le _) h1 h2, List.drop_zero]
noncomputable def jn (s : List Nat) : List (List Nat) → List Nat
  | [] => []
  | [p] => p
  | p :: q :: r => p ++ s ++ jn s (q :: r)
theorem jn_join (s : Str) : ∀ ps : List Str, (Str.join s ps).cps.toList = jn s.cps.toList (ps.map (·.cps.toList))
  | [] => rfl
  | [p] => rfl
  | p :: q :: r => by
    show (p ++ s ++ Str.join s (q :: r)).cps.toList = _
    simp only [Str.cps_append, Array.toList_append, jn_join s (q :: r)]
    rfl
noncomputable def m13 (l : List Nat) : List Nat := l.map fun c => if c = 13 then 10 else c
theorem m13_free {l : List Nat} (h : 13 ∉ l) : m13 l = l := by
  unfold m13
  refine (List.map_congr_left fun a ha => ?_).trans (List.map_id' l)
  rw [if_neg (show ¬ a = 13 from fun e => h (e ▸ ha))]
theorem m13_jn : ∀ ps : List (List Nat), (∀ p ∈ ps, 13 ∉ p) → m13 (jn [13] ps) = jn [10] ps
  | [], _ => rfl
  | [p], h => m13_free (h p (List.mem_singleton.mpr rfl))
  | p :: q :: r, h => by
    have ih := m13_jn (q :: r) fun a ha => h a (List.mem_cons_of_mem _ ha)
    have hp := m13_free (h p (List.mem_cons_self ..))
    unfold m13 at ih hp ⊢
    simp only [jn, List.map_append, ih, hp]
    rfl
theorem replace_m13 (x : Str) {y z : Str} (hy : y = ⟨#[13]⟩) (hz : z.cps = #[10]) : (Txt.replace x y z).cps.toList = m13 x.cps.toList := by
  subst hy
  have e : (Str.join ⟨#[13]⟩ (Txt.split x ⟨#[13]⟩)).cps.toList = x.cps.toList := by rw [StrLaws.join_split]
  rw [jn_join] at e
  rw [StrLaws.replace_one, jn_join, hz]
  show jn [10] _ = _
  rw [← e]
  refine (m13_jn _ fun p hp => ?_).symm
  obtain ⟨a, ha, rfl⟩ := List.mem_map.mp hp
  exact StrLaws.split_free x 13 a ha
noncomputable def ch (k : Nat) : List (List Nat) → List (List Nat)
  | [] => [[k]]
  | p :: r => (k :: p) :: r
noncomputable def spl : List Nat → List (List Nat)
  | [] => [[]]
  | k :: t => if k = 10 then [] :: spl t else ch k (spl t)
theorem spl_ne : ∀ l, Ex2 fun p r => spl l = p :: r
  | [] => ⟨_, _, rfl⟩
  | k :: t => by
    obtain ⟨p, r, e⟩ := spl_ne t
    unfold spl
    split
    · exact ⟨_, _, rfl⟩
    · rw [e]; exact ⟨_, _, rfl⟩
theorem spl_app : ∀ (p t : List Nat), 10 ∉ p → spl (p ++ 10 :: t) = p :: spl t
  | [], t, _ => by show spl (10 :: t) = _; rw [spl, if_pos rfl]
  | k :: p, t, h => by
    have ih := spl_app p t fun m => h (List.mem_cons_of_mem _ m)
    show spl (k :: (p ++ 10 :: t)) = _
    rw [spl, if_neg (show ¬ k = 10 from fun e => h (e ▸ List.mem_cons_self ..)), ih]
    rfl
theorem spl_free : ∀ p : List Nat, 10 ∉ p → spl p = [p]
  | [], _ => rfl
  | k :: p, h => by
    rw [spl, if_neg (show ¬ k = 10 from fun e => h (e ▸ List.mem_cons_self ..)), spl_free p fun m => h (List.mem_cons_of_mem _ m)]
    rfl
theorem spl_jn : ∀ ps : List (List Nat), ps ≠ [] → (∀ p ∈ ps, 10 ∉ p) → spl (jn [10] ps) = ps
  | [], h, _ => absurd rfl h
  | [p], _, h => spl_free p (h p (List.mem_singleton.mpr rfl))
  | p :: q :: r, _, h => by
    have ih := spl_jn (q :: r) (by simp) fun a ha => h a (List.mem_cons_of_mem _ ha)
    show spl (p ++ [10] ++ jn [10] (q :: r)) = _
    rw [List.append_assoc]
    show spl (p ++ 10 :: jn [10] (q :: r)) = _
    rw [spl_app p _ (h p (List.mem_cons_self ..)), ih]
theorem split_ne (x y : Str) : Txt.split x y ≠ [] := by
  unfold Txt.split
  split
  · simp
  · split
    · simp
    · rw [StrLaws.partsBetween_eq]
      obtain ⟨p, r, e⟩ := StrLaws.partsFrom_ne x y.length 0 (occurrences x y 0 x.length (x.length + 1))
      rw [e]; simp
theorem split_spl (x : Str) : (Txt.split x ⟨#[10]⟩).map (·.cps.toList) = spl x.cps.toList := by
  have e : (Str.join ⟨#[10]⟩ (Txt.split x ⟨#[10]⟩)).cps.toList = x.cps.toList := by rw [StrLaws.join_split]
  rw [jn_join] at e
  rw [← e]
  refine (spl_jn _ ?_ fun p hp => ?_).symm
  · intro q
    exact split_ne x ⟨#[10]⟩ (List.map_eq_nil_iff.mp q)
  · obtain ⟨a, ha, rfl⟩ := List.mem_map.mp hp
    exact StrLaws.split_free x 10 a ha
noncomputable def norm (l : List Nat) : List Nat := m13 (repl2 l)
theorem rows_spl (x : Str) : (rowsOf x).map (·.cps.toList) = spl (norm x.cps.toList) := by
  unfold rowsOf norm
  have e1 : Str.ofString "\n" = ⟨#[10]⟩ := by decide +kernel
  have e2 : Str.ofString "\r" = ⟨#[13]⟩ := by decide +kernel
  have e3 : Str.ofString "\r\n" = ⟨#[13, 10]⟩ := by decide +kernel
  rw [e1, e2, e3, split_spl, replace_m13 (y := ⟨#[13]⟩) (z := ⟨#[10]⟩) _ rfl rfl, replace_repl2 (y := ⟨#[13, 10]⟩) (z := ⟨#[10]⟩) rfl rfl]
noncomputable def expd : List Nat → List Nat
  | [] => []
  | c :: t => if c = 10 then 13 :: 10 :: expd t else c :: expd t
theorem norm_crlf (t : List Nat) : norm (13 :: 10 :: t) = 10 :: norm t := by unfold norm; rw [repl2]; rfl
theorem norm_cons (c : Nat) (t : List Nat) (h : (c :: t).take 2 ≠ [13, 10]) : norm (c :: t) = (if c = 13 then 10 else c) :: norm t := by
  unfold norm; rw [repl2_cons c t h]; rfl
theorem crlf_expd (l : List Nat) : crlf l = expd (norm l) := by
  fun_induction crlf l with
  | case1 => rfl
  | case2 t ih => rw [norm_crlf, ih]; rfl
  | case3 c t hx hc ih =>
    rw [norm_cons, ih]
    · rcases hc with rfl | rfl <;> simp [expd]
    · intro q
      cases t with
      | nil => simp at q
      | cons d t => simp at q; exact hx t q.1 (by rw [q.2])
  | case4 c t hx hc ih =>
    rw [norm_cons, ih]
    · rw [if_neg fun e => hc (.inl e), expd, if_neg fun e => hc (.inr e)]
    · intro q
      cases t with
      | nil => simp at q
      | cons d t => simp at q; exact hx t q.1 (by rw [q.2])
theorem norm_free (l : List Nat) : 13 ∉ norm l := by
  unfold norm m13
  intro h
  obtain ⟨a, _, e⟩ := List.mem_map.mp h
  split at e <;> lia
noncomputable def dt : List Nat → List Nat
  | [] => []
  | c :: t => if c = 46 then 46 :: 46 :: t else c :: t
theorem dots_spl : ∀ (l : List Nat) (b : Bool) (p : List Nat) (r : List (List Nat)), 13 ∉ l → spl l = p :: r → dots b (expd l) = jn [13, 10] ((if b then dt p else p) :: r.map dt)
  | [], b, p, r, _, e => by
    cases e
    cases b <;> rfl
  | k :: t, b, p, r, h, e => by
    obtain ⟨p', r', e'⟩ := spl_ne t
    have ht : 13 ∉ t := fun m => h (List.mem_cons_of_mem _ m)
    have hk : k ≠ 13 := fun q => h (q ▸ List.mem_cons_self ..)
    unfold spl at e
    rw [e'] at e
    by_cases hk10 : k = 10
    · subst hk10
      rw [if_pos rfl] at e
      cases e
      have ih := dots_spl t true p' r' ht e'
      rw [expd, if_pos rfl]
      cases b <;> · simp only [dots, Bool.false_and, Bool.true_and]; rw [show ((10 : Nat) == 10) = true from rfl, ih]; rfl
    · rw [if_neg hk10] at e
      cases e
      have ih := dots_spl t false p' r ht e'
      rw [expd, if_neg hk10]
      have hkb : (k == 10) = false := by simp [hk10]
      simp only [dots, hkb, ih]
      simp only [Bool.false_eq_true, if_false]
      have pull : ∀ (u : List Nat), u ++ jn [13, 10] (p' :: r.map dt) = jn [13, 10] ((u ++ p') :: r.map dt) := by
        intro u
        cases r with
        | nil => rfl
        | cons a r => simp [jn]
      rw [pull]
      cases b
      · simp
      · by_cases h46 : k = 46
        · subst h46; simp [dt]
        · simp [dt, h46]
noncomputable def due1 (x : Str) : Str := ⟨(dt x.cps.toList).toArray⟩
theorem ext_l {a b : Str} (h : a.cps.toList = b.cps.toList) : a = b := Str.ext' (Array.toList_inj.mp h)
theorem quote_rows (x : Str) : quote x = Str.join ⟨#[13, 10]⟩ ((rowsOf x).map due1) := by
  apply ext_l
  rw [jn_join, List.map_map]
  show dots true (crlf x.cps.toList) = jn [13, 10] ((rowsOf x).map ((fun y : Str => y.cps.toList) ∘ due1))
  have e : (rowsOf x).map ((fun y : Str => y.cps.toList) ∘ due1) = ((rowsOf x).map (·.cps.toList)).map dt := by rw [List.map_map]; rfl
  rw [e, rows_spl, crlf_expd]
  obtain ⟨p, r, q⟩ := spl_ne (norm x.cps.toList)
  rw [dots_spl _ true p r (norm_free _) q, q]
  rfl
noncomputable def Clean (x : Str) : Prop := 10 ∉ x.cps.toList ∧ 13 ∉ x.cps.toList
theorem repl2_free : ∀ (p t : List Nat), 13 ∉ p → repl2 (p ++ t) = p ++ repl2 t
  | [], _, _ => rfl
  | k :: p, t, h => by
    show repl2 (k :: (p ++ t)) = k :: (p ++ repl2 t)
    rw [repl2_cons, repl2_free p t fun m => h (List.mem_cons_of_mem _ m)]
    intro q
    have : k = 13 := by have := congrArg List.head? q; simpa using this
    exact h (this ▸ List.mem_cons_self ..)
theorem norm_jn : ∀ ps : List (List Nat), (∀ p ∈ ps, 13 ∉ p) → norm (jn [13, 10] ps) = jn [10] ps
  | [], _ => rfl
  | [p], h => by
    have hp := h p (List.mem_singleton.mpr rfl)
    unfold norm
    have := repl2_free p [] hp
    simp only [List.append_nil] at this
    show m13 (repl2 p) = p
    rw [this]
    simp only [repl2, List.append_nil]
    exact m13_free hp
  | p :: q :: r, h => by
    have ih := norm_jn (q :: r) fun a ha => h a (List.mem_cons_of_mem _ ha)
    have hp := h p (List.mem_cons_self ..)
    have hm := m13_free hp
    unfold norm m13 at ih ⊢
    unfold m13 at hm
    show List.map _ (repl2 (p ++ [13, 10] ++ jn [13, 10] (q :: r))) = p ++ [10] ++ jn [10] (q :: r)
    rw [List.append_assoc, repl2_free p _ hp]
    show List.map _ (p ++ repl2 (13 :: 10 :: jn [13, 10] (q :: r))) = _
    rw [repl2, List.map_append, List.map_cons, ih, hm]
    simp
theorem map_inj : ∀ {l m : List Str}, l.map (·.cps.toList) = m.map (·.cps.toList) → l = m
  | [], [], _ => rfl
  | [], _ :: _, h => by simp at h
  | _ :: _, [], h => by simp at h
  | a :: l, b :: m, h => by
    rw [List.map_cons, List.map_cons] at h
    injection h with h1 h2
    rw [ext_l h1, map_inj h2]
theorem rows_join (rs : List Str) (hne : rs ≠ []) (hc : ∀ r ∈ rs, Clean r) : rowsOf (Str.join ⟨#[13, 10]⟩ rs) = rs := by
  apply map_inj
  rw [rows_spl, jn_join]
  show spl (norm (jn [13, 10] _)) = _
  rw [norm_jn, spl_jn]
  · intro q; exact hne (List.map_eq_nil_iff.mp q)
  · intro p hp
    obtain ⟨a, ha, rfl⟩ := List.mem_map.mp hp
    exact (hc a ha).1
  · intro p hp
    obtain ⟨a, ha, rfl⟩ := List.mem_map.mp hp
    exact (hc a ha).2
theorem rows_ne (x : Str) : rowsOf x ≠ [] := split_ne _ _
theorem spl_clean : ∀ (l : List Nat) (p : List Nat), p ∈ spl l → 10 ∉ p ∧ ∀ c ∈ p, c ∈ l
  | [], p, h => by
    cases List.mem_singleton.mp h
    exact ⟨by simp, fun c hc => hc⟩
  | k :: t, p, h => by
    unfold spl at h
    split at h
    · rcases List.mem_cons.mp h with rfl | h
      · exact ⟨by simp, fun c hc => by cases hc⟩
      · obtain ⟨a, b⟩ := spl_clean t p h
        exact ⟨a, fun c hc => List.mem_cons_of_mem _ (b c hc)⟩
    · rename_i hk
      obtain ⟨p', r', e⟩ := spl_ne t
      rw [e] at h
      rcases List.mem_cons.mp h with rfl | h
      · obtain ⟨a, b⟩ := spl_clean t p' (by rw [e]; exact List.mem_cons_self ..)
        refine ⟨fun m => ?_, fun c hc => ?_⟩
        · rcases List.mem_cons.mp m with q | q
          · exact hk q.symm
          · exact a q
        · rcases List.mem_cons.mp hc with rfl | hc
          · exact List.mem_cons_self ..
          · exact List.mem_cons_of_mem _ (b c hc)
      · obtain ⟨a, b⟩ := spl_clean t p (by rw [e]; exact List.mem_cons_of_mem _ h)
        exact ⟨a, fun c hc => List.mem_cons_of_mem _ (b c hc)⟩
theorem repl2_mem {l : List Nat} {c : Nat} (h : c ∈ repl2 l) : c ∈ l := by
  fun_induction repl2 l with
  | case1 => exact h
  | case2 t ih =>
    rcases List.mem_cons.mp h with rfl | h
    · simp
    · exact List.mem_cons_of_mem _ (List.mem_cons_of_mem _ (ih h))
  | case3 k t _ ih =>
    rcases List.mem_cons.mp h with rfl | h
    · exact List.mem_cons_self ..
    · exact List.mem_cons_of_mem _ (ih h)
theorem norm_mem {l : List Nat} {c : Nat} (h : c ∈ norm l) (hc : c ≠ 10) : c ∈ l := by
  unfold norm m13 at h
  obtain ⟨a, ha, e⟩ := List.mem_map.mp h
  split at e
  · exact absurd e.symm hc
  · exact e ▸ repl2_mem ha
theorem row_mem {x r : Str} (h : r ∈ rowsOf x) : Clean r ∧ ∀ c ∈ r.cps.toList, c ∈ x.cps.toList := by
  have : r.cps.toList ∈ spl (norm x.cps.toList) := by rw [← rows_spl]; exact List.mem_map.mpr ⟨r, h, rfl⟩
  obtain ⟨a, b⟩ := spl_clean _ _ this
  refine ⟨⟨a, fun m => norm_free _ (b _ m)⟩, fun c hc => norm_mem (b c hc) fun e => a (e ▸ hc)⟩

end
-- P4
section
open PySem PySem.W PyProof.Rows PySem.Calls PySem.Spec PySem.Builtin.Str
noncomputable def fsts (l : List Str) : List Str := l.foldl (fun a x => if x ∈ a then a else a ++ [x]) []
theorem fsts_snoc (l : List Str) (x : Str) : fsts (l ++ [x]) = if x ∈ fsts l then fsts l else fsts l ++ [x] := by unfold fsts; rw [List.foldl_append]; rfl
theorem fsts_mem (x : Str) : ∀ (l a : List Str), x ∈ l.foldl (fun a x => if x ∈ a then a else a ++ [x]) a ↔ x ∈ a ∨ x ∈ l
  | [], a => by simp
  | y :: l, a => by
    rw [List.foldl_cons, fsts_mem x l]
    by_cases h : y ∈ a
    · rw [if_pos h]
      constructor
      · rintro (q | q)
        · exact .inl q
        · exact .inr (.tail _ q)
      · rintro (q | q)
        · exact .inl q
        · rcases List.mem_cons.mp q with rfl | q
          · exact .inl h
          · exact .inr q
    · rw [if_neg h, List.mem_append, List.mem_singleton, List.mem_cons, or_assoc]
theorem mem_fsts (x : Str) (l : List Str) : x ∈ fsts l ↔ x ∈ l := by unfold fsts; rw [fsts_mem]; simp
theorem fsts_nodup_aux : ∀ (l a : List Str), a.Nodup → (l.foldl (fun a x => if x ∈ a then a else a ++ [x]) a).Nodup
  | [], a, h => h
  | y :: l, a, h => by
    rw [List.foldl_cons]
    refine fsts_nodup_aux l _ ?_
    split
    · exact h
    · rename_i hy
      rw [List.nodup_append]
      exact ⟨h, by simp, fun b hb c hc e => hy (by rw [List.mem_singleton] at hc; rw [← hc, ← e]; exact hb)⟩
theorem fsts_nodup (l : List Str) : (fsts l).Nodup := fsts_nodup_aux l [] List.nodup_nil
noncomputable def cntOf (a b : List Str) (x : Str) : Option Cnt := if a.count x ≠ b.count x then some (a.count x, b.count x, x) else none
noncomputable def cntsOf (a b l : List Str) : List Cnt := (fsts l).filterMap (cntOf a b)
theorem cntsOf_old {a b l : List Str} {x : Str} (h : x ∈ l) : cntsOf a b (l ++ [x]) = cntsOf a b l := by unfold cntsOf; rw [fsts_snoc, if_pos ((mem_fsts x l).mpr h)]
theorem cntsOf_new {a b l : List Str} {x : Str} (h : x ∉ l) : cntsOf a b (l ++ [x]) = cntsOf a b l ++ (cntOf a b x).toList := by
  unfold cntsOf
  rw [fsts_snoc, if_neg (fun q => h ((mem_fsts x l).mp q)), List.filterMap_append]
  cases h : cntOf a b x <;> simp [h]
noncomputable def blank (u l : List Str) : List (Option Str) := l.map fun x => if x ∈ u then none else some x
theorem blank_get (u l : List Str) (q : Nat) : (blank u l)[q]? = l[q]?.map fun x => if x ∈ u then none else some x := by unfold blank; rw [List.getElem?_map]
theorem blank_old {u l : List Str} {x : Str} (h : x ∈ u) : blank (u ++ [x]) l = blank u l := by
  unfold blank
  refine List.map_congr_left fun y _ => ?_
  by_cases e : y = x
  · subst e; simp [h]
  · simp [e]
theorem upd_blank {u l : List Str} {x : Str} {i : Nat} (hi : ∀ q, q < i → ∀ y, l[q]? = some y → y = x → x ∈ u) : upd x i l.length (blank u l) = blank (u ++ [x]) l := by
  apply List.ext_getElem?
  intro q
  rw [upd_get, blank_get, blank_get]
  cases e : l[q]? with
  | none => rfl
  | some y =>
    have hq : q < l.length := (List.getElem?_eq_some_iff.mp e).1
    simp only [Option.map_some]
    congr 1
    by_cases hy : y ∈ u
    · simp [hy]
    · by_cases hx : y = x
      · subst hx
        have : i ≤ q := by
          refine Nat.not_lt.mp fun c => hy (hi q c y e rfl)
        simp [hy, this, hq]
      · simp [hy, hx]
theorem cnt_map (u : List Str) (x : Str) (h : x ∉ u) : ∀ l : List Str, (blank u l).count (some x) = l.count x
  | [] => rfl
  | y :: l => by
    have ih := cnt_map u x h l
    unfold blank at ih ⊢
    rw [List.map_cons, List.count_cons, List.count_cons, ih]
    congr 1
    by_cases e : y = x
    · subst e; simp [h]
    · by_cases hy : y ∈ u <;> simp [hy, e]
theorem cntIn_blank {u l : List Str} {x : Str} {i : Nat} (hx : x ∉ u) (hi : x ∉ l.take i) : cntIn x i l.length (blank u l) = l.count x := by
  unfold cntIn
  have h1 : (blank u l).length = l.length := by unfold blank; rw [List.length_map]
  rw [← h1, List.take_length]
  have h2 : (blank u l).drop i = blank u (l.drop i) := by unfold blank; rw [List.map_drop]
  rw [h2, cnt_map u x hx]
  have h3 := List.take_append_drop i l
  have h4 : l.count x = (l.take i).count x + (l.drop i).count x := by rw [← List.count_append, h3]
  rw [h4, List.count_eq_zero.mpr hi, Nat.zero_add]
theorem blank_len (u l : List Str) : (blank u l).length = l.length := by unfold blank; rw [List.length_map]
theorem blank_nil (l : List Str) : blank [] l = l.map some := by unfold blank; simp
theorem cdA_eq (a b : List Str) : ∀ n, n ≤ a.length → cdA a b n = (blank (a.take n) a, blank (a.take n) b, cntsOf a b (a.take n))
  | 0, _ => by unfold cdA; simp [blank_nil, cntsOf, fsts]
  | n + 1, h => by
    have ih := cdA_eq a b n (by exact ar17 ‹_›)
    obtain ⟨x, hx⟩ : ∃ x, a[n]? = some x := ⟨a[n], List.getElem?_eq_getElem h⟩
    rw [cdA_succ, ih, take_snoc hx]
    unfold cd1
    dsimp only
    rw [blank_get, hx, Option.map_some]
    by_cases hm : x ∈ a.take n
    · rw [if_pos hm, blank_old hm, blank_old hm, cntsOf_old hm]
    · rw [if_neg hm]
      dsimp only
      rw [blank_len, blank_len, cntIn_blank hm hm, cntIn_blank (i := 0) hm (by simp), cntsOf_new hm, upd_blank (i := n), upd_blank (i := 0)]
      · unfold cntOf
        congr 2
        split <;> simp
      · intro q hq; exact False.elim (lc (lR1 _) (.h (lS z0) (lN 0) .f) lT hq)
      · intro q hq y hy e
        subst e
        exact List.mem_of_getElem? (i := q) (by rw [List.getElem?_take_of_lt hq]; exact hy)
theorem blank_all {l u : List Str} (h : ∀ x ∈ l, x ∈ u) : blank u l = l.map fun _ => none := by
  unfold blank
  exact List.map_congr_left fun x hx => if_pos (h x hx)
theorem cdB_eq (a b : List Str) : ∀ n, n ≤ b.length → cdB a b n = (blank (a ++ b.take n) b, cntsOf a b (a ++ b.take n))
  | 0, _ => by
    have := cdA_eq a b a.length (Nat.le_refl _)
    unfold cdB
    rw [this]
    simp
  | n + 1, h => by
    have ih := cdB_eq a b n (by exact ar17 ‹_›)
    obtain ⟨x, hx⟩ : ∃ x, b[n]? = some x := ⟨b[n], List.getElem?_eq_getElem h⟩
    rw [cdB_succ, ih, take_snoc hx, ← List.append_assoc]
    unfold cd2
    dsimp only
    rw [blank_get, hx, Option.map_some]
    by_cases hm : x ∈ a ++ b.take n
    · rw [if_pos hm, blank_old hm, cntsOf_old hm]
    · rw [if_neg hm]
      dsimp only
      have ha : x ∉ a := fun q => hm (List.mem_append_left _ q)
      have hb : x ∉ b.take n := fun q => hm (List.mem_append_right _ q)
      rw [blank_len, cntIn_blank hm hb, cntsOf_new hm, upd_blank (i := n)]
      · unfold cntOf
        have h0 : a.count x = 0 := List.count_eq_zero.mpr ha
        have h1 : 0 < b.count x := List.count_pos_iff.mpr (List.mem_of_getElem? hx)
        rw [h0, if_pos (by exact Nat.ne_of_lt ‹_›)]
        rfl
      · intro q hq y hy e
        subst e
        exact List.mem_append_right _ (List.mem_of_getElem? (i := q) (by rw [List.getElem?_take_of_lt hq]; exact hy))
theorem cdOf_eq (a b : List Str) : cdOf a b = cntsOf a b (a ++ b) := by
  unfold cdOf
  rw [cdB_eq a b b.length (Nat.le_refl _), List.take_length]

end
-- P5
section
open PySem PySem.W PyProof.Rows PySem.Calls PySem.Spec PySem.Builtin.Str
noncomputable def Lt (x y : Str) : Prop := x.cps.toList < y.cps.toList
theorem Lt.irr (x : Str) : ¬ Lt x x := List.lt_irrefl _
theorem Lt.trans {x y z : Str} (h : Lt x y) (g : Lt y z) : Lt x z := List.lt_trans h g
theorem Lt.ne {x y : Str} (h : Lt x y) : x ≠ y := fun e => Lt.irr y (e ▸ h)
theorem Lt.of_le {x y : Str} (h : ¬ Lt y x) (n : x ≠ y) : Lt x y := by
  by_cases q : Lt x y
  · exact q
  · exact absurd (ext_l (List.le_antisymm (List.not_lt.mp h) (List.not_lt.mp q))) n
theorem Lt.of_lt_le {x y z : Str} (h : Lt x y) (g : ¬ Lt z y) : Lt x z := by
  by_cases e : y = z
  · exact e ▸ h
  · exact h.trans (Lt.of_le g e)
noncomputable abbrev Srtd (l : List Str) : Prop := l.Pairwise fun a b => ¬ Lt b a
theorem srtd_rising : ∀ (p : Str) (l : List Str), risingS p l = true → Srtd (p :: l)
  | p, [], _ => List.pairwise_singleton _ _
  | p, x :: r, h => by
    unfold risingS at h
    obtain ⟨h1, h2⟩ := Bool.and_eq_true_iff.mp h
    have ih := srtd_rising x r h2
    rw [ltCps_eq] at h1
    have h1' : ¬ Lt x p := by simpa [Lt] using h1
    refine List.pairwise_cons.mpr ⟨fun a ha => ?_, ih⟩
    rcases List.mem_cons.mp ha with rfl | ha
    · exact h1'
    · have := (List.pairwise_cons.mp ih).1 a ha
      intro q
      by_cases e : x = p
      · subst e; exact this q
      · exact this (q.trans (Lt.of_le h1' (Ne.symm e)))
theorem srtd_of {l : List Str} (h : sortedS l = true) : Srtd l := by
  cases l with
  | nil => exact List.Pairwise.nil
  | cons p l => exact srtd_rising p l h
theorem strict_of {l : List Str} (h : Srtd l) (n : l.Nodup) : l.Pairwise Lt := by
  have := h.and n
  exact this.imp fun ⟨a, b⟩ => Lt.of_le a b
theorem strict_ext : ∀ {l m : List Str}, l.Pairwise Lt → m.Pairwise Lt → (∀ x, x ∈ l ↔ x ∈ m) → l = m
  | [], [], _, _, _ => rfl
  | [], y :: m, _, _, h => absurd ((h y).mpr (.head _)) (by simp)
  | x :: l, [], _, _, h => absurd ((h x).mp (.head _)) (by simp)
  | x :: l, y :: m, hl, hm, h => by
    obtain ⟨l1, l2⟩ := List.pairwise_cons.mp hl
    obtain ⟨m1, m2⟩ := List.pairwise_cons.mp hm
    have e : x = y := by
      rcases List.mem_cons.mp ((h x).mp (.head _)) with e | q
      · exact e
      · rcases List.mem_cons.mp ((h y).mpr (.head _)) with e | q'
        · exact e.symm
        · exact absurd ((m1 x q).trans (l1 y q')) (Lt.irr _)
    subst e
    rw [strict_ext l2 m2 fun z => ?_]
    constructor
    · intro hz
      rcases List.mem_cons.mp ((h z).mp (.tail _ hz)) with e | q
      · subst e; exact absurd (l1 z hz) (Lt.irr _)
      · exact q
    · intro hz
      rcases List.mem_cons.mp ((h z).mpr (.tail _ hz)) with e | q
      · subst e; exact absurd (m1 z hz) (Lt.irr _)
      · exact q
structure Skp (A : List Str) (i : Nat) (e : Str) (q : Nat) : Prop where
  gt : i < q
  le : q ≤ A.length
  at_ : ∀ p, i ≤ p → p < q → A[p]? = some e
  no : A[q]? ≠ some e
structure SInv (A B : List Str) (i j : Nat) (m u : List Str) : Prop where
  hi : i ≤ A.length
  hj : j ≤ B.length
  sa : ∀ x ∈ A.take i, ∀ y, y ∈ A.drop i ∨ y ∈ B.drop j → Lt x y
  sb : ∀ x ∈ B.take j, ∀ y, y ∈ A.drop i ∨ y ∈ B.drop j → Lt x y
  mm : ∀ x, x ∈ m ↔ x ∈ A.take i ∧ x ∉ B.take j
  um : ∀ x, x ∈ u ↔ x ∈ B.take j ∧ x ∉ A.take i
  ms : m.Pairwise Lt
  us : u.Pairwise Lt
theorem SInv.swap {A B : List Str} {i j : Nat} {m u : List Str} (h : SInv A B i j m u) : SInv B A j i u m :=
  ⟨h.hj, h.hi, fun x hx y hy => h.sb x hx y hy.symm, fun x hx y hy => h.sa x hx y hy.symm, h.um, h.mm, h.us, h.ms⟩
theorem SInv.start (A B : List Str) : SInv A B 0 0 [] [] :=
  ⟨Nat.zero_le _, Nat.zero_le _, fun x hx => by simp at hx, fun x hx => by simp at hx, fun x => by simp, fun x => by simp, .nil, .nil⟩
theorem Skp.take {A : List Str} {i q : Nat} {e : Str} (h : Skp A i e q) (x : Str) : x ∈ A.take q ↔ x ∈ A.take i ∨ x = e := by
  constructor
  · intro hx
    obtain ⟨p, hp⟩ := List.getElem?_of_mem hx
    have hpq : p < q := by
      have := (List.getElem?_eq_some_iff.mp hp).1
      rw [List.length_take] at this
      exact lc (lR3 _ _ _) (.h (lS z0) z1 (.h z1 z2 (.g (lS z0) z2))) lT this (Nat.min_le_left _ _)
    rw [List.getElem?_take_of_lt hpq] at hp
    by_cases hpi : p < i
    · exact .inl (List.mem_of_getElem? (i := p) (by rw [List.getElem?_take_of_lt hpi]; exact hp))
    · rw [h.at_ p (by exact Nat.le_of_not_lt ‹_›) hpq] at hp
      exact .inr (Option.some.inj hp).symm
  · rintro (hx | rfl)
    · have : A.take i = (A.take q).take i := by rw [List.take_take, Nat.min_eq_left (Nat.le_of_lt h.gt)]
      rw [this] at hx
      exact List.mem_of_mem_take hx
    · exact List.mem_of_getElem? (i := i) (by rw [List.getElem?_take_of_lt h.gt]; exact h.at_ i (Nat.le_refl _) h.gt)
theorem Skp.drop {A : List Str} (hA : Srtd A) {i q : Nat} {e : Str} (h : Skp A i e q) : ∀ y ∈ A.drop q, Lt e y := by
  intro y hy
  obtain ⟨k, hk⟩ := List.getElem?_of_mem hy
  rw [List.getElem?_drop] at hk
  have hq : q < A.length := by have := (List.getElem?_eq_some_iff.mp hk).1; exact lc (lR3 _ _ _) (.h (lS (lA z0 z1)) z2 (.g (lS z0) z2)) lT this
  have he := h.at_ i (Nat.le_refl _) h.gt
  have hpw := List.pairwise_iff_getElem.mp hA
  have hi : i < A.length := by have := h.gt; exact ar35 ‹_› ‹_›
  have hqk : q + k < A.length := (List.getElem?_eq_some_iff.mp hk).1
  have ei : A[i] = e := by rw [List.getElem?_eq_getElem hi] at he; exact Option.some.inj he
  have ek : A[q + k] = y := by rw [List.getElem?_eq_getElem hqk] at hk; exact Option.some.inj hk
  have h1 : ¬ Lt A[q] e := by rw [← ei]; exact hpw i q hi hq h.gt
  have h2 : e ≠ A[q] := fun c => h.no (by rw [List.getElem?_eq_getElem hq, c])
  have h3 := Lt.of_le h1 h2
  by_cases hk0 : k = 0
  · subst hk0; rw [← ek]; exact h3
  · rw [← ek]; exact h3.of_lt_le (hpw q (q + k) hq hqk (by lia))
theorem Skp.sub {A : List Str} {i q : Nat} {e : Str} (h : Skp A i e q) : ∀ y ∈ A.drop q, y ∈ A.drop i := by
  intro y hy
  have : A.drop q = (A.drop i).drop (q - i) := by rw [List.drop_drop]; congr 1; have := h.gt; exact Nat.le_antisymm (lc (lR3 _ _ _) (.h z0 (lA z1 z2) (.g z0 (lA z2 z1))) lT (lU _ _)) (lc (lR3 _ _ _) (.e (lA z0 z1) z2 (.g (lA z1 z0) z2)) lT (Nat.sub_add_cancel (lc (lR2 _ _) (.h (lS z0) z1 (.g z0 z1)) lT this)))
  rw [this] at hy
  exact List.mem_of_mem_drop hy
theorem Skp.here {A : List Str} {i q : Nat} {e : Str} (h : Skp A i e q) : e ∈ A.drop i :=
  List.mem_of_getElem? (i := 0) (by rw [List.getElem?_drop]; exact h.at_ i (Nat.le_refl _) h.gt)
theorem SInv.lt {A B : List Str} (hA : Srtd A) {i j q : Nat} {m u : List Str} {e : Str} (h : SInv A B i j m u) (k : Skp A i e q) (hb : ∀ y ∈ B.drop j, Lt e y) : SInv A B q j (m ++ [e]) u := by
  have eB : e ∉ B.take j := fun c => Lt.irr e (h.sb e c e (.inl k.here))
  have eA : e ∉ A.take i := fun c => Lt.irr e (h.sa e c e (.inl k.here))
  refine ⟨k.le, h.hj, fun x hx y hy => ?_, fun x hx y hy => ?_, fun x => ?_, fun x => ?_, ?_, h.us⟩
  · rcases (k.take x).mp hx with hx | rfl
    · exact h.sa x hx y (hy.imp (k.sub y) id)
    · rcases hy with hy | hy
      · exact k.drop hA y hy
      · exact hb y hy
  · exact h.sb x hx y (hy.imp (k.sub y) id)
  · rw [List.mem_append, List.mem_singleton, h.mm, k.take]
    constructor
    · rintro (⟨a, b⟩ | rfl)
      · exact ⟨.inl a, b⟩
      · exact ⟨.inr rfl, eB⟩
    · rintro ⟨a | rfl, b⟩
      · exact .inl ⟨a, b⟩
      · exact .inr rfl
  · rw [h.um, k.take]
    constructor
    · rintro ⟨a, b⟩
      exact ⟨a, fun c => c.elim b fun c => eB (c ▸ a)⟩
    · rintro ⟨a, b⟩
      exact ⟨a, fun c => b (.inl c)⟩
  · rw [List.pairwise_append]
    refine ⟨h.ms, List.pairwise_singleton _ _, fun x hx y hy => ?_⟩
    rw [List.mem_singleton.mp hy]
    exact h.sa x ((h.mm x).mp hx).1 e (.inl k.here)
theorem SInv.gt {A B : List Str} (hB : Srtd B) {i j q : Nat} {m u : List Str} {e : Str} (h : SInv A B i j m u) (k : Skp B j e q) (ha : ∀ y ∈ A.drop i, Lt e y) : SInv A B i q m (u ++ [e]) := (h.swap.lt hB k ha).swap
theorem SInv.eq {A B : List Str} (hA : Srtd A) (hB : Srtd B) {i j q r : Nat} {m u : List Str} {e : Str} (h : SInv A B i j m u) (k : Skp A i e q) (l : Skp B j e r) : SInv A B q r m u := by
  have eB : e ∉ B.take j := fun c => Lt.irr e (h.sb e c e (.inl k.here))
  have eA : e ∉ A.take i := fun c => Lt.irr e (h.sa e c e (.inl k.here))
  refine ⟨k.le, l.le, fun x hx y hy => ?_, fun x hx y hy => ?_, fun x => ?_, fun x => ?_, h.ms, h.us⟩
  · rcases (k.take x).mp hx with hx | rfl
    · exact h.sa x hx y (hy.imp (k.sub y) (l.sub y))
    · rcases hy with hy | hy
      · exact k.drop hA y hy
      · exact l.drop hB y hy
  · rcases (l.take x).mp hx with hx | rfl
    · exact h.sb x hx y (hy.imp (k.sub y) (l.sub y))
    · rcases hy with hy | hy
      · exact k.drop hA y hy
      · exact l.drop hB y hy
  · rw [h.mm, k.take, l.take]
    constructor
    · rintro ⟨a, b⟩
      exact ⟨.inl a, fun c => c.elim b fun c => eA (c ▸ a)⟩
    · rintro ⟨a | rfl, b⟩
      · exact ⟨a, fun c => b (.inl c)⟩
      · exact absurd (.inr rfl) b
  · rw [h.um, k.take, l.take]
    constructor
    · rintro ⟨a, b⟩
      exact ⟨.inl a, fun c => c.elim b fun c => eB (c ▸ a)⟩
    · rintro ⟨a | rfl, b⟩
      · exact ⟨a, fun c => b (.inl c)⟩
      · exact absurd (.inr rfl) b
theorem SInv.fin {A B : List Str} {m u : List Str} (h : SInv A B A.length B.length m u) {a b F : List Str} (pA : A.Perm a) (pB : B.Perm b) (sF : sortedS F = true) (pF : F.Perm (fsts (a ++ b))) :
    m = F.filter (fun x => decide (x ∉ b)) ∧ u = F.filter (fun x => decide (x ∉ a)) := by
  have nF : F.Nodup := pF.symm.nodup (fsts_nodup _)
  have hF := strict_of (srtd_of sF) nF
  have mF : ∀ x, x ∈ F ↔ x ∈ a ∨ x ∈ b := fun x => by rw [pF.mem_iff, mem_fsts, List.mem_append]
  constructor
  · refine strict_ext h.ms (hF.sublist (List.filter_sublist)) fun x => ?_
    rw [h.mm, List.take_length, List.take_length, List.mem_filter, mF, decide_eq_true_eq, pA.mem_iff, pB.mem_iff]
    constructor
    · rintro ⟨p, q⟩; exact ⟨.inl p, q⟩
    · rintro ⟨p | p, q⟩
      · exact ⟨p, q⟩
      · exact absurd p q
  · refine strict_ext h.us (hF.sublist (List.filter_sublist)) fun x => ?_
    rw [h.um, List.take_length, List.take_length, List.mem_filter, mF, decide_eq_true_eq, pA.mem_iff, pB.mem_iff]
    constructor
    · rintro ⟨p, q⟩; exact ⟨.inr p, q⟩
    · rintro ⟨p | p, q⟩
      · exact absurd p q
      · exact ⟨p, q⟩

end
-- X1C
section
open PySem PySem.W PyProof.Rows PySem.Calls PySem.Spec PySem.Builtin.Str
structure Loc (env : Env) (x : Str) : Prop where
  k : env.kindOf x = some .local
  d : (x == ("__debug__" : Str)) = false
theorem News_of {h₀ h h' : Heap} {L : Addr} {news : List (Addr × Obj)} (N : News h₀ L h news) (sb : ∀ b, b ≠ L → h'.get? b = h.get? b) : News h₀ L h' news := fun p hp => ⟨(sb _ (N p hp).2.1).trans (N p hp).1, (N p hp).2⟩
section
variable {w : World} {A : Around} {E : Value → Shared → Prop} {s : Shared} {env : Env} {h₀ : Heap} {m : Str → Option Value} {news : List (Addr × Obj)} {l : Addr} {vs : List Value} {ss : List Str} {kk : Nat} {nl ni ne : Str} {x : Str} {tx tp : Tok} {p1 p2 p3 p4 p5 p6 p7 p8 p9 : Pos} {p : Nat} {Q : Flow → Shared → Prop}
theorem incr (hf : env.scope.kind = .function) (ki : Loc env ni) (F : Fr h₀ env.locals s.heap m) (mi : m ni = some (.int (p : Int) tp))
    (hq : ∀ h' tk t', Fr h₀ env.locals h' (fun y => if y = ni then some (.int ((p + 1 : Nat) : Int) t') else m y) → (∀ b, b ≠ env.locals → h'.get? b = s.heap.get? b) → Q .next { s with heap := h', toks := tk }) :
    wpAny (model PG w) A (exec (.AugAssign (.Name ni p1) .Add (.Constant (.int 1) 0 p2) p3) env) Q E s := by
  refine eAug (wpAny_loadName_local hf ki.k F.ns mi (wpAny_Constant_int (PySem.P.iadd_int ?_)))
  refine wpAny_storeName_local ki.k F.ns (fun h ns sb => ?_) (by rw [hf]; rfl)
  exact hq h _ _ (Fr_set F ns sb) sb.2
theorem skipW {q : Nat} (hf : env.scope.kind = .function) (kl : Loc env nl) (ki : Loc env ni) (ke : Loc env ne) (nli : nl ≠ ni) (nei : ne ≠ ni)
    (F : Fr h₀ env.locals s.heap m) (N : News h₀ env.locals s.heap news) (el : h₀.get? l = some (seqObj "list" vs.toArray kk)) (hS : StrsAre vs ss) (h64 : ss.length < 64)
    (ml : m nl = some (.ref l)) (mi : m ni = some (.int (p : Int) tp)) (me : m ne = some (.str x tx)) (hpq : p ≤ q) (hrun : ∀ r, p ≤ r → r < q → ss[r]? = some x) (hstop : ∃ y, ss[q]? = some y ∧ y ≠ x)
    (hE : PassesOwn (model PG w) A env E)
    (hq : ∀ h' tk m' t', Fr h₀ env.locals h' m' → News h₀ env.locals h' news → m' ni = some (.int (q : Int) t') → (∀ y, y ≠ ni → m' y = m y) → Q .next { s with heap := h', toks := tk }) :
    wpAny (model PG w) A (exec (.While (.Compare (.Subscript (.Name nl p1) (.Name ni p2) p3) [.Eq] [.Name ne p4] p5) [.AugAssign (.Name ni p6) .Add (.Constant (.int 1) 0 p7) p8] [] p9) env) Q E s := by
  refine While_inv2 (h₀ := h₀) (fun n m₁ news₁ => news₁ = news ∧ Ex2 fun r t => And5 (n = q - r) (p ≤ r) (r ≤ q) (m₁ ni = some (.int (r : Int) t)) (∀ y, y ≠ ni → m₁ y = m y)) (n₀ := q - p) F N ⟨rfl, p, tp, rfl, Nat.le_refl _, hpq, mi, fun y _ => rfl⟩ ?_ hE
  rintro n m₁ news₁ h₁ tk₁ F₁ N₁ ⟨rfl, r, t, rfl, hpr, hrq, mi₁, mo₁⟩
  obtain ⟨y, hy, hne⟩ : ∃ y, ss[r]? = some y ∧ ((y = x ∧ r < q) ∨ (y ≠ x ∧ r = q)) := by
    by_cases e : r = q
    · obtain ⟨y, a, b⟩ := hstop
      exact ⟨y, e ▸ a, .inr ⟨b, e⟩⟩
    · exact ⟨x, hrun r hpr (by exact ar24 ‹_› ‹_›), .inl ⟨rfl, by exact ar24 ‹_› ‹_›⟩⟩
  have hr : r < vs.length := by rw [hS.length]; exact (List.getElem?_eq_some_iff.mp hy).1
  have hr' : r < ss.length := (List.getElem?_eq_some_iff.mp hy).1
  obtain ⟨y', ty, hv, hs⟩ := Mine.StrsAre.at hS (i := r) (v := vs[r]) (by simp [hr])
  have : y' = y := by rw [hy] at hs; exact (Option.some.inj hs).symm
  subst this
  refine eTst (eSub ?_)
  refine wpAny_Name (wpAny_loadName_local hf kl.k F₁.ns ((mo₁ _ nli).trans ml) ?_) kl.d
  refine wpAny_Name (wpAny_loadName_local hf ki.k F₁.ns mi₁ ?_) ki.d
  refine item_list (items := vs.toArray) ⟨_, F₁.keep _ _ el, rfl, _, rfl⟩ (by exact Int.natCast_nonneg _) (by exact l63 (lc (lR2 _ _) (.h (lS z0) (lN 64) (.h (lS z1) z0 (.g (lS z1) (lN 9223372036854775808)))) lT h64 hr')) (x := .str y' ty) (by rw [Int.toNat_natCast, ← hv]; simp [hr]) ?_ (by with_unfolding_all rfl) (by intro _; with_unfolding_all rfl)
  refine wpAny_Name (wpAny_loadName_local hf ke.k F₁.ns ((mo₁ _ nei).trans me) ?_) ke.d
  refine PySem.P.eq_str (wpAny_truthy_bool ?_)
  rcases hne with ⟨rfl, hlt⟩ | ⟨hne, rfl⟩
  · rw [if_pos (by simp)]
    refine eCons (incr hf ki F₁ mi₁ fun h2 tk2 t2 F₂ sb => ?_)
    exact wpAny_execs_nil ⟨h2, _, _, _, q - (r + 1), rfl, F₂, News_of N₁ sb, by exact lc (lR4 _ _ _ _) (.e (lA z0 (lS z1)) z2 (.h z2 (lA z3 z1) (.g (lS z0) z3))) lT (Nat.sub_add_cancel hlt) (lU _ _), rfl, r + 1, t2, rfl, by exact lc (lR2 _ _) (.h z0 z1 (.g z0 (lS z1))) lT hpr, by exact hlt, if_pos rfl, fun z hz => (if_neg hz).trans (mo₁ z hz)⟩
  · rw [if_neg (by simpa using fun e => hne (ext_l e))]
    exact hq h₁ tk₁ m₁ t F₁ N₁ mi₁ mo₁
theorem skipOut {c : Value} (hf : env.scope.kind = .function) (kl : Loc env nl) (ki : Loc env ni)
    (F : Fr h₀ env.locals s.heap m) (N : News h₀ env.locals s.heap news) (el : h₀.get? l = some (seqObj "list" vs.toArray kk)) (hp : vs.length ≤ p) (h64 : p < 100)
    (ml : m nl = some (.ref l)) (mi : m ni = some (.int (p : Int) tp)) (hE : PassesOwn (model PG w) A env E) (hc : ∀ h', News h₀ env.locals h' news → CtxOf A h' c)
    (hq : ∀ h₁ h' tk e, Fr h₀ env.locals h₁ m → News h₀ env.locals h₁ news → ExcC h₁ h' e "IndexError" c → E (.ref e) { s with heap := h', toks := tk }) :
    wpAny (model PG w) A (exec (.While (.Compare (.Subscript (.Name nl p1) (.Name ni p2) p3) [.Eq] [.Name ne p4] p5) [.AugAssign (.Name ni p6) .Add (.Constant (.int 1) 0 p7) p8] [] p9) env) Q E s := by
  refine While_inv2 (h₀ := h₀) (fun n m₁ news₁ => news₁ = news ∧ m₁ = m) (n₀ := 0) F N ⟨rfl, rfl⟩ ?_ hE
  rintro n m₁ news₁ h₁ tk₁ F₁ N₁ ⟨rfl, rfl⟩
  refine eTst (eSub ?_)
  refine wpAny_Name (wpAny_loadName_local hf kl.k F₁.ns ml ?_) kl.d
  refine wpAny_Name (wpAny_loadName_local hf ki.k F₁.ns mi ?_) ki.d
  exact sub_out (items := vs.toArray) (hc _ N₁) ⟨_, F₁.keep _ _ el, rfl, _, rfl⟩ (by rw [List.size_toArray]; exact hp) (by exact ar9 ‹_› (by decide)) (fun h' tk e x => hq h₁ h' tk e F₁ N₁ x) (by with_unfolding_all rfl) (by intro _; with_unfolding_all rfl)
end

end
-- X1D
section
open PySem PySem.W PyProof.Rows PySem.Calls PySem.Spec PySem.Builtin.Str
set_option maxRecDepth 100000
set_option maxHeartbeats 4000000
noncomputable abbrev SSL : Scope := { kind := .function, names := [(Str.ofString "expected", .local), (Str.ofString "actual", .local), (Str.ofString "i", .local), (Str.ofString "j", .local), (Str.ofString "missing", .local), (Str.ofString "unexpected", .local), (Str.ofString "e", .local), (Str.ofString "a", .local), (Str.ofString "IndexError", .globalImplicit)], isGenerator := false, isCoroutine := false }
noncomputable abbrev SLE (L : Addr) : Env := envOf (Str.ofString "sorted_list_difference") SSL L 121 (.ref 120)
theorem lo (L : Addr) (x : Str) (k : (SLE L).kindOf x = some .local) (d : (x == ("__debug__" : Str)) = false) : Loc (SLE L) x := ⟨k, d⟩
section
variable {w : World} {A : Around} {E : Value → Shared → Prop} {s : Shared} {L : Addr} {h₀ : Heap} {m : Str → Option Value} {rest news : List (Addr × Obj)} {l l2 D : Addr} {vs vs2 wd : List Value} {ss ss2 : List Str} {kk kk2 kd : Nat} {nl ni ne nm : Str} {x : Str} {tx tp tx2 tp2 : Tok} {p q p2 q2 : Nat} {Q : Flow → Shared → Prop}
theorem pushSkip {a1 a2 a3 a4 a5 b1 b2 b3 c1 c2 c3 c4 c5 c6 c7 c8 c9 : Pos} (kl : Loc (SLE L) nl) (ki : Loc (SLE L) ni) (ke : Loc (SLE L) ne) (km : Loc (SLE L) nm) (nli : nl ≠ ni) (nei : ne ≠ ni)
    (F : Fr h₀ L s.heap m) (N : News h₀ L s.heap ((D, seqObj "list" wd.toArray kd) :: rest)) (hr : ∀ r ∈ rest, r.1 ≠ D) (hz : wd.length < 200) (el : h₀.get? l = some (seqObj "list" vs.toArray kk)) (hS : StrsAre vs ss) (h64 : ss.length < 64)
    (mm : m nm = some (.ref D)) (ml : m nl = some (.ref l)) (mi : m ni = some (.int (p : Int) tp)) (me : m ne = some (.str x tx)) (hpq : p < q) (hrun : ∀ r, p ≤ r → r < q → ss[r]? = some x) (hstop : ∃ y, ss[q]? = some y ∧ y ≠ x)
    (hE : PassesOwn (model PG w) A (SLE L) E) (hl : (a2.endLine == a4.line) = true)
    (hq : ∀ h' tk m' t' kd', Fr h₀ L h' m' → News h₀ L h' ((D, seqObj "list" (wd ++ [Value.str x tx]).toArray kd') :: rest) → m' ni = some (.int (q : Int) t') → (∀ y, y ≠ ni → m' y = m y) → Q .next { s with heap := h', toks := tk }) :
    wpAny (model PG w) A (execs [.Expr (.Call (.Attribute (.Name nm a1) (Str.ofString "append") a2) [.Name ne a3] [] a4) a5, .AugAssign (.Name ni b1) .Add (.Constant (.int 1) 0 b2) b3,
      .While (.Compare (.Subscript (.Name nl c1) (.Name ni c2) c3) [.Eq] [.Name ne c4] c5) [.AugAssign (.Name ni c6) .Add (.Constant (.int 1) 0 c7) c8] [] c9] (SLE L)) Q E s := by
  obtain ⟨h, g, d, t, os⟩ := s
  dsimp only at *
  obtain ⟨eD, nDL, nD0⟩ := N _ (.head _)
  dsimp only at eD nDL nD0
  refine eCons (eXpr ?_)
  refine aM1 hl (by rfl) (wpAny_Name (wpAny_loadName_local (by rfl) km.k F.ns mm ?_) km.d)
  with_unfolding_all refine getMethod_list_of PySem.F.slot_list_append PySem.F.type_list_append ⟨_, eD, rfl, _, rfl⟩ (noDict eD) ?_
  refine cwb1 (wpAny_Name (wpAny_loadName_local (by rfl) ke.k F.ns me ?_) ke.d)
  refine append_c (s := ⟨h, g, d, t, os⟩) eD (by rw [sizeLine_eq]; exact ar3 ‹_› (by decide)) fun h1 kd' k1 e1 => ?_
  dsimp only at k1 e1 ⊢
  have F1 : Fr h₀ L h1 m := ⟨F.ns.at' fun o e => k1 _ o (Ne.symm nDL) e, fun b o e => k1 b o (fun q => by rw [q, nD0] at e; cases e) (F.keep b o e), F.above⟩
  have N1 : News h₀ L h1 ((D, seqObj "list" (wd ++ [Value.str x tx]).toArray kd') :: rest) := by
    intro r hr'
    rcases List.mem_cons.mp hr' with rfl | hr'
    · exact ⟨e1, nDL, nD0⟩
    · exact ⟨k1 _ _ (hr r hr') (N r (.tail _ hr')).1, (N r (.tail _ hr')).2⟩
  refine eCons (incr (by rfl) ki F1 mi fun h2 tk2 t2 F2 sb => ?_)
  refine eCons (skipW (p := p + 1) (by rfl) kl ki ke nli nei F2 (News_of N1 sb) el hS h64 ((if_neg nli).trans ml) (if_pos rfl) ((if_neg nei).trans me) hpq (fun r a b => hrun r (by exact ar17 ‹_›) b) hstop hE fun h3 tk3 m3 t3 F3 N3 i3 o3 => ?_)
  exact wpAny_execs_nil (hq h3 tk3 m3 t3 kd' F3 N3 i3 fun y hy => (o3 y hy).trans (if_neg hy))
theorem eqSkip {nk nj na : Str} {b1 b2 b3 c1 c2 c3 c4 c5 c6 c7 c8 c9 d1 d2 d3 e1 e2 e3 e4 e5 e6 e7 e8 e9 t1 : Pos} (kl : Loc (SLE L) nl) (ki : Loc (SLE L) ni) (ke : Loc (SLE L) ne) (kk' : Loc (SLE L) nk) (kj : Loc (SLE L) nj) (ka : Loc (SLE L) na)
    (nli : nl ≠ ni) (nei : ne ≠ ni) (nkj : nk ≠ nj) (naj : na ≠ nj) (nki : nk ≠ ni) (nai : na ≠ ni) (nji : nj ≠ ni)
    (F : Fr h₀ L s.heap m) (N : News h₀ L s.heap news) (el : h₀.get? l = some (seqObj "list" vs.toArray kk)) (hS : StrsAre vs ss) (h64 : ss.length < 64) (el2 : h₀.get? l2 = some (seqObj "list" vs2.toArray kk2)) (hS2 : StrsAre vs2 ss2) (h642 : ss2.length < 64)
    (ml : m nl = some (.ref l)) (mi : m ni = some (.int (p : Int) tp)) (me : m ne = some (.str x tx)) (hpq : p < q) (hrun : ∀ r, p ≤ r → r < q → ss[r]? = some x) (hstop : ∃ y, ss[q]? = some y ∧ y ≠ x)
    (ml2 : m nk = some (.ref l2)) (mi2 : m nj = some (.int (p2 : Int) tp2)) (me2 : m na = some (.str x tx2)) (hpq2 : p2 < q2) (hrun2 : ∀ r, p2 ≤ r → r < q2 → ss2[r]? = some x) (hstop2 : ∃ y, ss2[q2]? = some y ∧ y ≠ x)
    (hq : ∀ h' tk m' t' t2', Fr h₀ L h' m' → News h₀ L h' news → m' ni = some (.int (q : Int) t') → m' nj = some (.int (q2 : Int) t2') → (∀ y, y ≠ ni → y ≠ nj → m' y = m y) → Q .next { s with heap := h', toks := tk }) :
    wpAny (model PG w) A (execs [.AugAssign (.Name ni b1) .Add (.Constant (.int 1) 0 b2) b3,
      .Try [.While (.Compare (.Subscript (.Name nl c1) (.Name ni c2) c3) [.Eq] [.Name ne c4] c5) [.AugAssign (.Name ni c6) .Add (.Constant (.int 1) 0 c7) c8] [] c9] [] []
        [.AugAssign (.Name nj d1) .Add (.Constant (.int 1) 0 d2) d3, .While (.Compare (.Subscript (.Name nk e1) (.Name nj e2) e3) [.Eq] [.Name na e4] e5) [.AugAssign (.Name nj e6) .Add (.Constant (.int 1) 0 e7) e8] [] e9] t1] (SLE L)) Q E s := by
  refine eCons (incr (by rfl) ki F mi fun h1 tk1 u1 F1 sb1 => ?_)
  refine eCons (wpAny_Try_finally ?_)
  refine eCons (skipW (p := p + 1) (by rfl) kl ki ke nli nei F1 (News_of N sb1) el hS h64 ((if_neg nli).trans ml) (if_pos rfl) ((if_neg nei).trans me) hpq (fun r a b => hrun r (by exact ar17 ‹_›) b) hstop PassesOwn.looking fun h2 tk2 m2 t2 F2 N2 i2 o2 => ?_)
  refine wpAny_execs_nil (wpAny_execs_nil ?_)
  refine eCons (incr (p := p2) (by rfl) kj F2 ((o2 _ nji).trans ((if_neg nji).trans mi2)) fun h3 tk3 u3 F3 sb3 => ?_)
  refine eCons (skipW (p := p2 + 1) (by rfl) kk' kj ka nkj naj F3 (News_of N2 sb3) el2 hS2 h642 ((if_neg nkj).trans ((o2 _ nki).trans ((if_neg nki).trans ml2))) (if_pos rfl) ((if_neg naj).trans ((o2 _ nai).trans ((if_neg nai).trans me2))) hpq2 (fun r a b => hrun2 r (by exact ar17 ‹_›) b) hstop2 PassesOwn.looking fun h4 tk4 m4 t4 F4 N4 i4 o4 => ?_)
  refine wpAny_execs_nil (wpAny_execs_nil (hq h4 tk4 m4 t2 t4 F4 N4 ?_ i4 fun y hi hj => ?_))
  · rw [o4 _ (Ne.symm nji)]; exact (if_neg (Ne.symm nji)).trans i2
  · rw [o4 _ hj]; exact (if_neg hj).trans ((o2 _ hi).trans (if_neg hi))
end

end
-- X1E
section
open PySem PySem.W PyProof.Rows PySem.Calls PySem.Spec PySem.Builtin.Str
set_option maxRecDepth 100000
set_option maxHeartbeats 4000000
structure Lnd (h₀ : Heap) (L : Addr) (h : Heap) (m : Str → Option Value) (news : List (Addr × Obj)) (e T : Addr) (cls : String) (c fl : Value) : Prop where
  F : Fr h₀ L h m
  N : News h₀ L h news
  x : XS h e T cls c fl
  fT : T ≠ L ∧ h₀.get? T = none ∧ ∀ p ∈ news, p.1 ≠ T
  fe : e ≠ L ∧ h₀.get? e = none ∧ ∀ p ∈ news, p.1 ≠ e
theorem Fr_other {h₀ h h' : Heap} {L T : Addr} {m : Str → Option Value} (F : Fr h₀ L h m) (n : T ≠ L) (z : h₀.get? T = none) (k : ExtB T h h') : Fr h₀ L h' m :=
  ⟨F.ns.at' fun o e => k _ o (Ne.symm n) e, fun b o e => k b o (fun q => by rw [q, z] at e; cases e) (F.keep b o e), F.above⟩
section
variable {w : World} {A : Around} {E : Value → Shared → Prop} {s : Shared} {L Lo e T l l2 : Addr} {h₀ : Heap} {m : Str → Option Value} {rest news : List (Addr × Obj)} {cls : String} {c fl : Value} {envO : Env} {oLo : Obj}
theorem noteL {h2 : Heap} {Q : Unit → Shared → Prop} (hfr : A.frames = some [SLE L, envO]) (hko : envO.scope.kind ≠ .module) (hfo : envO.frame = some Lo) (hdo : ∀ vs, oLo.data ≠ .fields vs)
    (F : Fr h₀ L h2 m) (N : News h₀ L h2 ((Lo, oLo) :: rest)) (hr : ∀ p ∈ rest, p.1 ≠ Lo) (x : ExcC h2 s.heap e cls c)
    (hq : ∀ h' T sl, Lnd h₀ L h' m ((Lo, { oLo with slots := sl }) :: rest) e T cls c (rawInt L) → Q () { s with heap := h' }) :
    wpAny (model PG w) A (noteFrame (.ref e) (SLE L)) Q E s := by
  obtain ⟨oL, esL, epL, hoL, hdL, hrL⟩ := id F.ns
  obtain ⟨eo, nLo, co⟩ := N _ (.head _)
  refine noteC hfr (show ScopeKind.function ≠ .module from by decide) hko rfl hfo hoL eo (by intro vs q; rw [hdL] at q; cases q) hdo x fun h' T xs nT k ⟨slL, eL⟩ ⟨sl, eLo⟩ => ?_
  have nw := x.new
  refine hq h' T sl ⟨⟨⟨_, esL, epL, eL, hdL, hrL⟩, fun b o z => k b o (fun q => absurd (Heap.lt_size z) (by rw [q]; exact Nat.not_lt.mpr F.above)) (fun q => by rw [q, show h₀.get? Lo = none from co] at z; cases z) (F.keep _ _ z), F.above⟩, ?_, xs, ⟨News_ne F nT, none_of_sub F.keep nT, ?_⟩, ⟨News_ne F nw, none_of_sub F.keep nw, ?_⟩⟩
  · intro p hp
    rcases List.mem_cons.mp hp with rfl | hp
    · exact ⟨eLo, nLo, co⟩
    · exact ⟨k _ _ (N p (.tail _ hp)).2.1 (hr p hp) (N p (.tail _ hp)).1, (N p (.tail _ hp)).2⟩
  · intro p hp
    rcases List.mem_cons.mp hp with rfl | hp
    · exact fresh_ne nT eo
    · exact fresh_ne nT (N p (.tail _ hp)).1
  · intro p hp
    rcases List.mem_cons.mp hp with rfl | hp
    · exact fresh_ne nw eo
    · exact fresh_ne nw (N p (.tail _ hp)).1
theorem Lnd.flown {h h' : Heap} {fl' : Value} (x : Lnd h₀ L h m news e T cls c fl) (y : XS h' e T cls c fl') (k : ExtB T h h') : Lnd h₀ L h' m news e T cls c fl' :=
  ⟨Fr_other x.F x.fT.1 x.fT.2.1 k, fun p hp => ⟨k _ _ (x.fT.2.2 p hp) (x.N p hp).1, (x.N p hp).2⟩, y, x.fT, x.fe⟩
theorem Lnd.obj {h : Heap} (x : Lnd h₀ L h m news e T cls c fl) : Ex3 fun t d sl => News h₀ L h ((e, ⟨.type cls, d, .fields #[t, .ref T, c, .none, .bool false, .none], sl⟩) :: news) := by
  obtain ⟨t, d, sl, he⟩ := x.x.he
  refine ⟨t, d, sl, fun p hp => ?_⟩
  rcases List.mem_cons.mp hp with rfl | hp
  · exact ⟨he, x.fe.1, x.fe.2.1⟩
  · exact x.N p hp
theorem flightL {Q : Unit → Shared → Prop} {f : Option Addr} (x : Lnd h₀ L s.heap m news e T cls c fl) (hq : ∀ h', Lnd h₀ L h' m news e T cls c (f.elim .none fun a => rawInt a) → Q () { s with heap := h' }) : wpAny (model PG w) A (setFlight (.ref e) f) Q E s :=
  flightC x.x fun h' y k => hq h' (x.flown y k)
theorem endSkip {envO : Env} {tp tp2 : Tok} {vs vs2 : List Value} {kk kk2 p p2 : Nat} {nl ni ne nk nj na : Str} {Q : Flow → Shared → Prop} {b1 b2 b3 c1 c2 c3 c4 c5 c6 c7 c8 c9 d1 d2 d3 e1 e2 e3 e4 e5 e6 e7 e8 e9 t1 : Pos}
    (hh : A.handled = none) (hfr : A.frames = some [SLE L, envO]) (hko : envO.scope.kind ≠ .module) (hfo : envO.frame = some Lo) (hdo : ∀ vs, oLo.data ≠ .fields vs)
    (kl : Loc (SLE L) nl) (ki : Loc (SLE L) ni) (kk' : Loc (SLE L) nk) (kj : Loc (SLE L) nj) (nli : nl ≠ ni) (nkj : nk ≠ nj) (nki : nk ≠ ni) (nji : nj ≠ ni)
    (F : Fr h₀ L s.heap m) (N : News h₀ L s.heap ((Lo, oLo) :: rest)) (hr : ∀ p ∈ rest, p.1 ≠ Lo) (el : h₀.get? l = some (seqObj "list" vs.toArray kk)) (el2 : h₀.get? l2 = some (seqObj "list" vs2.toArray kk2))
    (ml : m nl = some (.ref l)) (mi : m ni = some (.int (p : Int) tp)) (hp : vs.length = p + 1) (h64 : p < 64)
    (ml2 : m nk = some (.ref l2)) (mi2 : m nj = some (.int (p2 : Int) tp2)) (hp2 : vs2.length = p2 + 1) (h642 : p2 < 64)
    (hE : ∀ h' tk e T c m' t' t2' sl rest', Lnd h₀ L h' m' ((Lo, { oLo with slots := sl }) :: rest') e T "IndexError" c (rawInt L) → (∀ q ∈ rest, q ∈ rest') → m' ni = some (.int ((p + 1 : Nat) : Int) t') → m' nj = some (.int ((p2 + 1 : Nat) : Int) t2') → (∀ y, y ≠ ni → y ≠ nj → m' y = m y) → E (.ref e) { s with heap := h', toks := tk }) :
    wpAny (model PG w) A (execs [.AugAssign (.Name ni b1) .Add (.Constant (.int 1) 0 b2) b3,
      .Try [.While (.Compare (.Subscript (.Name nl c1) (.Name ni c2) c3) [.Eq] [.Name ne c4] c5) [.AugAssign (.Name ni c6) .Add (.Constant (.int 1) 0 c7) c8] [] c9] [] []
        [.AugAssign (.Name nj d1) .Add (.Constant (.int 1) 0 d2) d3, .While (.Compare (.Subscript (.Name nk e1) (.Name nj e2) e3) [.Eq] [.Name na e4] e5) [.AugAssign (.Name nj e6) .Add (.Constant (.int 1) 0 e7) e8] [] e9] t1] (SLE L)) Q E s := by
  refine eCons (incr (by rfl) ki F mi fun h1 tk1 u1 F1 sb1 => ?_)
  refine eCons (wpAny_Try_finally ?_)
  refine eCons (skipOut (p := p + 1) (c := .none) (by rfl) kl ki F1 (News_of N sb1) el (by exact lc (lR2 _ _) (.e z0 (lS z1) (.g z0 (lS z1))) lT hp) (by exact ar7 ‹_› (by decide)) ((if_neg nli).trans ml) (if_pos rfl) PassesOwn.looking (fun _ _ => .none hh) fun h2 h3 tk3 x1 F2 N2 ex => ?_)
  refine noteL hfr hko hfo hdo F2 N2 hr ex fun h4 T4 sl4 y4 => ?_
  refine ⟨ref_ne_byPass _, againC (L := L) rfl y4.x (flightL (f := none) y4 fun h5 y5 => ?_)⟩
  obtain ⟨te, de, sle, N5⟩ := y5.obj
  refine eCons (incr (p := p2) (by rfl) kj y5.F ((if_neg nji).trans mi2) fun h6 tk6 u6 F6 sb6 => ?_)
  refine eCons (skipOut (p := p2 + 1) (c := .ref x1) (by rfl) kk' kj F6 (News_of N5 sb6) el2 (by exact lc (lR2 _ _) (.e z0 (lS z1) (.g z0 (lS z1))) lT hp2) (by exact ar7 ‹_› (by decide)) ((if_neg nkj).trans ((if_neg nki).trans ml2)) (if_pos rfl) PassesOwn.looking (fun h N => .some x1 _ _ rfl (N _ (.head _)).1 rfl rfl) fun h7 h8 tk8 x2 F7 N7 ex2 => ?_)
  have N7' : News h₀ L h7 ((Lo, { oLo with slots := sl4 }) :: (x1, ⟨.type "IndexError", de, .fields #[te, .ref T4, .none, .none, .bool false, .none], sle⟩) :: rest) := News_pick N7 [1, 0] 2
  refine noteL (oLo := { oLo with slots := sl4 }) hfr hko hfo hdo F7 N7' ?_ ex2 fun h9 T9 sl9 y9 => ?_
  · intro q hq'
    rcases List.mem_cons.mp hq' with rfl | hq'
    · exact Ne.symm (y5.fe.2.2 _ (.head _))
    · exact hr q hq'
  · refine cameC y9.x fun h10 xs10 k10 => ?_
    refine hE h10 _ x2 T9 _ _ u1 u6 sl9 _ (y9.flown xs10 k10) (fun q hq' => .tail _ hq') ?_ (if_pos rfl) fun y hi hj => ?_
    · exact (if_neg (Ne.symm nji)).trans (if_pos rfl)
    · exact (if_neg hj).trans (if_neg hi)
end

end
-- X1F
section
open PySem PySem.W PyProof.Rows PySem.Calls PySem.Spec PySem.Builtin.Str
set_option maxRecDepth 100000
set_option maxHeartbeats 4000000
theorem extend0 {prog : Program} {w : World} {A : Around} {E : Value → Shared → Prop} {s : Shared} {l b : Addr} {vs : List Value} {k k2 : Nat} {Q : Value → Shared → Prop} (e : s.heap.get? l = some (seqObj "list" vs.toArray k)) (e2 : s.heap.get? b = some (seqObj "list" #[] k2)) (hsz : vs.length ≤ 1000)
    (hq : ∀ h' k', (ExtB l s.heap h') → h'.get? l = some (seqObj "list" vs.toArray k') → Q .none { s with heap := h' }) :
    wpAny (model prog w) A (call (.builtin "list.extend") [.ref l, .ref b]) Q E s := by
  refine call_meets PySem.F.slot_list_extend ⟨_, e, rfl⟩ PySem.F.entry_list_extend (PySem.F.args_list_extend_2 _ _) (AutoSeq1.list_extend_list_list_0 l vs.toArray k b #[] k2 ?_ (by rw [sizeLine_eq]; simp; exact ar2 ‹_› (by decide)) (by rw [sizeLine_eq]; simp; exact ar2 ‹_› (by decide))) ⟨e, e2, ?_⟩
  · unfold Builtin.List.listTooLong
    simp [sizeLine_eq]
    lia
  · obtain ⟨k', e2⟩ := upSeq (f := fun xs => xs ++ #[]) (ws := vs) e (by simp)
    exact hq _ _ (fun b o hb he => (Heap.get?_update_other _ _ (Ne.symm hb)).trans he) e2
theorem extLine {w : World} {A : Around} {E : Value → Shared → Prop} {s : Shared} {L D l : Addr} {h₀ : Heap} {m : Str → Option Value} {rest : List (Addr × Obj)} {vs wd : List Value} {kk kd p : Nat} {nl ni nm : Str} {tp : Tok} {Q : Flow → Shared → Prop} {a1 a2 a3 a4 a5 a6 a7 a8 : Pos}
    (kl : Loc (SLE L) nl) (ki : Loc (SLE L) ni) (km : Loc (SLE L) nm)
    (F : Fr h₀ L s.heap m) (N : News h₀ L s.heap ((D, seqObj "list" wd.toArray kd) :: rest)) (hr : ∀ r ∈ rest, r.1 ≠ D) (hz : wd.length < 200) (el : h₀.get? l = some (seqObj "list" vs.toArray kk)) (hp : vs.length = p) (h64 : p < 100)
    (mm : m nm = some (.ref D)) (ml : m nl = some (.ref l)) (mi : m ni = some (.int (p : Int) tp)) (hl : (a2.endLine == a7.line) = true)
    (hq : ∀ h' tk kd', Fr h₀ L h' m → News h₀ L h' ((D, seqObj "list" wd.toArray kd') :: rest) → Q .next { s with heap := h', toks := tk }) :
    wpAny (model PG w) A (exec (.Expr (.Call (.Attribute (.Name nm a1) (Str.ofString "extend") a2) [.Subscript (.Name nl a3) (.Slice (some (.Name ni a4)) none none a5) a6] [] a7) a8) (SLE L)) Q E s := by
  obtain ⟨h, g, d, t, os⟩ := s
  dsimp only at *
  obtain ⟨eD, nDL, nD0⟩ := N _ (.head _)
  dsimp only at eD nDL nD0
  refine eXpr ?_
  refine aM1 hl (by rfl) (wpAny_Name (wpAny_loadName_local (by rfl) km.k F.ns mm ?_) km.d)
  with_unfolding_all refine getMethod_list_of PySem.F.slot_list_extend PySem.F.type_list_extend ⟨_, eD, rfl, _, rfl⟩ (noDict eD) ?_
  refine cwb1 (slc_l (wpAny_Name (wpAny_loadName_local (by rfl) kl.k F.ns ml ?_) kl.d))
  rw [evalPart_some]
  refine wpAny_Name (wpAny_loadName_local (by rfl) ki.k F.ns mi ?_) ki.d
  refine wpAny_pure ?_
  refine ⟨l, vs.toArray, some (p : Int), none, rfl, ⟨_, F.keep _ _ el, rfl, _, rfl⟩, by rw [sizeLine_eq, List.size_toArray]; exact ar3 (ar10 ‹_› ‹_›) (by decide), .int _ _, .none, fun S h1 k1 nS eS => ?_⟩
  rw [slicePick_from _ _ (by rw [List.size_toArray, hp]; exact Nat.le_refl _), List.drop_eq_nil_of_le (by simp [hp])] at eS
  have F1 := Fr_up F k1
  have N1 := News_keep N k1
  refine extend0 (s := ⟨h1, g, d, t, os⟩) (N1 _ (.head _)).1 eS (by exact ar3 ‹_› (by decide)) fun h2 kd' k2 e2 => ?_
  refine hq h2 _ kd' (Fr_other F1 nDL nD0 k2) fun r hr' => ?_
  rcases List.mem_cons.mp hr' with rfl | hr'
  · exact ⟨e2, nDL, nD0⟩
  · exact ⟨k2 _ _ (hr r hr') (N1 r (.tail _ hr')).1, (N1 r (.tail _ hr')).2⟩

end
-- X1G
section
open PySem PySem.W PyProof.Rows PySem.Calls PySem.Spec PySem.Builtin.Str
theorem skp_ex (a : List Str) (x : Str) : ∀ (n i : Nat), n = a.length - i → a[i]? = some x → ∃ q, Skp a i x q := by
  intro n
  induction n with
  | zero => intro i hn hi; have := (List.getElem?_eq_some_iff.mp hi).1; exact False.elim (lc (lR3 _ _ _) (.d (lN 0) z0 (.h (lS z1) z2 (.h z2 (lA z0 z1) .f))) lT hn this (lU _ _))
  | succ n ih =>
    intro i hn hi
    have hil := (List.getElem?_eq_some_iff.mp hi).1
    by_cases h : a[i + 1]? = some x
    · obtain ⟨q, a1, a2, a3, a4⟩ := ih (i + 1) (by exact Nat.le_antisymm (lc (lR5 _ _ _ _ _) (.e (lS z0) z1 (.e (lA z1 z2) z3 (.h z3 (lA z4 (lS z2)) (.g z0 z4)))) lT hn (Nat.sub_add_cancel (lc (lR2 _ _) (.h (lS z0) z1 (.g z0 z1)) lT hil)) (lU _ _)) (lc (lR5 _ _ _ _ _) (.d (lS z0) z1 (.h z2 (lA z1 z3) (.e (lA z4 (lS z3)) z2 (.g z4 z0)))) lT hn (lU _ _) (Nat.sub_add_cancel hil))) h
      refine ⟨q, by exact ar16 ‹_›, a2, fun p h1 h2 => ?_, a4⟩
      by_cases e : p = i
      · rw [e]; exact hi
      · exact a3 p (by lia) h2
    · refine ⟨i + 1, by exact Nat.lt_succ_self _, by exact hil, fun p h1 h2 => ?_, h⟩
      rw [show p = i from by exact Nat.le_antisymm (lc (lR2 _ _) (.h (lS z0) (lS z1) (.g z0 z1)) lT h2) h1]; exact hi
theorem skp_run {a : List Str} {x z : Str} {i q : Nat} (h : Skp a i x q) : ∀ r, i ≤ r → r < q → (a ++ [z])[r]? = some x := fun r h1 h2 => by
  rw [List.getElem?_append_left (by have := h.le; exact ar36 ‹_› ‹_›)]; exact h.at_ r h1 h2
theorem skp_stop {a : List Str} {x z : Str} {i q : Nat} (h : Skp a i x q) (hz : x ≠ z) : ∃ y, (a ++ [z])[q]? = some y ∧ y ≠ x := by
  by_cases e : q < a.length
  · exact ⟨a[q], by rw [List.getElem?_append_left e, List.getElem?_eq_getElem e], fun c => h.no (by rw [List.getElem?_eq_getElem e, c])⟩
  · have : q = a.length := by have := h.le; exact ar25 ‹_› ‹_›
    exact ⟨z, by rw [this]; simp, Ne.symm hz⟩
theorem at_end {a : List Str} {z : Str} {i : Nat} (h : i ≤ a.length) : ∃ x, (a ++ [z])[i]? = some x ∧ ((i < a.length ∧ a[i]? = some x ∧ x ∈ a) ∨ (i = a.length ∧ x = z)) := by
  by_cases e : i < a.length
  · exact ⟨a[i], by rw [List.getElem?_append_left e, List.getElem?_eq_getElem e], .inl ⟨e, List.getElem?_eq_getElem e, List.getElem_mem e⟩⟩
  · have : i = a.length := by exact ar25 ‹_› ‹_›
    exact ⟨z, by rw [this]; simp, .inr ⟨this, rfl⟩⟩
theorem drop_lt {b : List Str} {y x : Str} {j : Nat} (hb : Srtd b) (hy : b[j]? = some y) (h : Lt x y) : ∀ c ∈ b.drop j, Lt x c := by
  intro c hc
  obtain ⟨k, hk⟩ := List.getElem?_of_mem hc
  rw [List.getElem?_drop] at hk
  have hj := (List.getElem?_eq_some_iff.mp hy).1
  have hjk := (List.getElem?_eq_some_iff.mp hk).1
  have ey : b[j] = y := by rw [List.getElem?_eq_getElem hj] at hy; exact Option.some.inj hy
  have ec : b[j + k] = c := by rw [List.getElem?_eq_getElem hjk] at hk; exact Option.some.inj hk
  by_cases e : k = 0
  · subst e; rw [← ec]; show Lt x b[j]; rw [ey]; exact h
  · have := List.pairwise_iff_getElem.mp hb j (j + k) hj hjk (by lia)
    rw [ey, ec] at this
    exact h.of_lt_le this
theorem drop_lt' {b : List Str} {y x z : Str} {j : Nat} (hb : Srtd b) (hy : (j < b.length ∧ b[j]? = some y ∧ y ∈ b) ∨ (j = b.length ∧ y = z)) (h : Lt x y) : ∀ c ∈ b.drop j, Lt x c := by
  rcases hy with hy | ⟨rfl, -⟩
  · exact drop_lt hb hy.2.1 h
  · intro c hc; rw [List.drop_length] at hc; cases hc

end
-- X1H
section
open PySem PySem.W PyProof.Rows PySem.Calls PySem.Spec PySem.Builtin.Str
set_option maxRecDepth 100000
set_option maxHeartbeats 8000000
theorem fetch {w : World} {A : Around} {E : Value → Shared → Prop} {s : Shared} {L l : Addr} {h₀ : Heap} {m : Str → Option Value} {vs : List Value} {ss : List Str} {kk p : Nat} {nl ni ne : Str} {tp : Tok} {x : Str} {Q : Flow → Shared → Prop} {a1 a2 a3 a4 a5 : Pos}
    (kl : Loc (SLE L) nl) (ki : Loc (SLE L) ni) (ke : Loc (SLE L) ne) (F : Fr h₀ L s.heap m) (el : h₀.get? l = some (seqObj "list" vs.toArray kk)) (hS : StrsAre vs ss) (hx : ss[p]? = some x) (h64 : p < 100) (ml : m nl = some (.ref l)) (mi : m ni = some (.int (p : Int) tp))
    (hq : ∀ h' tk tx, Fr h₀ L h' (fun y => if y = ne then some (.str x tx) else m y) → (∀ b, b ≠ L → h'.get? b = s.heap.get? b) → Q .next { s with heap := h', toks := tk }) :
    wpAny (model PG w) A (exec (.Assign [.Name ne a1] (.Subscript (.Name nl a2) (.Name ni a3) a4) a5) (SLE L)) Q E s := by
  have hp : p < vs.length := by rw [hS.length]; exact (List.getElem?_eq_some_iff.mp hx).1
  obtain ⟨y, ty, hv, hs⟩ := Mine.StrsAre.at hS (i := p) (v := vs[p]) (by simp [hp])
  have : y = x := by rw [hx] at hs; exact (Option.some.inj hs).symm
  subst this
  refine eAsg (eSub ?_)
  refine wpAny_Name (wpAny_loadName_local (by rfl) kl.k F.ns ml ?_) kl.d
  refine wpAny_Name (wpAny_loadName_local (by rfl) ki.k F.ns mi ?_) ki.d
  refine item_list (items := vs.toArray) ⟨_, F.keep _ _ el, rfl, _, rfl⟩ (by exact Int.natCast_nonneg _) (by exact l63 (lc (lR1 _) (.h (lS z0) (lN 100) (.g (lS z0) (lN 9223372036854775808))) lT h64)) (x := .str y ty) (by rw [Int.toNat_natCast, ← hv]; simp [hp]) ?_ (by with_unfolding_all rfl) (by intro _; with_unfolding_all rfl)
  refine wpAny_storeName_local ke.k F.ns (fun h ns sb => ?_) (by rfl)
  exact hq h _ ty (Fr_set F ns sb) sb.2
structure SLm (f : Str → Option Value) (l1 l2 D1 D2 : Addr) (i j : Nat) : Prop where
  ex : f (Str.ofString "expected") = some (.ref l1)
  ac : f (Str.ofString "actual") = some (.ref l2)
  mi : f (Str.ofString "missing") = some (.ref D1)
  un : f (Str.ofString "unexpected") = some (.ref D2)
  ii : ∃ t, f (Str.ofString "i") = some (.int (i : Int) t)
  jj : ∃ t, f (Str.ofString "j") = some (.int (j : Int) t)
noncomputable def SLJ (l1 l2 D1 D2 Lo : Addr) (oLo : Obj) (a b : List Str) (n : Nat) (m : Str → Option Value) (news : List (Addr × Obj)) : Prop :=
  Ex8 fun i j wm wu km ku mi un => And8 (n = (a.length - i) + (b.length - j)) (news = [(D1, seqObj "list" (wm : List Value).toArray km), (D2, seqObj "list" (wu : List Value).toArray ku), (Lo, oLo)]) (SLm m l1 l2 D1 D2 i j) (StrsAre wm mi) (StrsAre wu un) (SInv a b i j mi un) (wm.length ≤ i) (wu.length ≤ j)
theorem sorted_diff {w : World} {A : Around} {Q : Value → Shared → Prop} {E : Value → Shared → Prop} {s : Shared} {l1 l2 Lo : Addr} {v1 v2 : List Value} {a b : List Str} {z : Str} {n1 n2 : Nat} {p : Program} {loose : List Str} {mean : ExcName → Option Value} {mg mb : Str → Option Value}
  {hg : Heap} {envO : Env} {oLo : Obj} (kg : Ext hg s.heap) (X : (KF w).In hg) (Tp : Top p loose mean mg mb hg) (go : hg.get? Lo = none)
  (hh : A.handled = none) (hroom : A.depth < recursionLimit) (hfr : A.frames = some [envO]) (hko : envO.scope.kind ≠ .module) (hfo : envO.frame = some Lo)
  (e1 : s.heap.get? l1 = some (seqObj "list" v1.toArray n1)) (e2 : s.heap.get? l2 = some (seqObj "list" v2.toArray n2)) (eo : s.heap.get? Lo = some oLo) (hdo : ∀ x, oLo.data ≠ .fields x) (ho1 : l1 ≠ Lo) (ho2 : l2 ≠ Lo)
  (hS1 : StrsAre v1 (a ++ [z])) (hS2 : StrsAre v2 (b ++ [z])) (ha : Srtd a) (hb : Srtd b) (hz : ∀ x, x ∈ a ∨ x ∈ b → Lt x z) (hn1 : a.length < 60) (hn2 : b.length < 60)
  (hq : ∀ T D1 D2 h' tk w1 w2 c1 c2 sl mi un, (ExtB Lo s.heap h') → h'.get? Lo = some { oLo with slots := sl } → h'.IsTuple T #[.ref D1, .ref D2] → h'.get? D1 = some (seqObj "list" (w1 : List Value).toArray c1) → h'.get? D2 = some (seqObj "list" (w2 : List Value).toArray c2) →
    StrsAre w1 mi → StrsAre w2 un → SInv a b a.length b.length mi un → Q (.ref T) { s with heap := h', toks := tk }) :
   wpAny (model PG w) A (call (.ref 121) [.ref l1, .ref l2]) Q E s := by
  obtain ⟨h, g, d, t, os⟩ := s
  dsimp only at *
  obtain ⟨o3, e3, l31⟩ : ∃ o3, hg.get? 3 = some o3 ∧ nsLook (Str.ofString "IndexError") o3 = pure none := ⟨_, X 3 _ rfl, by kernel_rfl⟩
  obtain ⟨o0, e0, l01⟩ : ∃ o0, hg.get? 0 = some o0 ∧ nsLook (Str.ofString "IndexError") o0 = pure (some (.type "IndexError")) := ⟨_, X 0 _ rfl, by kernel_rfl⟩
  refine enter (binds := [(Str.ofString "expected", .ref l1), (Str.ofString "actual", .ref l2)]) (fun a o e => kg _ _ (X a o e)) (Tp.keeps (fun b o => kg b o)) (by rfl) (by rfl) hroom (BindsTo.of_eq rfl) (locs rfl) (by decide) rfl rfl rfl ?_
  intro h₁ F₀
  have hLL : h.get? h.objs.size = none := Heap.get?_none_of_le (Nat.le_refl _)
  generalize hL : h.objs.size = L at F₀ hLL ⊢
  generalize hE : (fun (e : Value) (s' : Shared) => wpAny (model PG w) (A.deeper (envOf _ _ L 121 _)) (leaving (envOf _ _ L 121 _) e) (fun _ s'' => E e s'') (fun e' s'' => E e' s'') s') = EE
  have hE' : PassesOwn (model PG w) (A.deeper (SLE L)) (SLE L) EE := by rw [← hE]; exact PassesOwn.leaving
  show wpAny _ (A.deeper (SLE L)) (execs _ (SLE L)) _ _ _
  have hh' : (A.deeper (SLE L)).handled = none := hh
  have hfr' : (A.deeper (SLE L)).frames = some [SLE L, envO] := by show A.frames.map _ = _; rw [hfr]; rfl
  generalize A.deeper (SLE L) = A' at hE' hh' hfr' ⊢
  have kc : ∀ b o, hg.get? b = some o → (cut h [Lo]).get? b = some o := fun b o e => cut_some (by
    intro q
    rw [List.mem_singleton.mp q, go] at e; cases e) (kg _ _ e)
  have F : Fr (cut h [Lo]) L h₁ _ := ⟨F₀.ns, cut_stays fun b o _ e => F₀.keep b o e, by rw [cut_size, hL]; exact Nat.le_refl _⟩
  have co : (cut h [Lo]).get? Lo = none := cut_none (by simp)
  have nLo : Lo ≠ L := fun q => by rw [← q, eo] at hLL; cases hLL
  have e1' : (cut h [Lo]).get? l1 = _ := cut_some (by simp [ho1]) e1
  have e2' : (cut h [Lo]).get? l2 = _ := cut_some (by simp [ho2]) e2
  replace eo := F₀.keep _ _ eo
  have hback : ∀ b o, b ≠ Lo → h.get? b = some o → (cut h [Lo]).get? b = some o := fun b o x e => cut_some (by simp [x]) e
  generalize cut h [Lo] = h₀ at kc F co e1' e2' hback
  clear F₀ hL hLL e1 e2 hE
  replace e3 := kc _ _ e3
  replace e0 := kc _ _ e0
  have N : News h₀ L h₁ [(Lo, oLo)] := fun p hp => by rw [List.mem_singleton.mp hp]; exact ⟨eo, nLo, co⟩
  refine eCons (eXpr (Calls.Constant_str ?_))
  refine eCons (asg2 (wpAny_Constant_int ?_))
  refine wpAny_storeName_local (by rfl) F.ns (fun h2 ns2 sb2 => ?_) (by rfl)
  have F2 := Fr_set F ns2 sb2
  refine wpAny_storeName_local (by rfl) F2.ns (fun h3 ns3 sb3 => ?_) (by rfl)
  have F3 := Fr_set F2 ns3 sb3
  have N3 := (N.set sb2).set sb3
  refine eCons (eAsg (lst0 (by rfl) fun D1 h4 k4 nD1 eD1 => ?_))
  dsimp only at k4 nD1 ⊢
  have F4 := Fr_up F3 k4
  have N4 := News_cons F3 nD1 eD1 (News_keep N3 k4)
  refine wpAny_storeName_local (by rfl) F4.ns (fun h5 ns5 sb5 => ?_) (by rfl)
  have F5 := Fr_set F4 ns5 sb5
  have N5 := N4.set sb5
  refine eCons (eAsg (lst0 (by rfl) fun D2 h6 k6 nD2 eD2 => ?_))
  dsimp only at k6 nD2 ⊢
  have F6 := Fr_up F5 k6
  have N6 := News_cons F5 nD2 eD2 (News_keep N5 k6)
  refine wpAny_storeName_local (by rfl) F6.ns (fun h7 ns7 sb7 => ?_) (by rfl)
  have F7 := Fr_set F6 ns7 sb7
  have N7 := N6.set sb7
  have n12 : D1 ≠ D2 := fresh_ne nD2 (N5 _ (.head _)).1
  have n1o : D1 ≠ Lo := Ne.symm (fresh_ne nD1 (N3 _ (.head _)).1)
  have n2o : D2 ≠ Lo := Ne.symm (fresh_ne nD2 (N5 _ (.tail _ (.head _))).1)
  refine eCons ?_
  refine While_inv2 (h₀ := h₀) (L := L) (SLJ l1 l2 D1 D2 Lo oLo a b) (n₀ := (a.length - 0) + (b.length - 0)) F7 (show News h₀ L h7 [(D1, seqObj "list" ([] : List Value).toArray 0), (D2, seqObj "list" ([] : List Value).toArray 0), (Lo, oLo)] from News_some N7 [1, 0, 2]) ⟨0, 0, [], [], 0, 0, [], [], rfl, rfl, ⟨by rfl, by rfl, by rfl, by rfl, ⟨_, by rfl⟩, ⟨_, by rfl⟩⟩, .nil, .nil, SInv.start a b, Nat.le_refl _, Nat.le_refl _⟩ ?_ hE'
  · rintro n m₁ news₁ H₁ tk₁ F₁ N₁ ⟨i, j, wm, wu, km, ku, mi, un, rfl, rfl, sm, hM, hU, hI, hwm, hwu⟩
    clear F F2 F3 F4 F5 F6 F7 N N3 N4 N5 N6 N7 ns2 ns3 ns5 ns7 sb2 sb3 sb5 sb7 k4 k6 nD1 nD2 eD1 eD2
    refine wpAny_isTrue_value (wpAny_Constant_bool (wpAny_truthy_bool ?_))
    rw [if_pos rfl]
    refine cutQ1 fun Q₁ hQ₁ => ?_
    obtain ⟨x, hx, hxc⟩ := at_end (z := z) hI.hi
    obtain ⟨y, hy, hyc⟩ := at_end (z := z) hI.hj
    obtain ⟨ti, mi_⟩ := sm.ii
    obtain ⟨tj, mj_⟩ := sm.jj
    have hil := hI.hi
    have hjl := hI.hj
    refine eCons (wpAny_Try_except ?_)
    refine eCons (fetch (lo L _ (by rfl) (by decide)) (lo L _ (by rfl) (by decide)) (lo L _ (by rfl) (by decide)) F₁ e1' hS1 hx (by exact lc (lR2 _ _) (.h (lS z0) (lN 60) (.h z1 z0 (.g (lS z1) (lN 100)))) lT hn1 hil) sm.ex mi_ fun H₂ tk₂ tx F₂ sb₂ => ?_)
    refine eCons (fetch (lo L _ (by rfl) (by decide)) (lo L _ (by rfl) (by decide)) (lo L _ (by rfl) (by decide)) F₂ e2' hS2 hy (by exact lc (lR2 _ _) (.h (lS z0) (lN 60) (.h z1 z0 (.g (lS z1) (lN 100)))) lT hn2 hjl) (by exact sm.ac) (by exact mj_) fun H₃ tk₃ ty F₃ sb₃ => ?_)
    have N₃ := News_of (News_of N₁ sb₂) sb₃
    clear F₁ F₂ N₁ sb₂ sb₃
    refine eCons (wpAny_If (eTst ?_))
    refine wpAny_Name (wpAny_loadName_local (by rfl) (by rfl) F₃.ns (by rfl) ?_)
    refine wpAny_Name (wpAny_loadName_local (by rfl) (by rfl) F₃.ns (by rfl) ?_)
    refine PySem.P.lt_str (wpAny_truthy_bool ?_)
    obtain ⟨m₃, F₄, s3, m3e, m3a⟩ : ∃ m, And4 (Fr h₀ L H₃ m) (SLm m l1 l2 D1 D2 i j) (m (Str.ofString "e") = some (.str x tx)) (m (Str.ofString "a") = some (.str y ty)) := ⟨_, F₃, ⟨by exact sm.ex, by exact sm.ac, by exact sm.mi, by exact sm.un, ⟨ti, by exact mi_⟩, ⟨tj, by exact mj_⟩⟩, by rfl, by rfl⟩
    clear mi_ mj_ sm F₃
    obtain ⟨ti, mi_⟩ := s3.ii
    obtain ⟨tj, mj_⟩ := s3.jj
    have zx : ∀ c, (c ∈ a ∨ c ∈ b) → c ≠ z := fun c hc => (hz c hc).ne
    have ki := lo L (Str.ofString "i") (by rfl) (by decide)
    have kj := lo L (Str.ofString "j") (by rfl) (by decide)
    have ke := lo L (Str.ofString "e") (by rfl) (by decide)
    have ka := lo L (Str.ofString "a") (by rfl) (by decide)
    have kx := lo L (Str.ofString "expected") (by rfl) (by decide)
    have ky := lo L (Str.ofString "actual") (by rfl) (by decide)
    have km_ := lo L (Str.ofString "missing") (by rfl) (by decide)
    have ku_ := lo L (Str.ofString "unexpected") (by rfl) (by decide)
    have l1' : (a ++ [z]).length < 64 := by simp; exact ar7 ‹_› (by decide)
    have l2' : (b ++ [z]).length < 64 := by simp; exact ar7 ‹_› (by decide)
    by_cases h1 : Lt x y
    · rw [if_pos (by simpa [Lt] using h1)]
      obtain ⟨hi, hxa, hxm⟩ : i < a.length ∧ a[i]? = some x ∧ x ∈ a := by
        rcases hxc with hc | ⟨-, rfl⟩
        · exact hc
        · rcases hyc with ⟨-, -, hc⟩ | ⟨-, rfl⟩
          · exact absurd (h1.trans (hz _ (.inr hc))) (Lt.irr _)
          · exact absurd h1 (Lt.irr _)
      obtain ⟨q, hk⟩ := skp_ex a x _ i rfl hxa
      refine pushSkip (ss := a ++ [z]) (q := q) kx ki ke km_ (by decide) (by decide) F₄ N₃ ?_ (by exact lc (lR3 _ _ _) (.h (lS z0) (lN 60) (.h z1 z2 (.h (lS z2) z0 (.g (lS z1) (lN 200))))) lT hn1 hwm hi) e1' hS1 l1' s3.mi s3.ex mi_ m3e hk.gt (skp_run hk) (skp_stop hk (zx x (.inl hxm))) PassesOwn.looking (by rfl) fun h' tk m' t' kd' F' N' i' o' => ?_
      · exact fcons (Ne.symm n12) (fcons (Ne.symm n1o) fnil)
      · refine wpAny_execs_nil (wpAny_execs_nil (wpAny_execs_nil (hQ₁ _ _ (ws2 F' N' ?_ ⟨q, j, _, wu, kd', ku, _, un, rfl, rfl, ⟨(o' _ (by decide)).trans s3.ex, (o' _ (by decide)).trans s3.ac, (o' _ (by decide)).trans s3.mi, (o' _ (by decide)).trans s3.un, ⟨t', i'⟩, ⟨tj, (o' _ (by decide)).trans mj_⟩⟩, Mine.StrsAre.snoc hM x tx, hU, hI.lt ha hk (drop_lt' hb hyc h1), ?_, hwu⟩))))
        · exact lc (lR6 _ _ _ _ _ _) (.h (lS z0) z1 (.e (lA z2 z1) z3 (.h z3 (lA z4 z0) (.g (lS (lA z2 z5)) (lA z4 z5))))) lT hk.gt (Nat.sub_add_cancel hk.le) (lU _ _)
        · have := hk.gt; simp; exact lc (lR3 _ _ _) (.h z0 z1 (.h (lS z1) z2 (.g (lS z0) z2))) lT hwm this
    · rw [if_neg (by simpa [Lt] using h1)]
      refine eCons (wpAny_If (eTst ?_))
      refine wpAny_Name (wpAny_loadName_local (by rfl) (by rfl) F₄.ns m3e ?_)
      refine wpAny_Name (wpAny_loadName_local (by rfl) (by rfl) F₄.ns m3a ?_)
      refine PySem.P.gt_str (wpAny_truthy_bool ?_)
      by_cases h2 : Lt y x
      · rw [if_pos (by simpa [Lt] using h2)]
        obtain ⟨hj, hyb, hym⟩ : j < b.length ∧ b[j]? = some y ∧ y ∈ b := by
          rcases hyc with hc | ⟨-, rfl⟩
          · exact hc
          · rcases hxc with ⟨-, -, hc⟩ | ⟨-, rfl⟩
            · exact absurd (h2.trans (hz _ (.inl hc))) (Lt.irr _)
            · exact absurd h2 (Lt.irr _)
        obtain ⟨q, hk⟩ := skp_ex b y _ j rfl hyb
        have N₃' : News h₀ L H₃ [(D2, seqObj "list" wu.toArray ku), (D1, seqObj "list" wm.toArray km), (Lo, oLo)] := News_some N₃ [1, 0, 2]
        refine pushSkip (ss := b ++ [z]) (q := q) ky kj ka ku_ (by decide) (by decide) F₄ N₃' ?_ (by exact lc (lR3 _ _ _) (.h (lS z0) (lN 60) (.h z1 z2 (.h (lS z2) z0 (.g (lS z1) (lN 200))))) lT hn2 hwu hj) e2' hS2 l2' s3.un s3.ac mj_ m3a hk.gt (skp_run hk) (skp_stop hk (zx y (.inr hym))) PassesOwn.looking (by rfl) fun h' tk m' t' kd' F' N' i' o' => ?_
        · exact fcons (n12) (fcons (Ne.symm n2o) fnil)
        · refine wpAny_execs_nil (wpAny_execs_nil (wpAny_execs_nil (wpAny_execs_nil (hQ₁ _ _ (ws2 F' (show News h₀ L h' [(D1, seqObj "list" wm.toArray km), (D2, seqObj "list" (wu ++ [Value.str y ty]).toArray kd'), (Lo, oLo)] from News_some N' [1, 0, 2]) ?_ ⟨i, q, wm, _, km, kd', mi, _, rfl, rfl, ⟨(o' _ (by decide)).trans s3.ex, (o' _ (by decide)).trans s3.ac, (o' _ (by decide)).trans s3.mi, (o' _ (by decide)).trans s3.un, ⟨ti, (o' _ (by decide)).trans mi_⟩, ⟨t', i'⟩⟩, hM, Mine.StrsAre.snoc hU y ty, hI.gt hb hk (drop_lt' ha hxc h2), hwm, ?_⟩)))))
          · exact lc (lR6 _ _ _ _ _ _) (.h (lS z0) z1 (.e (lA z2 z1) z3 (.h z3 (lA z4 z0) (.g (lS (lA z5 z2)) (lA z5 z4))))) lT hk.gt (Nat.sub_add_cancel hk.le) (lU _ _)
          · have := hk.gt; simp; exact lc (lR3 _ _ _) (.h z0 z1 (.h (lS z1) z2 (.g (lS z0) z2))) lT hwu this
      · rw [if_neg (by simpa [Lt] using h2)]
        have hxy : x = y := by
          by_cases e : x = y
          · exact e
          · exact absurd (Lt.of_le h2 e) h1
        subst hxy
        by_cases hxz : x = z
        · have hia : i = a.length := by
            rcases hxc with ⟨-, -, hc⟩ | ⟨hc, -⟩
            · exact absurd hxz (zx x (.inl hc))
            · exact hc
          have hjb : j = b.length := by
            rcases hyc with ⟨-, -, hc⟩ | ⟨hc, -⟩
            · exact absurd hxz (zx x (.inr hc))
            · exact hc
          have N₃' : News h₀ L H₃ [(Lo, oLo), (D1, seqObj "list" wm.toArray km), (D2, seqObj "list" wu.toArray ku)] := News_some N₃ [2, 0, 1]
          have lv1 : v1.length = i + 1 := by rw [hS1.length, hia]; simp
          have lv2 : v2.length = j + 1 := by rw [hS2.length, hjb]; simp
          refine endSkip hh' hfr' hko hfo hdo kx ki ky kj (by decide) (by decide) (by decide) (by decide) F₄ N₃' ?_ e1' e2' s3.ex mi_ lv1 (by exact ar1 (ar10 ‹_› ‹_›) (by decide)) s3.ac mj_ lv2 (by exact ar1 (ar10 ‹_› ‹_›) (by decide)) fun H₅ tk5 e T c m₅ t5 u5 sl rest' y5 hrest mi5 mj5 mo5 => ?_
          · exact fcons (n1o) (fcons (n2o) fnil)
          · refine againC (L := L) rfl y5.x (flightL (f := none) y5 fun H₆ y6 => ?_)
            refine wpAny_handleBy_builtin (X := "IndexError") (T := "IndexError") (b := true) (by kernel_rfl) (by kernel_rfl) (by kernel_rfl) ?_
            obtain ⟨te, de, se, he6⟩ := y6.x.he
            refine wpAny_Name (ldB (by rfl) (by rfl) (by rfl) (by rfl) (y6.F.keep _ _ e3) l31 (y6.F.keep _ _ e0) l01 ?_)
            refine ⟨rfl, ⟨_, he6, rfl⟩, ?_⟩
            rw [if_pos rfl]
            refine flightL (f := none) y6 fun H₇ y7 => ?_
            have N7 : News h₀ L H₇ [(D1, seqObj "list" wm.toArray km), (D2, seqObj "list" wu.toArray ku), (Lo, { oLo with slots := sl })] := News_sub y7.N (fcons (.tail _ (hrest _ (.head _))) (fcons (.tail _ (hrest _ (.tail _ (.head _)))) (fcons (.head _) fnil)))
            refine eCons (extLine kx ki km_ y7.F N7 ?_ (by exact lc (lR3 _ _ _) (.h (lS z0) (lN 60) (.h z1 z2 (.e z2 z0 (.g (lS z1) (lN 200))))) lT hn1 hwm hia) e1' lv1 (by exact ar7 (ar10 ‹_› ‹_›) (by decide)) ((mo5 _ (by decide) (by decide)).trans s3.mi) ((mo5 _ (by decide) (by decide)).trans s3.ex) mi5 (by rfl) fun H₈ tk8 km8 F8 N8 => ?_)
            · exact fcons (Ne.symm n12) (fcons (Ne.symm n1o) fnil)
            have N8' : News h₀ L H₈ [(D2, seqObj "list" wu.toArray ku), (D1, seqObj "list" wm.toArray km8), (Lo, { oLo with slots := sl })] := News_some N8 [1, 0, 2]
            refine eCons (extLine ky kj ku_ F8 N8' ?_ (by exact lc (lR3 _ _ _) (.h (lS z0) (lN 60) (.h z1 z2 (.e z2 z0 (.g (lS z1) (lN 200))))) lT hn2 hwu hjb) e2' lv2 (by exact ar7 (ar10 ‹_› ‹_›) (by decide)) ((mo5 _ (by decide) (by decide)).trans s3.un) ((mo5 _ (by decide) (by decide)).trans s3.ac) mj5 (by rfl) fun H₉ tk9 ku9 F9 N9 => ?_)
            · exact fcons (n12) (fcons (Ne.symm n2o) fnil)
            refine eCons (wpAny_Break (hQ₁ _ _ ?_))
            refine eCons (eRet (tup2 (by rfl) ?_))
            refine wpAny_Name (wpAny_loadName_local (by rfl) (by rfl) F9.ns ((mo5 _ (by decide) (by decide)).trans s3.mi) ?_)
            refine wpAny_Name (wpAny_loadName_local (by rfl) (by rfl) F9.ns ((mo5 _ (by decide) (by decide)).trans s3.un) fun T HT kT nT tT => ?_)
            subst hia hjb
            exact hq T D1 D2 HT _ wm wu km8 ku9 sl mi un (fun b o x e => kT _ _ (F9.keep _ _ (hback b o x e))) (kT _ _ (N9 _ (.tail _ (.tail _ (.head _)))).1) tT (kT _ _ (N9 _ (.tail _ (.head _))).1) (kT _ _ (N9 _ (.head _)).1) hM hU hI
        · obtain ⟨hi, hxa, hxm⟩ : i < a.length ∧ a[i]? = some x ∧ x ∈ a := by
            rcases hxc with hc | ⟨-, hc⟩
            · exact hc
            · exact absurd hc hxz
          obtain ⟨hj, hyb, hym⟩ : j < b.length ∧ b[j]? = some x ∧ x ∈ b := by
            rcases hyc with hc | ⟨-, hc⟩
            · exact hc
            · exact absurd hc hxz
          obtain ⟨q, hk⟩ := skp_ex a x _ i rfl hxa
          obtain ⟨q2, hk2⟩ := skp_ex b x _ j rfl hyb
          refine eqSkip (ss := a ++ [z]) (ss2 := b ++ [z]) (q := q) (q2 := q2) kx ki ke ky kj ka (by decide) (by decide) (by decide) (by decide) (by decide) (by decide) (by decide) F₄ N₃ e1' hS1 l1' e2' hS2 l2' s3.ex mi_ m3e hk.gt (skp_run hk) (skp_stop hk hxz) s3.ac mj_ m3a hk2.gt (skp_run hk2) (skp_stop hk2 hxz) fun h' tk m' t' t2' F' N' i' j' o' => ?_
          refine wpAny_execs_nil (wpAny_execs_nil (wpAny_execs_nil (wpAny_execs_nil (hQ₁ _ _ (ws2 F' N' ?_ ⟨q, q2, wm, wu, km, ku, mi, un, rfl, rfl, ⟨(o' _ (by decide) (by decide)).trans s3.ex, (o' _ (by decide) (by decide)).trans s3.ac, (o' _ (by decide) (by decide)).trans s3.mi, (o' _ (by decide) (by decide)).trans s3.un, ⟨t', i'⟩, ⟨t2', j'⟩⟩, hM, hU, hI.eq ha hb hk hk2, ?_, ?_⟩)))))
          · exact Nat.add_lt_add_of_lt_of_le (lc (lR5 _ _ _ _ _) (.h (lS z0) z1 (.e (lA z2 z1) z3 (.h z3 (lA z4 z0) (.g (lS z2) z4)))) lT hk.gt (Nat.sub_add_cancel hk.le) (lU _ _)) (Nat.sub_le_sub_left (Nat.le_of_lt hk2.gt) _)
          · have := hk.gt; exact lc (lR3 _ _ _) (.h z0 z1 (.h (lS z1) z2 (.g z0 z2))) lT hwm this
          · have := hk2.gt; exact lc (lR3 _ _ _) (.h z0 z1 (.h (lS z1) z2 (.g z0 z2))) lT hwu this

end
-- V3L
section
open PySem PySem.W PyProof.Rows PySem.Calls PySem.Spec PySem.Builtin.Str
theorem cwb0 {M : Model} {A : Around} {E : Value → Shared → Prop} {s : Shared} {pos : Pos} {first : List Value} {Q : Value → Shared → Prop} {id : String} (h : wpAny M A (call (.builtin id) first) Q E s) : wpAny M A (callWith pos (.builtin id) first [] []) Q E s := Calls.callWith_builtin rfl (evalArgs_nil3 (by rw [List.append_nil]; exact h))
set_option maxRecDepth 100000 in
set_option maxHeartbeats 4000000 in
theorem unorderable {w : World} {A : Around} {Q : Value → Shared → Prop} {E : Value → Shared → Prop} {s : Shared} {l1 l2 Lo : Addr} {v1 v2 : List Value} {s1 s2 : List Str} {n1 n2 : Nat} {p : Program} {loose : List Str} {mean : ExcName → Option Value} {mg mb : Str → Option Value}
  {hg : Heap} {envO : Env} {oLo : Obj} (kg : Ext hg s.heap) (X : (KF w).In hg) (Tp : Top p loose mean mg mb hg) (g1 : hg.get? l1 = none) (g2 : hg.get? l2 = none) (go : hg.get? Lo = none)
  (hh : A.handled = none) (hroom : A.depth < recursionLimit) (hfr : A.frames = some [envO]) (hko : envO.scope.kind ≠ .module) (hfo : envO.frame = some Lo)
  (e1 : s.heap.get? l1 = some (seqObj "list" v1.toArray n1)) (e2 : s.heap.get? l2 = some (seqObj "list" v2.toArray n2)) (eo : s.heap.get? Lo = some oLo) (hdo : ∀ x, oLo.data ≠ .fields x) (ho1 : Lo ≠ l1) (ho2 : Lo ≠ l2) (h12 : l1 ≠ l2)
  (hS1 : StrsAre v1 s1) (hS2 : StrsAre v2 s2) (hn1 : s1.length < 64) (hn2 : s2.length < 64)
  (hq : ∀ T D h' tk w1 w2 c1 c2 sl, (∀ b o, b ≠ l1 → b ≠ l2 → b ≠ Lo → s.heap.get? b = some o → h'.get? b = some o) → h'.get? Lo = some { oLo with slots := sl } → h'.IsTuple T #[.ref D, .ref l2] → h'.get? D = some (seqObj "list" (w1 : List Value).toArray c1) → h'.get? l2 = some (seqObj "list" (w2 : List Value).toArray c2) →
    StrsAre w1 (uno s1 s2).1 → StrsAre w2 (uno s1 s2).2 → Q (.ref T) { s with heap := h', toks := tk }) :
   wpAny (model PG w) A (call (.ref 128) [.ref l1, .ref l2]) Q E s := by
  obtain ⟨h, g, d, t, os⟩ := s
  dsimp only at *
  obtain ⟨o3, tt3, e3, l31⟩ : ∃ o3, And3 (notTab o3 = true) (hg.get? 3 = some o3) (nsLook (Str.ofString "ValueError") o3 = pure none) := ⟨_, by kernel_rfl, X 3 _ rfl, by kernel_rfl⟩
  obtain ⟨o0, e0, l01⟩ : ∃ o0, hg.get? 0 = some o0 ∧ nsLook (Str.ofString "ValueError") o0 = pure (some (.type "ValueError")) := ⟨_, X 0 _ rfl, by kernel_rfl⟩
  refine enter (binds := [(Str.ofString "expected", .ref l1), (Str.ofString "actual", .ref l2)]) (fun a o e => kg _ _ (X a o e)) (Tp.keeps (fun b o => kg b o)) (by rfl) (by rfl) hroom (BindsTo.of_eq rfl) (locs rfl) (by decide) rfl rfl rfl ?_
  intro h₁ F₀
  have hLL : h.get? h.objs.size = none := Heap.get?_none_of_le (Nat.le_refl _)
  generalize hL : h.objs.size = L at F₀ hLL ⊢
  have kc : ∀ b o, hg.get? b = some o → (cut h [l1, l2, Lo]).get? b = some o := fun b o e => cut_some (by
    intro q
    simp only [List.mem_cons, List.not_mem_nil, or_false] at q
    rcases q with rfl | rfl | rfl
    · rw [g1] at e; cases e
    · rw [g2] at e; cases e
    · rw [go] at e; cases e) (kg _ _ e)
  have F : Fr (cut h [l1, l2, Lo]) L h₁ _ := ⟨F₀.ns, cut_stays fun b o _ e => F₀.keep b o e, by rw [cut_size, hL]; exact Nat.le_refl _⟩
  have c1 : (cut h [l1, l2, Lo]).get? l1 = none := cut_none (by simp)
  have c2 : (cut h [l1, l2, Lo]).get? l2 = none := cut_none (by simp)
  have co : (cut h [l1, l2, Lo]).get? Lo = none := cut_none (by simp)
  have nL1 : l1 ≠ L := fun q => by rw [← q, e1] at hLL; cases hLL
  have nL2 : l2 ≠ L := fun q => by rw [← q, e2] at hLL; cases hLL
  have nLo : Lo ≠ L := fun q => by rw [← q, eo] at hLL; cases hLL
  replace e1 := F₀.keep _ _ e1
  replace e2 := F₀.keep _ _ e2
  replace eo := F₀.keep _ _ eo
  have hback : ∀ b o, b ≠ l1 → b ≠ l2 → b ≠ Lo → h.get? b = some o → (cut h [l1, l2, Lo]).get? b = some o := fun b o x y z e => cut_some (by simp [x, y, z]) e
  generalize cut h [l1, l2, Lo] = h₀ at kc F c1 c2 co hback
  clear F₀ hL hLL
  replace e3 := kc _ _ e3
  replace e0 := kc _ _ e0
  refine eCons (eXpr (Calls.Constant_str ?_))
  refine eCons (eAsg (lst0 (by rfl) fun D h2 k2 nD eD => ?_))
  dsimp only at k2 nD ⊢
  have nDL : D ≠ L := fun q => by
    obtain ⟨o, _, _, a, _⟩ := F.ns
    rw [q, show h₁.get? L = some _ from a] at nD; cases nD
  have nD0 : h₀.get? D = none := none_of_sub F.keep nD
  have nD1 : D ≠ l1 := fun q => by rw [q, e1] at nD; cases nD
  have nD2 : D ≠ l2 := fun q => by rw [q, e2] at nD; cases nD
  have nDo : D ≠ Lo := fun q => by rw [q, eo] at nD; cases nD
  replace F := Fr_up F k2
  refine wpAny_storeName_local (by rfl) F.ns (fun h3 ns3 sb3 => ?_) (by rfl)
  replace F := Fr_set F ns3 sb3
  replace eD := (sb3.2 D nDL).trans eD
  replace e1 := (sb3.2 l1 nL1).trans (k2 _ _ e1)
  replace e2 := (sb3.2 l2 nL2).trans (k2 _ _ e2)
  replace eo := (sb3.2 Lo nLo).trans (k2 _ _ eo)
  have hlen1 : v1.length = s1.length := hS1.length
  have N : News h₀ L h3 [(D, seqObj "list" ([] : List Value).toArray 0), (l1, seqObj "list" v1.toArray n1), (l2, seqObj "list" v2.toArray n2), (Lo, oLo)] := fcons ⟨eD, nDL, nD0⟩ (fcons ⟨e1, nL1, c1⟩ (fcons ⟨e2, nL2, c2⟩ (fcons ⟨eo, nLo, co⟩ fnil)))
  clear e1 e2 eo eD nD ns3 sb3 k2
  refine eCons ?_
  refine While_inv2 (h₀ := h₀) (L := L) (fun n m news => Ex6 fun wd wa ka kd ke sl => And7 (m (Str.ofString "missing") = some (.ref D)) (m (Str.ofString "expected") = some (.ref l1)) (m (Str.ofString "actual") = some (.ref l2)) (n ≤ s1.length) (news = [(D, seqObj "list" (wd : List Value).toArray kd), (l1, seqObj "list" (v1.take n).toArray ke), (l2, seqObj "list" (wa : List Value).toArray ka), (Lo, { oLo with slots := sl })]) (StrsAre wd ((s1.drop n).reverse.foldl unoStep ([], s2)).1) (StrsAre wa ((s1.drop n).reverse.foldl unoStep ([], s2)).2)) (n₀ := s1.length) F N ?_ ?_
  · refine ⟨[], v2, n2, 0, n1, oLo.slots, by rfl, by rfl, by rfl, Nat.le_refl _, ?_, ?_, ?_⟩
    · rw [← hlen1, List.take_length]
    · rw [List.drop_length]; exact .nil
    · rw [List.drop_length]; exact hS2
  · rintro n m₁ news₁ H₁ tk₁ F₁ N₁ ⟨wd, wa, ka, kd, ke, sl, hm1, hm2, hm3, hn, rfl, hd, ha⟩
    have eD₁ := (N₁ _ (.head _)).1
    have e1₁ := (N₁ _ (.tail _ (.head _))).1
    have e2₁ := (N₁ _ (.tail _ (.tail _ (.head _)))).1
    have eo₁ := (N₁ _ (.tail _ (.tail _ (.tail _ (.head _))))).1
    dsimp only at eD₁ e1₁ e2₁ eo₁
    obtain ⟨lw1, lw2⟩ := uno_len (s1.drop n).reverse ([], s2)
    rw [List.length_reverse, List.length_drop] at lw1
    rw [← hd.length, List.length_nil] at lw1
    rw [← ha.length] at lw2
    dsimp only at lw2
    dsimp only
    refine wpAny_isTrue_value (wpAny_Name (wpAny_loadName_local (by rfl) (by rfl) F₁.ns hm2 ?_))
    refine wpAny_truthy_list (items := (v1.take n).toArray) ⟨_, e1₁, rfl, _, rfl⟩ (by rw [List.size_toArray, List.length_take]; exact l63 (lc (lR3 _ _ _) (.h (lS z0) (lN 64) (.e z1 z0 (.h z2 z1 (.g (lS z2) (lN 9223372036854775808))))) lT hn1 hlen1 (Nat.min_le_right _ _))) ?_
    cases n with
    | zero =>
      rw [if_neg (by simp)]
      refine eCons (eRet (tup2 (by rfl) ?_))
      refine wpAny_Name (wpAny_loadName_local (by rfl) (by rfl) F₁.ns hm1 ?_)
      refine wpAny_Name (wpAny_loadName_local (by rfl) (by rfl) F₁.ns hm3 fun T hT kT nT eT => ?_)
      refine hq T D hT _ wd wa kd ka sl (fun b o x y z e => kT _ _ (F₁.keep _ _ (hback b o x y z e))) (kT _ _ eo₁) eT (kT _ _ eD₁) (kT _ _ e2₁) hd ha
    | succ n =>
      have hnl : n < v1.length := by exact ar39 ‹_› ‹_›
      obtain ⟨x, tx, hvx, hsx⟩ := Mine.StrsAre.at hS1 (i := n) (v := v1[n]) (by simp [hnl])
      have htk : v1.take (n + 1) = v1.take n ++ [.str x tx] := take_snoc (by rw [← hvx]; simp [hnl])
      rw [if_pos (by rw [htk]; simp)]
      refine cutQ1 fun Q₁ hQ₁ => ?_
      rw [htk] at e1₁ N₁
      refine eCons (eAsg (aM0 (by rfl) (wpAny_Name (wpAny_loadName_local (by rfl) (by rfl) F₁.ns hm2 ?_))))
      with_unfolding_all refine getMethod_list_of PySem.F.slot_list_pop PySem.F.type_list_pop ⟨_, e1₁, rfl, _, rfl⟩ (noDict e1₁) ?_
      refine cwb0 ?_
      show wpAny _ _ (call (.builtin "list.pop") [.ref l1]) _ _ _
      refine pop_c e1₁ (by rw [sizeLine_eq, List.length_take]; exact lc (lR3 _ _ _) (.h (lS z0) (lN 64) (.e z1 z0 (.h z2 z1 (.g (lS z2) (lN 16777216))))) lT hn1 hlen1 (Nat.min_le_right _ _)) fun H₂ ke' k2 e1₂ => ?_
      have F₂ : Fr h₀ L H₂ m₁ := ⟨F₁.ns.at' fun o e => k2 _ o (Ne.symm nL1) e, fun b o e => k2 b o (fun q => by rw [q, c1] at e; cases e) (F₁.keep b o e), F₁.above⟩
      refine wpAny_storeName_local (by rfl) F₂.ns (fun H₃ ns3 sb3 => ?_) (by rfl)
      have F₃ := Fr_set F₂ ns3 sb3
      have eD₃ := (sb3.2 D nDL).trans (k2 _ _ nD1 eD₁)
      have e1₃ := (sb3.2 l1 nL1).trans e1₂
      have e2₃ := (sb3.2 l2 nL2).trans (k2 _ _ (Ne.symm h12) e2₁)
      have eo₃ := (sb3.2 Lo nLo).trans (k2 _ _ ho1 eo₁)
      refine eCons (wpAny_Try_except ?_)
      refine eCons (eXpr (aM1 (by rfl) (by rfl) (wpAny_Name (wpAny_loadName_local (by rfl) (by rfl) F₃.ns hm3 ?_))))
      with_unfolding_all refine getMethod_list_of PySem.F.slot_list_remove PySem.F.type_list_remove ⟨_, e2₃, rfl, _, rfl⟩ (noDict e2₃) ?_
      refine cwb1 (wpAny_Name (wpAny_loadName_local (by rfl) (by rfl) F₃.ns (by rfl) ?_))
      show wpAny _ _ (call (.builtin "list.remove") [.ref l2, .str x tx]) _ _ _
      have hst := uno_step s1 s2 n x hsx
      refine remove_c (by exact hh) e2₃ ha (by rw [sizeLine_eq]; exact lc (lR2 _ _) (.h (lS z0) (lN 64) (.h z1 z0 (.g z1 (lN 16777216)))) lT hn2 lw2) ?_ ?_
      · intro hx H₄ ka' ws k4 e2₄ hw
        have F₄ : Fr h₀ L H₄ _ := ⟨F₃.ns.at' fun o e => k4 _ o (Ne.symm nL2) e, fun b o e => k4 b o (fun q => by rw [q, c2] at e; cases e) (F₃.keep b o e), F₃.above⟩
        refine wpAny_execs_nil (wpAny_execs_nil (wpAny_execs_nil (hQ₁ _ _ ?_)))
        refine ws2 (n' := n) F₄ ?_ (Nat.lt_succ_self _) ⟨wd, ws, ka', kd, ke', sl, hm1, hm2, hm3, by exact ar17 ‹_›, rfl, ?_, ?_⟩
        · exact fcons ⟨k4 _ _ nD2 eD₃, nDL, nD0⟩ (fcons ⟨k4 _ _ h12 e1₃, nL1, c1⟩ (fcons ⟨e2₄, nL2, c2⟩ (fcons ⟨k4 _ _ ho2 eo₃, nLo, co⟩ fnil)))
        · rw [hst, uno_in hx]; exact hd
        · rw [hst, uno_in hx]; exact hw
      · intro hx H₄ tk4 ex hex
        dsimp only at hex
        obtain ⟨oL, esL, epL, hoL, hdL, hrL⟩ := id F₃.ns
        refine note_land (S := [L, Lo]) (oL := oL) (oLo := { oLo with slots := sl }) (by show A.frames.map _ = _; rw [hfr]; rfl) (show ScopeKind.function ≠ .module from by decide) hko (.head _) (.tail _ (.head _)) rfl hfo hoL eo₃ (by intro vs q; rw [hdL] at q; cases q) hdo hex ?_
        intro H₅ a0 hfl ⟨slL, eL₅⟩ ⟨slo, eo₅⟩
        obtain ⟨f1, f2, f3, f4⟩ := hfl
        obtain ⟨ob, hob, hcls⟩ := f4.at.there
        refine wpAny_handleBy_builtin (X := "ValueError") (T := "ValueError") (b := true) (by kernel_rfl) (by kernel_rfl) (by kernel_rfl) ?_
        have k5 : ∀ b o, b ≠ L → b ≠ Lo → H₃.get? b = some o → H₅.get? b = some o := fun b o x y e => cut_keep f1 b o (by simp [x, y]) e
        have kL : ∀ b o, h₀.get? b = some o → b ≠ L := fun b o e q => absurd (Heap.lt_size e) (by rw [q]; exact Nat.not_lt.mpr F₃.above)
        have k05 : Ext h₀ H₅ := fun b o e => k5 b o (kL b o e) (fun q => by rw [q, co] at e; cases e) (F₃.keep _ _ e)
        have F₅ : Fr h₀ L H₅ _ := ⟨⟨_, esL, epL, eL₅, hdL, hrL⟩, k05, F₃.above⟩
        refine wpAny_Name (ldB (by rfl) (by rfl) (by rfl) (by rfl) (k05 _ _ e3) l31 (k05 _ _ e0) l01 ?_)
        refine ⟨rfl, ⟨ob, hob, hcls⟩, ?_⟩
        rw [if_pos rfl]
        refine wpAny_setFlight_noneW f1 f3 f4.at fun H₆ f1' _ _ k6 => ?_
        have kS : ∀ b o, b ≠ L → b ≠ Lo → H₃.get? b = some o → H₆.get? b = some o := fun b o x y e => cut_keep f1' b o (by simp [x, y]) e
        have F₆ : Fr h₀ L H₆ _ := ⟨⟨_, esL, epL, k6 _ _ eL₅ (by intro vs q; rw [show Obj.data _ = _ from hdL] at q; cases q), hdL, hrL⟩, fun b o e => kS b o (kL b o e) (fun q => by rw [q, co] at e; cases e) (F₃.keep _ _ e), F₃.above⟩
        have eo₆ := k6 _ _ eo₅ hdo
        have eD₆ := kS _ _ nDL nDo eD₃
        refine eCons (eXpr (aM1 (by rfl) (by rfl) (wpAny_Name (wpAny_loadName_local (by rfl) (by rfl) F₆.ns hm1 ?_))))
        with_unfolding_all refine getMethod_list_of PySem.F.slot_list_append PySem.F.type_list_append ⟨_, eD₆, rfl, _, rfl⟩ (noDict eD₆) ?_
        refine cwb1 (wpAny_Name (wpAny_loadName_local (by rfl) (by rfl) F₆.ns (by rfl) ?_))
        show wpAny _ _ (call (.builtin "list.append") [.ref D, .str x tx]) _ _ _
        refine append_c eD₆ (by rw [sizeLine_eq]; exact lc (lR3 _ _ _) (.h (lS z0) (lN 64) (.h z1 (lA (lN 0) z2) (.h z2 z0 (.g z1 (lN 16777216))))) lT hn1 lw1 (Nat.sub_le _ _)) fun H₇ kd' k7 eD₇ => ?_
        have F₇ : Fr h₀ L H₇ _ := ⟨F₆.ns.at' fun o e => k7 _ o (Ne.symm nDL) e, fun b o e => k7 b o (fun q => by rw [q, nD0] at e; cases e) (F₆.keep b o e), F₆.above⟩
        refine wpAny_execs_nil (wpAny_execs_nil (hQ₁ _ _ ?_))
        refine ws2 (n' := n) F₇ ?_ (Nat.lt_succ_self _) ⟨wd ++ [.str x tx], wa, ka, kd', ke', slo, hm1, hm2, hm3, by exact ar17 ‹_›, rfl, ?_, ?_⟩
        · exact fcons ⟨eD₇, nDL, nD0⟩ (fcons ⟨k7 _ _ (Ne.symm nD1) (kS _ _ nL1 (Ne.symm ho1) e1₃), nL1, c1⟩ (fcons ⟨k7 _ _ (Ne.symm nD2) (kS _ _ nL2 (Ne.symm ho2) e2₃), nL2, c2⟩ (fcons ⟨k7 _ _ (Ne.symm nDo) eo₆, nLo, co⟩ fnil)))
        · rw [hst, uno_out hx]; exact Mine.StrsAre.snoc hd _ _
        · rw [hst, uno_out hx]; exact ha

end
-- UH
section
open PySem PySem.W PyProof.Rows PySem.Calls PySem.Spec PySem.Builtin.Str
theorem hasL {α : Type} (s : Spec.Shape) (f : α → PyData) (l : List α) (h : ∀ x, s.has (f x) = true) : (Spec.Shape.list s).has (.list (l.map f)) = true :=
  List.all_eq_true.mpr fun y hy => by obtain ⟨x, -, rfl⟩ := List.mem_map.mp hy; exact h x
theorem ip {a b : Nat} (h : a < b) : (0 : Int) < ((b - a : Nat) : Int) := Int.ofNat_lt.mpr (Nat.sub_pos_of_lt h)
theorem im {a b : Nat} (h : a < b) : ((b - a : Nat) : Int) - 1 = ((b - (a + 1) : Nat) : Int) := by
  obtain ⟨k, rfl⟩ := Nat.exists_eq_add_of_lt h
  rw [show a + k + 1 - a = k + 1 from Nat.add_sub_cancel_left a (k + 1), show a + k + 1 - (a + 1) = k from by rw [Nat.add_right_comm]; exact Nat.add_sub_cancel_left _ _]
  exact Int.add_sub_cancel (k : Int) 1
theorem ik {a n : Nat} (h : n < a) : ∃ k : Nat, ((a : Int) - 1 + (n : Int) * (-1)) = (k : Int) ∧ k + n + 1 = a := by
  obtain ⟨k, rfl⟩ := Nat.exists_eq_add_of_lt h
  refine ⟨k, ?_, by rw [Nat.add_comm k n]⟩
  rw [Int.mul_neg, Int.mul_one]
  show (n : Int) + k + 1 - 1 + -n = k
  rw [Int.add_sub_cancel, Int.add_comm (n : Int), Int.add_neg_cancel_right]
set_option maxRecDepth 100000
set_option maxHeartbeats 4000000
section
variable {prog : Program} {w : World} {A : Around} {E : Value → Shared → Prop} {s : Shared} {env : Env}
theorem rng3 {a b c : Int} {t u v : Tok} {Q : Value → Shared → Prop} (hc : c ≠ 0) (hp : Builtin.divisionGoesByPylong (b - a) c = false) (hq : ∀ R h', (Ext s.heap h') → IsRange h' R a b c t u v → Q (.ref R) { s with heap := h' }) : wpAny (model prog w) A (call (.type "range") [.int a t, .int b u, .int c v]) Q E s :=
  call_range_3 hc (hq _ _ (fun _ _ e => Heap.get?_push_of_some _ e) (IsRange.new s.heap a b c t u v)) (.inl hp)
theorem rng1 {b : Int} {u : Tok} {Q : Value → Shared → Prop} (hq : ∀ R h' tk t1 t2, (Ext s.heap h') → IsRange h' R 0 b 1 t1 u t2 → Q (.ref R) { s with heap := h', toks := tk }) : wpAny (model prog w) A (call (.type "range") [.int b u]) Q E s :=
  call_range_1 (hq _ _ _ _ _ (fun _ _ e => Heap.get?_push_of_some _ e) (IsRange.new s.heap 0 b 1 _ u _))
theorem tup2o {e1 e2 : Expr} {k : Nat} {pos : Pos} {Q : Value → Shared → Prop} (hs : starEach [e1, e2] env = [(false, eval e1 env), (false, eval e2 env)])
  (h : wpAny (model prog w) A (eval e1 env) (fun v1 s1 => wpAny (model prog w) A (eval e2 env) (fun v2 s2 => ∀ a h', (Ext s2.heap h') → s2.heap.get? a = none → h'.get? a = some (seqObj "tuple" #[v1, v2] 0) → Q (.ref a) { s2 with heap := h' }) E s1) E s) :
  wpAny (model prog w) A (eval (.Tuple [e1, e2] k pos) env) Q E s := by
  refine wpAny_Tuple_spliced ?_
  rw [hs]
  refine sp2 (wpAny_mono h (fun v1 s1 h1 => wpAny_mono h1 (fun v2 s2 h2 => ⟨by simp [sizeLine_eq], ?_⟩) fun _ _ e => e) fun _ _ e => e)
  obtain ⟨a, b, c⟩ := newH (h := s2.heap) (o := { cls := .type "tuple", data := .seq [v1, v2].toArray }) rfl
  exact h2 _ _ a b c
theorem lst1 {e1 : Expr} {pos : Pos} {Q : Value → Shared → Prop} (hs : starEach [e1] env = [(false, eval e1 env)])
  (h : wpAny (model prog w) A (eval e1 env) (fun v1 s1 => ∀ a h', (Ext s1.heap h') → s1.heap.get? a = none → h'.get? a = some (seqObj "list" [v1].toArray 0) → Q (.ref a) { s1 with heap := h' }) E s) :
  wpAny (model prog w) A (eval (.List [e1] pos) env) Q E s := by
  refine wpAny_List_spliced ?_
  rw [hs]
  refine sp1 (wpAny_mono h (fun v1 s1 h1 => ⟨by simp [sizeLine_eq], ?_⟩) fun _ _ e => e)
  obtain ⟨a, b, c⟩ := newH (h := s1.heap) (o := { cls := .type "list", data := .seq [v1].toArray }) rfl
  exact h1 _ _ a b c
theorem forIn1 {c : Expr} {Q : Bool → Shared → Prop} (h : wpAny (model prog w) A (isTrue c env (eval c env)) Q E s) :
    wpAny (model prog w) A (forIn [c] true fun c r => if r = true then do let ok ← isTrue c env (eval c env); pure (ForInStep.yield ok) else pure (ForInStep.yield r)) Q E s := by
  simp only [List.forIn_cons, List.forIn_nil, if_true]
  refine wpAny_bind (wpAny_bind (wpAny_mono h (fun b s1 h1 => wpAny_pure ?_) fun _ _ e => e))
  exact wpAny_pure h1
theorem evAt {nm kn : Str} {c l : Addr} {vs : List Value} {ss : List Str} {k : Nat} {tk : Tok} {q1 q2 q3 : Pos} {Q : Value → Shared → Prop} (hk : env.scope.kind = .function) (h1 : env.kindOf nm = some .cell) (c1 : env.cells.lookup nm = some c) (i1 : s.heap.IsCell c (some (.ref l)))
    (hd : (nm == ("__debug__" : Str)) = false) (e : s.heap.IsList l vs.toArray) (hS : StrsAre vs ss) (hl : ss.length < 64) (hkl : k < ss.length) (hv : ∀ Q' : Value → Shared → Prop, Q' (.int (k : Int) tk) s → wpAny (model prog w) A (eval (.Name kn q2) env) Q' E s)
    (hq : ∀ t, Q (.str (ss.getD k Str.empty) t) s) : wpAny (model prog w) A (eval (.Subscript (.Name nm q1) (.Name kn q2) q3) env) Q E s := by
  refine eSub (wpAny_Name (wpAny_loadName_cell hk h1 c1 i1 (hv _ ?_)) hd)
  exact item_strsA (l := vs) (ys := ss) e hS (by exact Int.natCast_nonneg _) (by exact Int.ofNat_lt.mpr hkl) (by exact l63 (lc (lR2 _ _) (.h (lS z0) (lN 64) (.h (lS z1) z0 (.g (lS z1) (lN 9223372036854775808)))) lT hl hkl)) hq (by with_unfolding_all rfl) (by intro _; with_unfolding_all rfl)
theorem evCnt {r e : Expr} {q2 q4 : Pos} {Q : Value → Shared → Prop} (hl : (q2.endLine == q4.line) = true) (hs : starEach [e] env = [(false, eval e env)]) (hb : attributeBase r (Str.ofString "count") env (eval r env) = eval r env)
    (hr : wpAny (model prog w) A (eval r env) (fun v s1 => Ex5 fun l vs ss k x => And5 (v = .ref l) (s1.heap.get? l = some (seqObj "list" (vs : List Value).toArray k)) (StrsAre vs ss) (∀ Q' : Value → Shared → Prop, (∀ t, Q' (.str x t) s1) → wpAny (model prog w) A (eval e env) Q' E s1) (∀ t tk, Q (.int (ss.count x : Nat) t) { s1 with toks := tk })) E s) :
    wpAny (model prog w) A (eval (.Call (.Attribute r (Str.ofString "count") q2) [e] [] q4) env) Q E s := by
  refine aM (trees := [(false, eval e env)]) (by rw [hs]; rfl) hb (by rfl) hl (wpAny_mono hr (fun v s1 h => ?_) fun _ _ e => e)
  obtain ⟨l, vs, ss, k, x, rfl, eo, hS, he, hq⟩ := h
  with_unfolding_all refine getMethod_list_of PySem.F.slot_list_count PySem.F.type_list_count ⟨_, eo, rfl, _, rfl⟩ (noDict eo) ?_
  refine cwb1 (he _ fun t => ?_)
  exact count_strs ⟨_, eo, rfl, _, rfl⟩ hS (hq _ _)
theorem evLen {nm : Str} {c l : Addr} {vs : List Value} {o3 o0 : Obj} {q1 q2 q3 : Pos} {Q : Value → Shared → Prop} (hg : env.scope.kind = .function) (hk : env.kindOf (Str.ofString "len") = some .globalImplicit) (hg3 : env.globals = 3) (hb : env.builtins = 0)
    (e3 : s.heap.get? 3 = some o3) (l3 : nsLook (Str.ofString "len") o3 = pure none) (e0 : s.heap.get? 0 = some o0) (l0 : nsLook (Str.ofString "len") o0 = pure (some (.builtin "len")))
    (h1 : env.kindOf nm = some .cell) (c1 : env.cells.lookup nm = some c) (i1 : s.heap.IsCell c (some (.ref l))) (hd : (nm == ("__debug__" : Str)) = false) (hs : starEach [.Name nm q2] env = [(false, eval (.Name nm q2) env)]) (e : s.heap.IsList l vs.toArray) (hz : vs.length ≤ 1000)
    (hq : ∀ t tk, Q (.int (vs.length : Nat) t) { s with toks := tk }) : wpAny (model prog w) A (eval (.Call (.Name (Str.ofString "len") q1) [.Name nm q2] [] q3) env) Q E s := by
  obtain ⟨h, g, d, t, os⟩ := s
  refine cN1 (wpAny_Name (ldB hg hk hg3 hb e3 l3 e0 l0 ?_)) hs
  refine cwb1 (wpAny_Name (wpAny_loadName_cell hg h1 c1 i1 ?_) hd)
  show wpAny _ _ (call (.builtin "len") [.ref l]) _ _ _
  exact len_list (items := vs.toArray) e (by rw [List.size_toArray]; exact l63 (lc (lR1 _) (.h z0 (lN 1000) (.g (lS z0) (lN 9223372036854775808))) lT hz)) (hq _ _)
end
section
variable {w : World} {A : Around} {E : Value → Shared → Prop} {s : Shared} {env : Env}
noncomputable abbrev RJt (x left : Int) : Obj := { cls := .type "range_iterator", data := .fields #[rawInt x, rawInt left, rawInt 1] }
structure ForR (w : World) (A : Around) (env : Env) (x : Str) (px : Pos) (body : List Stmt) (n : Nat) (Inv : Addr → Nat → Heap → Prop) (Q : Flow → Shared → Prop) (v : Value) (s : Shared) : Prop where
  it : Ex4 fun R t1 t2 t3 => v = .ref R ∧ IsRange s.heap R 0 (n : Int) 1 t1 t2 t3
  n64 : n < 64
  start : ∀ I h', (Ext s.heap h') → s.heap.get? I = none → Inv I 0 h'
  stab : ∀ I i h h', Inv I i h → (ExtB I h h') → Inv I i h'
  step : ∀ I i h tk t Q' E' E'' oI, i < n → Inv I i h → h.get? I = some oI → (∀ h' tk', Inv I (i + 1) h' → h'.get? I = some oI → Q' .next { s with heap := h', toks := tk' }) → wpAny (model PG w) A (assign (.Name x px) env (.int (i : Int) t)) (fun _ s2 => wpAny (model PG w) A (execs body env) Q' E' s2) E'' { s with heap := h, toks := tk }
  done : ∀ I h' tk, Inv I n h' → Q .next { s with heap := h', toks := tk }
theorem forRng {x : Str} {px p6 : Pos} {iter : Expr} {body : List Stmt} {n : Nat} {Q : Flow → Shared → Prop} (hh : A.handled = none) (Inv : Addr → Nat → Heap → Prop) (hs : ∀ x, foldedSetIterable iter env x = pure x)
    (hit : wpAny (model PG w) A (eval iter env) (ForR w A env x px body n Inv Q) E s) : wpAny (model PG w) A (exec (.For (.Name x px) iter body [] p6) env) Q E s := by
  refine wpAny_For (wpAny_mono hit (fun v s1 H => ?_) fun _ _ e => e) hs
  obtain ⟨⟨R, t1, t2, t3, rfl, hR⟩, hn, start, stab, step, done⟩ := H
  obtain ⟨h, g, d, t, os⟩ := s1
  dsimp only at *
  refine wpAny_pyIter_range hR (rsmall _ hn) ?_
  rw [rsize _ hn]
  obtain ⟨kb, nb, eb⟩ := newH (h := h) (o := RJt 0 (n : Int)) rfl
  dsimp only
  generalize h.push _ = h2 at kb eb ⊢
  generalize h.objs.size = I at nb eb ⊢
  refine codeAny_forLoop_any (R := fun r s' => match r with | .ok f => Q f s' | .error e => cameBackBy (model PG w) A env E e s') (fun k s' => Ex3 fun h' tk i => And5 (s' = (⟨h', g, d, tk, os⟩ : Shared)) (Inv I i h') (h'.get? I = some (RJt (i : Nat) (n - i : Nat))) (i ≤ n) (k = n - i)) ?_ n ⟨h2, _, 0, rfl, start I h2 kb nb, eb, Nat.zero_le _, rfl⟩
  rintro k s' ⟨h', tk, i, rfl, hi, eI, hin, rfl⟩
  dsimp only
  have hit : IsRangeIter h' I ((i : Nat) : Int) ((n - i : Nat) : Int) 1 := eI
  by_cases h3 : i < n
  · refine wpAny_pyNext_range_item hit (ip h3) fun h4 hit4 sb4 => ?_
    refine wpAny_pure (a := ()) ?_
    have e4 : h4.get? I = some (RJt ((i + 1 : Nat) : Int) ((n - (i + 1) : Nat) : Int)) := by
      have := hit4
      rw [show ((i : Nat) : Int) + 1 = ((i + 1 : Nat) : Int) from rfl, show ((n - i : Nat) : Int) - 1 = ((n - (i + 1) : Nat) : Int) from im h3] at this
      exact this
    refine step I i h4 _ _ _ _ _ _ h3 (stab I i h' h4 hi fun b o x y => (sb4.2 b x).trans y) e4 fun h5 tk5 i5 e5 => ?_
    exact ⟨n - (i + 1), by omega, h5, tk5, i + 1, rfl, i5, e5, by exact h3, rfl⟩
  · have : i = n := by exact ar25 ‹_› ‹_›
    subst this
    refine wpAny_pyNext_range_end hh hit (by lia) fun h4 k4 => wpAny_execs_nil ?_
    exact done I h4 tk (stab I i h' h4 hi fun b o x y => k4 b o x y)
end

end
-- U1L
section
open PySem PySem.W PyProof.Rows PySem.Calls PySem.Spec PySem.Builtin.Str
set_option maxRecDepth 100000
set_option maxHeartbeats 4000000
noncomputable abbrev SPC : Scope := { kind := .function, names := [(Str.ofString ".0", .local), (Str.ofString "j", .local), (Str.ofString "k", .free), (Str.ofString "rows", .free)], isGenerator := false, isCoroutine := false }
inductive LPI (h : Heap) (L c ck l : Addr) (oc : Obj) (ss : List Str) (I : Addr) (i : Nat) (h' : Heap) : Prop
  | mk (O : Addr) (vs : List Value) (kk : Nat) (ok : Obj) (vk : Option Value) (m : Str → Option Value) (F : Fr h L h' m) (mo : m (Str.ofString "order") = some (.ref O)) (N : News h L h' [(O, seqObj "list" vs.toArray kk), (c, oc), (ck, ok)]) (hI : IntsAre vs (List.map (fun (i : Nat) => (i : Int)) (plainOf ss i))) (dk : ok.data = .cell vk)
    (nI : h.get? I = none ∧ L ≠ I ∧ ∀ p ∈ [(O, seqObj "list" vs.toArray kk), (c, oc), (ck, ok)], p.1 ≠ I) : LPI h L c ck l oc ss I i h'
theorem law_plain {w : World} {A : Around} {Q : Value → Shared → Prop} {E : Value → Shared → Prop} {s : Shared} {l : Addr} {vs : List Value} {ss : List Str} {p : Program} {loose : List Str} {mean : ExcName → Option Value} {mg mb : Str → Option Value}
  (X : (KF w).In s.heap) (Tp : Top p loose mean mg mb s.heap) (hh : A.handled = none) (hroom : A.depth < recursionLimit)
  (hl : s.heap.IsList l vs.toArray) (hS : StrsAre vs ss) (hn : ss.length < 64)
  (hq : ∀ D h' tk vs' cc, (Ext s.heap h') → s.heap.get? D = none → h'.get? D = some (seqObj "list" (vs' : List Value).toArray cc) → IntsAre vs' (List.map (fun (i : Nat) => (i : Int)) (plainOf ss ss.length)) → Q (.ref D) { s with heap := h', toks := tk }) :
   wpAny (model PG w) A (call (.ref 240) [.ref l]) Q E s := by
  obtain ⟨h, g, d, t, os⟩ := s
  dsimp only at *
  obtain ⟨o3, e3, l31, l32⟩ : ∃ o3, And3 (h.get? 3 = some o3) (nsLook (Str.ofString "range") o3 = pure none) (nsLook (Str.ofString "len") o3 = pure none) := ⟨_, X 3 _ rfl, by kernel_rfl, by kernel_rfl⟩
  obtain ⟨o0, e0, l01, l02⟩ : ∃ o0, And3 (h.get? 0 = some o0) (nsLook (Str.ofString "range") o0 = pure (some (.type "range"))) (nsLook (Str.ofString "len") o0 = pure (some (.builtin "len"))) := ⟨_, X 0 _ rfl, by kernel_rfl, by kernel_rfl⟩
  refine lpenter X Tp hroom fun h₁ L c ck tk m F nLc nLk nck nc nk hc hk => ?_
  have hh' : (A.deeper (LPE L c ck)).handled = none := hh
  generalize A.deeper (LPE L c ck) = A' at hh' ⊢
  refine cutQ1 fun Q₀ hQ₀ => ?_
  obtain ⟨ol, el, hlc, nl, hld⟩ := id hl
  have hvl : vs.length = ss.length := hS.length
  refine eCons (eAsg (lst0 (by rfl) fun O h2 k2 nO eO => ?_))
  dsimp only at k2 nO ⊢
  have nLO := News_ne F nO
  have nO0 := none_of_sub F.keep nO
  have hc2 := hc.keeps k2
  have hk2 := hk.keeps k2
  replace F := Fr_up F k2
  refine wpAny_storeName_local (by rfl) F.ns (fun h3 ns3 sb3 => ?_) (by rfl)
  replace F := Fr_set F ns3 sb3
  replace eO := (sb3.2 O nLO).trans eO
  obtain ⟨oc, ec, dc⟩ := hc2.sameBut sb3 (Ne.symm nLc)
  obtain ⟨ok, ek, dk⟩ := hk2.sameBut sb3 (Ne.symm nLk)
  have N : News h L h3 [(O, seqObj "list" ([] : List Value).toArray 0), (c, oc), (ck, ok)] := fcons ⟨eO, nLO, nO0⟩ (fcons ⟨ec, Ne.symm nLc, nc⟩ (fcons ⟨ek, Ne.symm nLk, nk⟩ fnil))
  clear ns3 sb3 hc2 hk2 eO ec ek k2 nO hk hc
  have cl : closureFor SPC (LPE L c ck) = pure [(Str.ofString "rows", c), (Str.ofString "k", ck)] := by rfl
  refine eCons (forRng (n := ss.length) hh' (LPI h L c ck l oc ss) (by intro x; rfl) ?_)
  refine cN1 (wpAny_Name (ldB (by rfl) (by rfl) (by rfl) (by rfl) (F.keep _ _ e3) l31 (F.keep _ _ e0) l01 ?_)) (by rfl)
  refine cwt1 (evLen (by rfl) (by rfl) (by rfl) (by rfl) (F.keep _ _ e3) l32 (F.keep _ _ e0) l02 (by rfl) (by rfl) ⟨oc, (N _ (.tail _ (.head _))).1, dc⟩ (by decide) (by rfl) (hl.at fun o e => F.keep _ o e) (by exact ar3 (ar10 ‹_› ‹_›) (by decide)) fun ta tk2 => ?_)
  show wpAny _ _ (call (.type "range") [.int _ _]) _ _ _
  rw [hvl]
  refine rng1 fun R h4 tk4 t1 t2 k4 hR => ?_
  dsimp only at k4
  refine ⟨⟨R, _, _, _, rfl, hR⟩, hn, fun I h5 k5 nI => ?_, ?_, ?_, ?_⟩
  · have nI3 := none_of_sub k4 nI
    have kk : Ext h3 h5 := fun b o e => k5 _ _ (k4 _ _ e)
    exact ⟨O, [], 0, ok, none, _, Fr_up F kk, by rfl, News_keep N kk, .nil, dk, none_of_sub F.keep nI3, Ne.symm (News_ne F nI3), fun p hp q => by have := (N p hp).1; rw [q, nI3] at this; cases this⟩
  · rintro I i h5 h6 ⟨O, vs, kk, ok, vk, m, F, mo, N, hI, dk, n0, nL, np⟩ k
    exact ⟨O, vs, kk, ok, vk, m, ⟨F.ns.at' fun o => k _ o nL, fun b o e => k b o (fun q => by rw [q, n0] at e; cases e) (F.keep b o e), F.above⟩, mo, fun p hp => ⟨k _ _ (np p hp) (N p hp).1, (N p hp).2⟩, hI, dk, n0, nL, np⟩
  · rintro I i H₁ tk₁ ti Q' E' E'' oI hi ⟨O₁, vs₁, kk₁, ok₁, vk₁, m₁, F₁, hm₁, N₁, hI₁, dk₁, n0, nL, np⟩ eI hq'
    clear F N k4 hR
    have eI0 := eI
    dsimp only at hq' ⊢
    have e1₁ := N₁ _ (.head _)
    have e2₁ := N₁ _ (.tail _ (.head _))
    have e3₁ := N₁ _ (.tail _ (.tail _ (.head _)))
    dsimp only at e1₁ e2₁ e3₁
    refine wpAny_assign_Name (wpAny_storeName_cell (c := ck) (by rfl) (by rfl) (by rfl) ⟨ok₁, e3₁.1, dk₁⟩ fun H₂ hck sbk => ?_)
    have nKI := np _ (.tail _ (.tail _ (.head _)))
    have aO : O₁ ≠ ck := fun q => by
      have a := e1₁.1
      rw [q, e3₁.1] at a; cases a; cases dk₁
    have F₂ : Fr h L H₂ m₁ := ⟨F₁.ns.sameBut sbk nLk, fun b o e => sbk.extBut b o (fun q => by rw [q, nk] at e; cases e) (F₁.keep b o e), F₁.above⟩
    have eO₂ := (sbk.2 _ aO).trans e1₁.1
    have ec₂ := (sbk.2 _ nck).trans e2₁.1
    replace eI := (sbk.2 _ (Ne.symm nKI)).trans eI
    clear F₁
    refine eCons (eAsg (cN1 (wpAny_Name (ldB (by rfl) (by rfl) (by rfl) (by rfl) (F₂.keep _ _ e3) l32 (F₂.keep _ _ e0) l02 ?_)) (by rfl)))
    refine cwb1 (comp_list hh' cl (by decide) rfl (by decide) rfl ?_)
    refine wpAny_Name (wpAny_loadName_local (by rfl) (by rfl) F₂.ns hm₁ ?_)
    have hO₂ : H₂.IsList O₁ vs₁.toArray := ⟨_, eO₂, rfl, _, rfl⟩
    refine ⟨O₁, vs₁, fun n ys _ => IntsAre ys (List.map (fun (i : Nat) => (i : Int)) (((plainOf ss i).take n).filter fun j => rle ss j i)), rfl, hO₂, by rw [sizeLine_eq, hI₁.length, List.length_map, plain_len]; exact lc (lR2 _ _) (.h (lS z0) (lN 64) (.h (lS z1) z0 (.g z1 (lN 16777216)))) lT hn hi, .nil, ?_, ?_⟩
    · intro C n v ys own' news' h₃ tk₃ m₃ E₃ htk hv hJ F₃ hm N₃
      obtain ⟨j, tj, rfl, hj⟩ : Ex2 fun (j : Nat) (tj : Tok) => v = .int (j : Int) tj ∧ (plainOf ss i)[n]? = some j := by
        obtain ⟨z, tz, rfl, hz⟩ := hI₁.at _ _ hv
        rw [List.getElem?_map] at hz
        cases q : (plainOf ss i)[n]? with
        | none => rw [q] at hz; cases hz
        | some j => rw [q] at hz; cases hz; exact ⟨j, tz, rfl, rfl⟩
      have ji : j < i := plain_lt ss i j (List.mem_of_getElem? hj)
      have tk1 : (((plainOf ss i).take (n + 1)).filter fun j => rle ss j i) = (((plainOf ss i).take n).filter fun j => rle ss j i) ++ (if rle ss j i then [j] else []) := by
        rw [take_snoc hj, List.filter_append]
        cases q : rle ss j i <;> simp [q]
      dsimp only at htk F₃ N₃
      have hl₃ : h₃.IsList l vs.toArray := (hl.at fun o e => F₂.keep _ o e).at fun o e => F₃.keep _ o e
      have cR : h₃.IsCell c (some (.ref l)) := ⟨oc, F₃.keep _ _ ec₂, dc⟩
      have cK : h₃.IsCell ck (some (.int (i : Int) ti)) := let ⟨o, a, b⟩ := hck; ⟨o, F₃.keep _ _ a, b⟩
      refine forIn1 (eTst ?_)
      refine evAt (k := j) (tk := tj) (by rfl) (by rfl) (by rfl) cR (by decide) hl₃ hS hn (Nat.lt_trans ji hi) (fun Q'' hq'' => nmC F₃ hm hq'' rfl (by rfl) (by decide)) fun t5 => ?_
      refine evAt (k := i) (tk := ti) (by rfl) (by rfl) (by rfl) cR (by decide) hl₃ hS hn hi (fun Q'' hq'' => wpAny_Name (wpAny_loadName_cell (c := ck) (by rfl) (by rfl) (by rfl) cK hq'')) fun t6 => ?_
      refine PySem.P.le_str (wpAny_truthy_bool ?_)
      have e : (!decide ((ss.getD i Str.empty).cps.toList < (ss.getD j Str.empty).cps.toList)) = rle ss j i := by unfold rle; rw [decide_not]
      rw [e]
      cases q : rle ss j i with
      | false =>
        rw [if_neg (by decide)]
        refine ⟨h₃, tk₃, m₃, rfl, F₃, N₃, ?_⟩
        show IntsAre _ _
        rw [tk1, q, if_neg (by decide), List.append_nil]
        exact hJ
      | true =>
        rw [if_pos rfl]
        refine nmC F₃ hm (EltEnd.plain F₃ N₃ ?_) rfl (by rfl) (by decide)
        show IntsAre _ _
        rw [tk1, q, if_pos rfl, List.map_append]
        exact hJ.append (.cons _ _ .nil)
    · intro D h' tk ys news' kk' hJ hD hget _ hkp _
      dsimp only at hkp hD ⊢
      have hlen : vs₁.length = (plainOf ss i).length := by rw [hI₁.length, List.length_map]
      rw [hlen, List.take_length] at hJ
      generalize hp : ((plainOf ss i).filter fun j => rle ss j i).length = pl
      have hys : ys.length = pl := by rw [hJ.length, List.length_map, hp]
      have hpi := plain_len ss i
      have hpl : pl ≤ i := by
        have := List.length_filter_le (fun j => rle ss j i) (plainOf ss i)
        rw [hpi] at this; exact lc (lR3 _ _ _) (.d z0 z1 (.h z0 z2 (.g z1 z2))) lT hp this
      have F₄ := Fr_up F₂ hkp
      show wpAny _ _ (call (.builtin "len") [.ref D]) _ _ _
      refine len_list (items := ys.toArray) ⟨_, hget, rfl, _, rfl⟩ (by rw [List.size_toArray, hys]; exact l63 (lc (lR3 _ _ _) (.h (lS z0) (lN 64) (.h (lS z1) z0 (.h z2 z1 (.g (lS z2) (lN 9223372036854775808))))) lT hn hi hpl)) ?_
      rw [List.size_toArray, hys]
      refine wpAny_storeName_local (by rfl) F₄.ns (fun h6 ns6 sb6 => ?_) (by rfl)
      dsimp only at sb6 ns6
      have F₅ := Fr_set F₄ ns6 sb6
      have up : ExtB L H₂ h6 := fun b o x e => (sb6.2 _ x).trans (hkp _ _ e)
      have hO₆ := up _ _ e1₁.2.1 eO₂
      have hc₆ := up _ _ e2₁.2.1 ec₂
      have hck₆ : h6.IsCell ck (some (.int (i : Int) ti)) := let ⟨o, a, b⟩ := hck; ⟨o, up _ _ e3₁.2.1 a, b⟩
      replace eI := up _ _ (Ne.symm nL) eI
      clear F₄ sb6 ns6 hkp hget hD F₂ eO₂ ec₂ up hck sbk
      refine eCons (eAsg (eBin (eBin (slc_l (wpAny_Name (wpAny_loadName_local (by rfl) (by rfl) F₅.ns hm₁ ?_))))))
      rw [evalPart_none, evalPart_some]
      refine wpAny_pure (wpAny_Name (wpAny_loadName_local (by rfl) (by rfl) F₅.ns (by rfl) ?_))
      refine ⟨O₁, vs₁.toArray, none, some (pl : Int), rfl, ⟨_, hO₆, rfl, _, rfl⟩, by rw [sizeLine_eq, List.size_toArray, hlen]; exact lc (lR3 _ _ _) (.h (lS z0) (lN 64) (.h (lS z1) z0 (.e z2 z1 (.g z2 (lN 16777216))))) lT hn hi hpi, .none, .int _ _, fun S₁ h7 k7 nS₁ eS₁ => ?_⟩
      have hJ₁ := slice_ints_upto hI₁ (y := (pl : Int)) (by exact Int.natCast_nonneg _) (by rw [List.length_map, hpi]; exact Int.ofNat_le.mpr hpl)
      rw [← Array.toArray_toList (xs := slicePick vs₁.toArray none (some (pl : Int)) none)] at eS₁
      generalize (slicePick vs₁.toArray none (some (pl : Int)) none).toList = u1 at hJ₁ eS₁
      refine lst1 (by rfl) (wpAny_Name (wpAny_loadName_cell (c := ck) (by rfl) (by rfl) (by rfl) (let ⟨o, a, b⟩ := hck₆; ⟨o, k7 _ _ a, b⟩) fun S₂ h8 k8 nS₂ eS₂ => ?_))
      dsimp only at k7 k8
      refine add_l ⟨_, k8 _ _ eS₁, rfl, _, rfl⟩ ⟨_, eS₂, rfl, _, rfl⟩ (by rw [sizeLine_eq, hJ₁.length, List.length_take, List.length_map, hpi]; simp only [List.length_cons, List.length_nil]; exact lc (lR3 _ _ _) (.h (lS z0) (lN 64) (.h (lS z1) z0 (.h z2 z1 (.g (lA z2 (lS (lN 0))) (lN 16777216))))) lT hn hi (Nat.min_le_right _ _)) fun S₃ h9 k9 nS₃ eS₃ => ?_
      dsimp only at k9
      have k69 : Ext h6 h9 := fun b o e => k9 _ _ (k8 _ _ (k7 _ _ e))
      have F₉ := Fr_up F₅ k69
      refine slc_l (wpAny_Name (wpAny_loadName_local (by rfl) (by rfl) F₉.ns hm₁ ?_))
      rw [evalPart_none, evalPart_some]
      refine wpAny_Name (wpAny_loadName_local (by rfl) (by rfl) F₉.ns (by rfl) (wpAny_pure ?_))
      refine ⟨O₁, vs₁.toArray, some (pl : Int), none, rfl, ⟨_, k69 _ _ hO₆, rfl, _, rfl⟩, by rw [sizeLine_eq, List.size_toArray, hlen]; exact lc (lR3 _ _ _) (.h (lS z0) (lN 64) (.h (lS z1) z0 (.e z2 z1 (.g z2 (lN 16777216))))) lT hn hi hpi, .int _ _, .none, fun S₄ h10 k10 nS₄ eS₄ => ?_⟩
      have hJ₂ := slice_ints_from hI₁ (x := (pl : Int)) (by exact Int.natCast_nonneg _) (by rw [List.length_map, hpi]; exact Int.ofNat_le.mpr hpl)
      rw [← Array.toArray_toList (xs := slicePick vs₁.toArray (some (pl : Int)) none none)] at eS₄
      generalize (slicePick vs₁.toArray (some (pl : Int)) none none).toList = u2 at hJ₂ eS₄
      dsimp only at k10
      refine add_l ⟨_, k10 _ _ eS₃, rfl, _, rfl⟩ ⟨_, eS₄, rfl, _, rfl⟩ (by rw [sizeLine_eq, hJ₂.length, List.length_append, hJ₁.length, List.length_take, List.length_drop, List.length_map, hpi]; simp only [List.length_cons, List.length_nil]; exact lc (lR4 _ _ _ _) (.h (lS z0) (lN 64) (.h (lS z0) (lN 64) (.h (lS z1) z0 (.h (lS z1) z0 (.h z2 z1 (.h z3 z1 (.g (lA (lA z2 (lS (lN 0))) z3) (lN 16777216)))))))) lT hn hn hi hi (Nat.min_le_right _ _) (Nat.sub_le _ _)) fun S₅ h11 k11 nS₅ eS₅ => ?_
      dsimp only at k11 nS₅
      have k6b : Ext h6 h11 := fun b o e => k11 _ _ (k10 _ _ (k69 _ _ e))
      have F₁₁ := Fr_up F₅ k6b
      have nS10 := none_of_sub (fun b o e => k10 b o (k69 b o e)) nS₅
      have nSL := News_ne F₅ nS10
      refine wpAny_storeName_local (by rfl) F₁₁.ns (fun h12 ns12 sb12 => ?_) (by rfl)
      dsimp only at ns12 sb12
      have kk : ExtB L h6 h12 := fun b o q e => (sb12.2 _ q).trans (k6b _ _ e)
      obtain ⟨ok₂, ek₂, dk₂⟩ := hck₆
      refine wpAny_execs_nil (hq' h12 _ ⟨S₅, (u1 ++ [Value.int (i : Int) ti]) ++ u2, 0, ok₂, _, _, Fr_set F₁₁ ns12 sb12, by rfl, fcons ⟨(sb12.2 _ nSL).trans eS₅, nSL, none_of_sub F₅.keep nS10⟩ (fcons ⟨kk _ _ (Ne.symm nLc) hc₆, Ne.symm nLc, nc⟩ (fcons ⟨kk _ _ (Ne.symm nLk) ek₂, Ne.symm nLk, nk⟩ fnil)), ?_, dk₂, n0, nL, fcons (fun (q : S₅ = I) => by rw [q, eI] at nS10; cases nS10) (fcons (np _ (.tail _ (.head _))) (fcons nKI fnil))⟩ ((kk _ _ (Ne.symm nL) eI)))
      rw [plain_succ]
      unfold plainStep
      simp only [hp]
      rw [List.map_append, List.map_append, List.map_take, List.map_drop]
      exact (hJ₁.append (.cons _ _ .nil)).append hJ₂
  · rintro I h5 tk5 ⟨O₁, vs₁, kk₁, ok₁, vk₁, m₁, F₁, hm₁, N₁, hI₁, -⟩
    refine eCons (eRet (wpAny_Name (wpAny_loadName_local (by rfl) (by rfl) F₁.ns hm₁ (hQ₀ _ _ ?_))))
    have a := N₁ _ (.head _)
    exact hq _ _ _ _ _ F₁.keep a.2.2 a.1 hI₁

end
-- P2
section
open PySem PySem.W PyProof.Rows PySem.Calls PySem.Spec PySem.Builtin.Str
noncomputable def unb : List Nat → List Nat
  | [] => []
  | c :: t => if c = 46 then t else c :: t
theorem dt_nil : dt [] = [] := rfl
theorem dt_cons (c : Nat) (t : List Nat) : dt (c :: t) = if c = 46 then 46 :: 46 :: t else c :: t := rfl
theorem unb_dt : ∀ l, unb (dt l) = l
  | [] => rfl
  | c :: t => by
    rw [dt_cons]
    by_cases h : c = 46
    · subst h; rfl
    · rw [if_neg h]; simp [unb, h]
theorem bare_unb (x : Str) : (bareOf x).cps.toList = unb x.cps.toList := by
  have e2 : Str.ofString "." = ⟨#[46]⟩ := by decide +kernel
  obtain ⟨⟨l⟩⟩ := x
  cases l with
  | nil => decide +kernel
  | cons c t =>
    have h1 : Txt.slice ⟨⟨c :: t⟩⟩ none (some 1) = ⟨#[c]⟩ := by
      refine (StrLaws.sliceText_to (x := ⟨⟨c :: t⟩⟩) (j := 1) ⟨by decide, by simp; lia⟩).trans ?_
      simp
    have h2 : Txt.slice ⟨⟨c :: t⟩⟩ (some 1) none = ⟨⟨t⟩⟩ := by
      refine (StrLaws.sliceText_from (x := ⟨⟨c :: t⟩⟩) (i := 1) ⟨by decide, by simp; lia⟩).trans ?_
      simp
    unfold bareOf
    rw [h1, h2, e2]
    by_cases hc : c = 46
    · subst hc; rw [if_pos (by decide)]; simp [unb]
    · rw [if_neg (by
        intro q
        have q' := eq_of_beq q
        injection q' with q'
        injection q' with q'
        injection q' with q' _
        exact hc q')]
      simp [unb, hc]
theorem bare_due1 (x : Str) : bareOf (due1 x) = x := by
  apply ext_l
  rw [bare_unb]
  show unb (dt x.cps.toList) = _
  exact unb_dt _
noncomputable def dueN (n : Nat) (x : Str) : Str := Nat.repeat due1 n x
theorem dt_mem {l : List Nat} {c : Nat} (h : c ∈ dt l) : c ∈ l := by
  cases l with
  | nil => exact h
  | cons k t =>
    rw [dt_cons] at h
    by_cases hk : k = 46
    · subst hk
      simp at h ⊢
      exact h
    · rw [if_neg hk] at h; exact h
theorem due1_clean {x : Str} (h : Clean x) : Clean (due1 x) := ⟨fun m => h.1 (dt_mem m), fun m => h.2 (dt_mem m)⟩
theorem dueN_clean {x : Str} (h : Clean x) : ∀ n, Clean (dueN n x)
  | 0 => h
  | n + 1 => due1_clean (dueN_clean h n)
theorem rows_quote (x : Str) : rowsOf (quote x) = (rowsOf x).map due1 := by
  rw [quote_rows, rows_join]
  · simp [rows_ne]
  · intro r hr
    obtain ⟨a, ha, rfl⟩ := List.mem_map.mp hr
    exact due1_clean (row_mem ha).1
theorem map_due0 (l : List Str) : l.map (dueN 0) = l := (List.map_congr_left fun _ _ => rfl).trans (List.map_id' l)
theorem rows_rep (x : Str) : ∀ n, rowsOf (Nat.repeat quote n x) = (rowsOf x).map (dueN n)
  | 0 => (map_due0 _).symm
  | n + 1 => by
    show rowsOf (quote (Nat.repeat quote n x)) = _
    rw [rows_quote, rows_rep x n, List.map_map]
    rfl
theorem rep_join (x : Str) (n : Nat) : Nat.repeat quote (n + 1) x = Str.join ⟨#[13, 10]⟩ ((rowsOf x).map (dueN (n + 1))) := by
  show quote (Nat.repeat quote n x) = _
  rw [quote_rows, rows_rep, List.map_map]
  rfl
theorem bare_rep (rows : List Str) : ∀ n, Nat.repeat (List.map bareOf) n (rows.map (dueN n)) = rows
  | 0 => map_due0 _
  | n + 1 => by
    have : ∀ (m k : Nat) (l : List Str), Nat.repeat (List.map bareOf) m (l.map (dueN (m + k))) = l.map (dueN k) := by
      intro m
      induction m with
      | zero => intro k l; simp [Nat.repeat]
      | succ m ih =>
        intro k l
        show List.map bareOf (Nat.repeat (List.map bareOf) m (l.map (dueN (m + 1 + k)))) = _
        rw [show m + 1 + k = m + (k + 1) by exact ar31 _ _, ih (k + 1) l, List.map_map]
        refine List.map_congr_left fun a _ => ?_
        exact bare_due1 _
    have := this (n + 1) 0 rows
    rw [Nat.add_zero] at this
    rw [this]
    exact map_due0 _
theorem dueN_list (n : Nat) (x : Str) : (dueN n x).cps.toList = (if x.cps.toList.head? = some 46 then List.replicate n 46 else []) ++ x.cps.toList := by
  induction n with
  | zero => simp [dueN, Nat.repeat]
  | succ n ih =>
    show dt (dueN n x).cps.toList = _
    rw [ih]
    cases h : x.cps.toList with
    | nil => simp [dt_nil]
    | cons c t =>
      by_cases hc : c = 46
      · subst hc
        cases n with
        | zero => simp [dt_cons]
        | succ n => simp [List.replicate_succ, dt_cons]
      · simp [hc, dt_cons]
theorem dt_lt (a b : List Nat) : dt a < dt b ↔ a < b := by
  cases a with
  | nil => cases b with
    | nil => exact Iff.rfl
    | cons c t => rw [dt_cons, dt_nil]; by_cases h : c = 46 <;> simp [h]
  | cons c t => cases b with
    | nil => rw [dt_cons, dt_nil]; by_cases h : c = 46 <;> simp [h]
    | cons d u =>
      rw [dt_cons, dt_cons]
      by_cases h1 : c = 46 <;> by_cases h2 : d = 46
      · subst h1 h2; simp [List.cons_lt_cons_iff]
      · subst h1; simp [List.cons_lt_cons_iff, h2]; exact or_congr Iff.rfl ⟨fun q => absurd q.1.symm h2, fun q => absurd q.1.symm h2⟩
      · subst h2; simp [List.cons_lt_cons_iff, h1]
      · simp [h1, h2]
theorem dueN_lt (n : Nat) (x y : Str) : (dueN n x).cps.toList < (dueN n y).cps.toList ↔ x.cps.toList < y.cps.toList := by
  induction n with
  | zero => exact Iff.rfl
  | succ n ih =>
    show dt (dueN n x).cps.toList < dt (dueN n y).cps.toList ↔ _
    rw [dt_lt, ih]
theorem dueN_empty (n : Nat) : dueN n Str.empty = Str.empty := by
  induction n with
  | zero => rfl
  | succ n ih => show due1 (dueN n Str.empty) = _; rw [ih]; decide +kernel
theorem lt_due (rows : List Str) (n : Nat) : ltOf (twr (rows.map (dueN n))) = ltOf (twr rows) := by
  funext i j
  have e : ∀ (ss : List Str) i j, ltOf (twr ss) i j = decide ((ss.getD i Str.empty).cps.toList < (ss.getD j Str.empty).cps.toList) := fun ss i j => twv_neg _ _
  rw [e, e]
  have g : ∀ i, (rows.map (dueN n)).getD i Str.empty = dueN n (rows.getD i Str.empty) := by
    intro i
    simp only [List.getD_eq_getElem?_getD, List.getElem?_map]
    cases rows[i]? with
    | none => exact (dueN_empty n).symm
    | some x => rfl
  rw [g, g]
  exact decide_eq_decide.mpr (dueN_lt n _ _)
theorem pre_split {q : Nat → Bool} {R : Nat → Nat → Prop} (hR : ∀ a b, R a b → q b = true → q a = true) : ∀ l : List Nat, l.Pairwise R →
    (∀ j ∈ l.take (l.filter q).length, q j = true) ∧ (∀ j ∈ l.drop (l.filter q).length, q j = false)
  | [], _ => by simp
  | a :: l, h => by
    rw [List.pairwise_cons] at h
    obtain ⟨i1, i2⟩ := pre_split hR l h.2
    cases ha : q a with
    | true =>
      rw [List.filter_cons_of_pos ha, List.length_cons, List.take_succ_cons, List.drop_succ_cons]
      refine ⟨fun j hj => ?_, i2⟩
      rcases List.mem_cons.mp hj with rfl | hj
      · exact ha
      · exact i1 j hj
    | false =>
      have none : ∀ j ∈ a :: l, q j = false := by
        intro j hj
        rcases List.mem_cons.mp hj with rfl | hj
        · exact ha
        · cases hq : q j with
          | false => rfl
          | true => rw [hR a j (h.1 j hj) hq] at ha; cases ha
      have : (a :: l).filter q = [] := List.filter_eq_nil_iff.mpr fun j hj => by rw [none j hj]; decide
      rw [this]
      exact ⟨fun j hj => by simp at hj, fun j hj => none j (by simpa using hj)⟩
theorem plain_ok (ss : List Str) : ∀ n, (plainOf ss n).Perm (List.range n) ∧ (plainOf ss n).Pairwise (Bef (ltOf (twr ss)))
  | 0 => ⟨List.Perm.refl _, List.Pairwise.nil⟩
  | n + 1 => by
    obtain ⟨hp, hw⟩ := plain_ok ss n
    have S := tw_swo ss
    have e : ∀ i j, ltOf (twr ss) i j = decide ((ss.getD i Str.empty).cps.toList < (ss.getD j Str.empty).cps.toList) := fun i j => twv_neg _ _
    have er : ∀ j, rle ss j n = !(ltOf (twr ss) n j) := by
      intro j; rw [e]; unfold rle
      exact decide_not
    rw [plain_succ]
    unfold plainStep
    dsimp only
    have sp := pre_split (q := fun j => rle ss j n) (R := Bef (ltOf (twr ss))) (fun a b hab hb => by
      rw [er] at hb ⊢
      simp only [Bool.not_eq_true'] at hb ⊢
      cases hx : ltOf (twr ss) n a with
      | false => rfl
      | true =>
        exfalso
        have := S.lt_of_lt_of_le hx hab.1
        rw [this] at hb; cases hb) _ hw
    generalize hm : ((plainOf ss n).filter fun j => rle ss j n).length = m at sp
    constructor
    · have h1 : ((plainOf ss n).take m ++ [n] ++ (plainOf ss n).drop m).Perm (n :: ((plainOf ss n).take m ++ (plainOf ss n).drop m)) := by
        rw [List.append_assoc]
        exact List.perm_middle
      refine h1.trans ?_
      rw [List.take_append_drop, List.range_succ]
      refine (hp.cons n).trans ?_
      exact (List.perm_append_singleton n (List.range n)).symm
    · have hlt := plain_lt ss n
      rw [List.append_assoc, List.pairwise_append]
      have hw' := hw
      rw [← List.take_append_drop m (plainOf ss n), List.pairwise_append] at hw'
      refine ⟨hw'.1, ?_, ?_⟩
      · show List.Pairwise _ (n :: _)
        rw [List.pairwise_cons]
        refine ⟨fun j hj => ?_, hw'.2.1⟩
        have := sp.2 j hj
        rw [er] at this
        simp only [Bool.not_eq_false'] at this
        exact Bef.of_lt S this
      · intro a ha b hb
        show Bef _ a b
        rcases List.mem_cons.mp hb with rfl | hb
        · have := sp.1 a ha
          rw [er] at this
          simp only [Bool.not_eq_true'] at this
          exact Bef.of_le this (hlt a (List.mem_of_mem_take ha))
        · exact hw'.2.2 a ha b hb
theorem order_plain (ss : List Str) {p : List Nat} (hp : p.Perm (List.range ss.length)) (hw : p.Pairwise (Bef (ltOf (twr ss)))) : p = plainOf ss ss.length := by
  obtain ⟨h1, h2⟩ := plain_ok ss ss.length
  exact Bef.unique (tw_swo ss) (hp.trans h1.symm) hw h2
theorem order_due (rows : List Str) (n : Nat) {p : List Nat} (hp : p.Perm (List.range (rows.map (dueN n)).length)) (hw : p.Pairwise (Bef (ltOf (twr (rows.map (dueN n)))))) : p = plainOf rows rows.length := by
  rw [List.length_map] at hp
  rw [lt_due] at hw
  exact order_plain rows hp hw

end
-- P6
section
open PySem PySem.W PyProof.Rows PySem.Calls PySem.Spec PySem.Builtin.Str
noncomputable def keepR (c : Str → Nat) : List Str → List Str
  | [] => []
  | y :: t => if c y = 0 then y :: keepR c t else keepR (fun z => if z = y then c z - 1 else c z) t
theorem cnt_cons (x y : Str) (t : List Str) : (y :: t).count x = t.count x + if x = y then 1 else 0 := by
  rw [List.count_cons]
  by_cases e : x = y
  · subst e; simp
  · rw [if_neg e, if_neg (by simpa using fun q : y = x => e q.symm)]
theorem keepR_mem (x : Str) : ∀ (s : List Str) (c : Str → Nat), x ∈ keepR c s ↔ c x < s.count x
  | [], c => by simp [keepR]
  | y :: t, c => by
    unfold keepR
    rw [cnt_cons]
    split
    · rename_i h
      rw [List.mem_cons, keepR_mem x t c]
      by_cases e : x = y
      · subst e; simp [h]
      · simp [e]
    · rw [keepR_mem x t]
      by_cases e : x = y
      · subst e; simp; exact Nat.sub_lt_iff_lt_add (Nat.pos_of_ne_zero ‹¬c x = 0›)
      · simp [e]
theorem keepR_erase (x : Str) : ∀ (s : List Str) (c : Str → Nat), (keepR c s).erase x = keepR (fun z => if z = x then c z + 1 else c z) s
  | [], c => rfl
  | y :: t, c => by
    by_cases h : c y = 0
    · have e1 : keepR c (y :: t) = y :: keepR c t := by rw [keepR, if_pos h]
      rw [e1]
      by_cases e : y = x
      · subst e
        rw [List.erase_cons_head, keepR, if_neg (by simp)]
        congr 1
        funext z
        by_cases q : z = y <;> simp [q]
      · rw [List.erase_cons_tail (by simpa using e), keepR_erase x t c, keepR, if_pos (by rw [if_neg e]; exact h)]
    · have e1 : keepR c (y :: t) = keepR (fun z => if z = y then c z - 1 else c z) t := by rw [keepR, if_neg h]
      rw [e1, keepR_erase x t, keepR, if_neg (by split <;> omega)]
      congr 1
      funext z
      by_cases q : z = y
      · subst q
        by_cases q2 : z = x
        · simp [q2]; subst q2; exact Nat.sub_add_cancel (Nat.pos_of_ne_zero h)
        · simp [q2]
      · by_cases q2 : z = x
        · subst q2; simp [q]
        · simp [q, q2]
theorem uno_keep (s1 s2 : List Str) : ∀ (k n : Nat), n + k = s1.length →
    (s1.drop n).reverse.foldl unoStep ([], s2) = (((List.range' n k).reverse.filter (moreA s1 s2)).map (fun k => s1.getD k Str.empty), keepR (fun z => (s1.drop n).count z) s2)
  | 0, n, h => by
    have : s1.drop n = [] := List.drop_eq_nil_of_le (by exact lc (lR2 _ _) (.d (lA z0 (lN 0)) z1 (.g z1 z0)) lT h)
    rw [this]
    have e : ∀ s : List Str, keepR (fun _ => 0) s = s := by
      intro s
      induction s with
      | nil => rfl
      | cons y t ih => rw [keepR, if_pos rfl, ih]
    simp [e]
  | k + 1, n, h => by
    have hn : n < s1.length := by exact ar18 ‹_›
    have hx : s1[n]? = some s1[n] := List.getElem?_eq_getElem hn
    have hg : s1.getD n Str.empty = s1[n] := by simp [hn]
    have hd : s1.drop n = s1[n] :: s1.drop (n + 1) := List.drop_eq_getElem_cons hn
    rw [uno_step s1 s2 n _ hx, uno_keep s1 s2 k (n + 1) (by exact ar22 ‹_›)]
    have hm : moreA s1 s2 n = decide (s2.count s1[n] < (s1.drop (n + 1)).count s1[n] + 1) := by
      unfold moreA; rw [hg, hd, cnt_cons, if_pos rfl]
    have hr : (List.range' n (k + 1)).reverse = (List.range' (n + 1) k).reverse ++ [n] := by rw [List.range'_succ, List.reverse_cons]
    have hc : (fun z => (s1.drop n).count z) = (fun z => if z = s1[n] then (s1.drop (n + 1)).count z + 1 else (s1.drop (n + 1)).count z) := by
      funext z
      rw [hd, cnt_cons]
      split <;> simp
    have he := keepR_erase s1[n] s2 (fun z => (s1.drop (n + 1)).count z)
    rw [hc, ← he, hr, List.filter_append, List.map_append]
    by_cases hin : s1[n] ∈ keepR (fun z => (s1.drop (n + 1)).count z) s2
    · rw [uno_in hin]
      have hin' := (keepR_mem _ _ _).mp hin
      have : moreA s1 s2 n = false := by rw [hm]; simp; exact hin'
      simp [this]
    · rw [uno_out hin]
      have hin' : ¬ _ := fun q => hin ((keepR_mem _ _ _).mpr q)
      have : moreA s1 s2 n = true := by rw [hm]; simp; exact lc (lR2 _ _) (.h z0 z1 (.g (lS z0) (lS z1))) lT (Nat.ge_of_not_lt hin')
      rw [List.erase_of_not_mem hin]
      simp [this, hg, hn]
theorem keepR_less : ∀ (s : List Str) (c : Str → Nat), keepR c s = ((List.range s.length).filter fun k => decide (c (s.getD k Str.empty) < (s.take (k + 1)).count (s.getD k Str.empty))).map fun k => s.getD k Str.empty
  | [], c => rfl
  | y :: t, c => by
    rw [List.length_cons, List.range_succ_eq_map, List.filter_cons]
    have h0 : decide (c ((y :: t).getD 0 Str.empty) < ((y :: t).take (0 + 1)).count ((y :: t).getD 0 Str.empty)) = decide (c y = 0) := by
      simp
    rw [h0, List.filter_map]
    have hs : ∀ (p : Nat → Bool), ((List.range t.length).filter p |>.map Nat.succ).map (fun k => (y :: t).getD k Str.empty) = ((List.range t.length).filter p).map fun k => t.getD k Str.empty := by
      intro p
      rw [List.map_map]
      refine List.map_congr_left fun k _ => ?_
      simp
    by_cases h : c y = 0
    · rw [if_pos (by simpa using h), List.map_cons, hs, keepR, if_pos h, keepR_less t c]
      have : (y :: t).getD 0 Str.empty = y := by simp
      rw [this]
      congr 2
      refine List.filter_congr fun k hk => ?_
      have hk' : k < t.length := by simpa using hk
      have hg : t.getD k Str.empty = t[k] := by simp [hk']
      simp only [Function.comp_apply]
      rw [show (y :: t).getD (Nat.succ k) Str.empty = t.getD k Str.empty by simp, List.take_succ_cons, cnt_cons, hg]
      by_cases e : t[k] = y
      · have hmem : 0 < (t.take (k + 1)).count t[k] := List.count_pos_iff.mpr (by rw [take_snoc (List.getElem?_eq_getElem hk')]; exact List.mem_append_right _ (List.mem_singleton.mpr rfl))
        rw [if_pos e]
        rw [e] at hmem ⊢
        simp [h, hmem]
      · rw [if_neg e]; rfl
    · rw [if_neg (by simpa using h), hs, keepR, if_neg h, keepR_less t]
      congr 1
      refine List.filter_congr fun k hk => ?_
      have hk' : k < t.length := by simpa using hk
      simp only [Function.comp_apply]
      rw [show (y :: t).getD (Nat.succ k) Str.empty = t.getD k Str.empty by simp, List.take_succ_cons, cnt_cons]
      by_cases e : t.getD k Str.empty = y
      · rw [if_pos e, if_pos e]
        refine decide_eq_decide.mpr ?_
        rw [e]; exact Nat.sub_lt_iff_lt_add (Nat.pos_of_ne_zero h)
      · rw [if_neg e, if_neg e]; rfl
theorem uno_less (s1 s2 : List Str) : uno s1 s2 = (lessA s1 s2, lessB s1 s2) := by
  have := uno_keep s1 s2 s1.length 0 (by exact Nat.le_antisymm (lc (lR1 _) (.g (lA (lN 0) z0) z0) lT) (lc (lR1 _) (.g z0 (lA (lN 0) z0)) lT))
  rw [List.drop_zero] at this
  unfold uno
  rw [this, ← List.range_eq_range']
  unfold lessA lessB moreB
  rw [keepR_less]

end
-- LA
section
open PySem PySem.W PyProof.Rows PySem.Calls PySem.Spec PySem.Builtin.Str
set_option maxRecDepth 100000
noncomputable abbrev SLW : Scope := { kind := .function, names := [(Str.ofString "script", .local), (Str.ofString "text", .local), (Str.ofString "rows", .cell), (Str.ofString "order", .local), (Str.ofString "many", .cell), (Str.ofString "sent", .local), (Str.ofString "due", .cell), (Str.ofString "firsts", .local), (Str.ofString "counts", .local), (Str.ofString "only", .local), (Str.ofString "_law_rows", .globalImplicit), (Str.ofString "_law_plain", .globalImplicit), (Str.ofString "range", .globalImplicit), (Str.ofString "reduce", .globalImplicit), (Str.ofString "_law_order", .globalImplicit), (Str.ofString "enumerate", .globalImplicit), (Str.ofString "_count_diff_all_purpose", .globalImplicit), (Str.ofString "sorted", .globalImplicit), (Str.ofString "sorted_list_difference", .globalImplicit), (Str.ofString "unorderable_list_difference", .globalImplicit), (Str.ofString "_law_less", .globalImplicit)], isGenerator := false, isCoroutine := false, more := [(Str.ofString "fast", .str (Str.ofString "script")), (Str.ofString "fast", .str (Str.ofString "x")), (Str.ofString "fast", .str (Str.ofString "text")), (Str.ofString "fast", .str (Str.ofString "rows")), (Str.ofString "fast", .str (Str.ofString "order")), (Str.ofString "fast", .str (Str.ofString "many")), (Str.ofString "fast", .str (Str.ofString "sent")), (Str.ofString "fast", .str (Str.ofString "row")), (Str.ofString "fast", .str (Str.ofString "due")), (Str.ofString "fast", .str (Str.ofString "k")), (Str.ofString "fast", .str (Str.ofString "firsts")), (Str.ofString "fast", .str (Str.ofString "counts")), (Str.ofString "fast", .str (Str.ofString "only"))] }
noncomputable abbrev LWE (L cr cm cd fa : Addr) : Env := { scope := SLW, locals := L, globals := 3, cells := [(Str.ofString "due", cd), (Str.ofString "many", cm), (Str.ofString "rows", cr)], qual := Str.ofString "law" ++ Str.ofString ".<locals>.", func := some fa, code := .ref 249, frame := some L, builtins := 0 }
noncomputable abbrev qLW : Str := (Str.ofString "law" ++ Str.ofString ".<locals>.") ++ Str.ofString "<lambda>"
noncomputable abbrev posQ : Pos := ⟨240, 22, 240, 56⟩
noncomputable abbrev posB : Pos := ⟨242, 46, 242, 80⟩
noncomputable def Kp (h h' : Heap) : Prop := ∀ b o vs, h.get? b = some o → o.data = .fields vs → h'.get? b = some o
theorem Kp.ct {h h' : Heap} (k : Kp h h') {c P : Addr} {ps : Array Value} (x : CT h c P ps) : CT h' c P ps := by
  obtain ⟨⟨oc, vs, a, -, d, -⟩, t⟩ := x.tab
  exact x.mono (fun o e => by rw [a] at e; cases e; exact k _ _ _ a d) (fun o e => by rw [t] at e; cases e; exact k _ _ _ t rfl)
theorem Kp.fc {h h' : Heap} (k : Kp h h') {q : Str} {c : Addr} (x : FC q h c) : FC q h' c := by
  obtain ⟨c', o', vs, t, e1, e2, e3, -⟩ := id x.1
  cases e1
  exact x.mono fun o e => by rw [e2] at e; cases e; exact k _ _ _ e2 e3
theorem Kp.en {h h' : Heap} (k : Kp h h') {q : Str} {pos : Pos} {ps : Array Value} (x : Entry (FC q) h pos ps) : Entry (FC q) h' pos ps := by
  rcases x with a | ⟨c, a, b⟩
  · exact .inl a
  · exact .inr ⟨c, a, k.fc b⟩
theorem Kp.tabK {h h' : Heap} {Z : List Addr} {six : List (Pos × Str)} (k : Kp h h') (x : TabK six h Z) : TabK six h' Z := by
  obtain ⟨ps, hct, y⟩ := x
  refine ⟨ps, k.ct hct, ?_⟩
  rcases y with y | ⟨c, Pk, hc, ⟨a, b, psk, hp, hs⟩, e⟩
  · exact .inl y
  · exact .inr ⟨c, Pk, hc, ⟨k.fc a, b, psk, k.ct hp, fun x hx => k.en (hs x hx)⟩, e⟩
theorem Kp.tabsK {hg h h' : Heap} {Z : List Addr} (k : Kp h h') (x : TabsK hg h Z) : TabsK hg h' Z := by
  obtain ⟨a, ⟨ps, b, c⟩, d, e, f⟩ := x
  exact ⟨k.tabK a, ⟨ps, k.ct b, k.en c⟩, d, e, f⟩
noncomputable def Pln (o : Obj) : Prop := ((∀ vs, o.data ≠ .fields vs) ∨ o.cls ≠ .none) ∧ ∀ v, o.data ≠ .cell v
theorem Pln.seq {c : String} {xs : Array Value} {k : Nat} : Pln (seqObj c xs k) := ⟨.inl fun _ h => (nomatch h), fun _ h => (nomatch h)⟩
structure LSt (hg : Heap) (L cr cm cd : Addr) (Z : List Addr) (h : Heap) (m : Str → Option Value) (vr vm vd : Option Value) (news : List (Addr × Obj)) : Prop where
  F : Fr hg L h m
  r : h.IsCell cr vr
  m : h.IsCell cm vm
  d : h.IsCell cd vd
  ap : cr ≠ cm ∧ cr ≠ cd ∧ cm ≠ cd
  g : hg.get? cr = none ∧ hg.get? cm = none ∧ hg.get? cd = none
  T : TabsK hg h Z
  U : ∃ ps, CT h 249 247 ps ∧ Entry (FC qLW) h posQ ps ∧ Entry (FC qLW) h posB ps
  u : hg.get? 247 = none ∧ 247 ∉ Z ∧ hg.get? L = none
  N : News hg L h news
  K : ∀ p ∈ news, Pln p.2
section
variable {hg h h' : Heap} {L cr cm cd : Addr} {Z : List Addr} {m : Str → Option Value} {vr vm vd : Option Value} {news news' : List (Addr × Obj)}
theorem cell_ne {a b : Addr} {o : Obj} {v : Option Value} (c : h.IsCell a v) (e : h.get? b = some o) (n : ∀ v, o.data ≠ .cell v) : a ≠ b := by
  obtain ⟨oc, x, y⟩ := c
  rintro rfl
  rw [x] at e; cases e
  exact n _ y
theorem cell_neL {a : Addr} {v : Option Value} (c : h.IsCell a v) (F : Fr hg L h m) : a ≠ L := by
  obtain ⟨o, es, ep, x, y, -⟩ := F.ns
  exact cell_ne c x (by intro v q; rw [y] at q; cases q)
theorem IsCell_keep {a : Addr} {v : Option Value} (c : h.IsCell a v) (k : ∀ o, h.get? a = some o → h'.get? a = some o) : h'.IsCell a v := let ⟨o, x, y⟩ := c; ⟨o, k o x, y⟩
theorem LSt.sub (s : LSt hg L cr cm cd Z h m vr vm vd news) (i : ∀ p ∈ news', p ∈ news) : LSt hg L cr cm cd Z h m vr vm vd news' := { s with N := News_sub s.N i, K := fun p hp => s.K p (i p hp) }
theorem LSt.but (s : LSt hg L cr cm cd Z h m vr vm vd news) (S : List Addr) (k : ExtZ S h h') (n : h'.Ns L m) (hS : ∀ b ∈ S, hg.get? b = none ∧ (∀ o vs, h.get? b = some o → o.data ≠ .fields vs) ∧ (∀ o v, h.get? b = some o → o.data ≠ .cell v) ∧ ∀ p ∈ news, p.1 ≠ b) : LSt hg L cr cm cd Z h' m vr vm vd news := by
  have kp : Kp h h' := fun b o vs e d => k b o (fun q => (hS b q).2.1 o vs e d) e
  have kc : ∀ {a v}, h.IsCell a v → h'.IsCell a v := fun c => by
    obtain ⟨o, x, y⟩ := c
    exact ⟨o, k _ _ (fun q => (hS _ q).2.2.1 o _ x y) x, y⟩
  obtain ⟨ps, u1, u2, u3⟩ := s.U
  exact ⟨⟨n, fun b o e => k b o (fun q => by rw [(hS b q).1] at e; cases e) (s.F.keep b o e), s.F.above⟩, kc s.r, kc s.m, kc s.d, s.ap, s.g, kp.tabsK s.T, ⟨ps, kp.ct u1, kp.en u2, kp.en u3⟩, s.u, fun p hp => ⟨k _ _ (fun q => (hS _ q).2.2.2 p hp rfl) (s.N p hp).1, (s.N p hp).2⟩, s.K⟩
theorem LSt.keep (s : LSt hg L cr cm cd Z h m vr vm vd news) (k : Ext h h') : LSt hg L cr cm cd Z h' m vr vm vd news :=
  s.but [] (fun b o _ => k b o) (s.F.ns.at' fun o e => k _ o e) (fun _ h => nomatch h)
theorem LSt.add (s : LSt hg L cr cm cd Z h m vr vm vd news) {h1 : Heap} {m1 : Str → Option Value} {a : Addr} {o : Obj} (F1 : Fr hg L h1 m1) (n : h1.get? a = none) (e : h.get? a = some o) (p : Pln o) : LSt hg L cr cm cd Z h m vr vm vd ((a, o) :: news) :=
  { s with N := News_cons F1 n e s.N, K := fun q hq => by rcases List.mem_cons.mp hq with rfl | hq; exact p; exact s.K q hq }
theorem LSt.set (s : LSt hg L cr cm cd Z h m vr vm vd news) {m' : Str → Option Value} (n : h'.Ns L m') (sb : ∀ b, b ≠ L → h'.get? b = h.get? b) : LSt hg L cr cm cd Z h' m' vr vm vd news := by
  obtain ⟨o, es, ep, x, y, -⟩ := s.F.ns
  have k : ExtB L h h' := fun b o q e => (sb b q).trans e
  have kp : Kp h h' := fun b o vs e d => k b o (fun q => by rw [q, x] at e; cases e; rw [y] at d; cases d) e
  obtain ⟨ps, u1, u2, u3⟩ := s.U
  exact ⟨⟨n, fun b o e => k b o (fun q => by rw [q, s.u.2.2] at e; cases e) (s.F.keep b o e), s.F.above⟩, IsCell_keep s.r fun o => k _ o (cell_neL s.r s.F), IsCell_keep s.m fun o => k _ o (cell_neL s.m s.F), IsCell_keep s.d fun o => k _ o (cell_neL s.d s.F), s.ap, s.g, kp.tabsK s.T, ⟨ps, kp.ct u1, kp.en u2, kp.en u3⟩, s.u, fun p hp => ⟨k _ _ (s.N p hp).2.1 (s.N p hp).1, (s.N p hp).2⟩, s.K⟩
theorem LSt.cellS (s : LSt hg L cr cm cd Z h m vr vm vd news) {c : Addr} {v : Option Value} (hc : h.IsCell c v) (gc : hg.get? c = none) (sb : ∀ b, b ≠ c → h'.get? b = h.get? b) :
    Fr hg L h' m ∧ TabsK hg h' Z ∧ (∃ ps, CT h' 249 247 ps ∧ Entry (FC qLW) h' posQ ps ∧ Entry (FC qLW) h' posB ps) ∧ News hg L h' news := by
  obtain ⟨oc, x, y⟩ := id hc
  have k : ExtB c h h' := fun b o q e => (sb b q).trans e
  have kp : Kp h h' := fun b o vs e d => k b o (fun q => by rw [q, x] at e; cases e; rw [y] at d; cases d) e
  obtain ⟨ps, u1, u2, u3⟩ := s.U
  exact ⟨⟨s.F.ns.at' fun o => k _ o (Ne.symm (cell_neL hc s.F)), fun b o e => k b o (fun q => by rw [q, gc] at e; cases e) (s.F.keep b o e), s.F.above⟩, kp.tabsK s.T, ⟨ps, kp.ct u1, kp.en u2, kp.en u3⟩, fun p hp => ⟨k _ _ (Ne.symm (cell_ne hc (s.N p hp).1 (s.K p hp).2)) (s.N p hp).1, (s.N p hp).2⟩⟩
theorem LSt.setR (s : LSt hg L cr cm cd Z h m vr vm vd news) {v : Option Value} (n : h'.IsCell cr v) (sb : ∀ b, b ≠ cr → h'.get? b = h.get? b) : LSt hg L cr cm cd Z h' m v vm vd news := by
  obtain ⟨a, b, c, d⟩ := s.cellS s.r s.g.1 sb
  exact ⟨a, n, IsCell_keep s.m fun o e => (sb _ (Ne.symm s.ap.1)).trans e, IsCell_keep s.d fun o e => (sb _ (Ne.symm s.ap.2.1)).trans e, s.ap, s.g, b, c, s.u, d, s.K⟩
theorem LSt.setM (s : LSt hg L cr cm cd Z h m vr vm vd news) {v : Option Value} (n : h'.IsCell cm v) (sb : ∀ b, b ≠ cm → h'.get? b = h.get? b) : LSt hg L cr cm cd Z h' m vr v vd news := by
  obtain ⟨a, b, c, d⟩ := s.cellS s.m s.g.2.1 sb
  exact ⟨a, IsCell_keep s.r fun o e => (sb _ s.ap.1).trans e, n, IsCell_keep s.d fun o e => (sb _ (Ne.symm s.ap.2.2)).trans e, s.ap, s.g, b, c, s.u, d, s.K⟩
theorem LSt.setD (s : LSt hg L cr cm cd Z h m vr vm vd news) {v : Option Value} (n : h'.IsCell cd v) (sb : ∀ b, b ≠ cd → h'.get? b = h.get? b) : LSt hg L cr cm cd Z h' m vr vm v news := by
  obtain ⟨a, b, c, d⟩ := s.cellS s.d s.g.2.2 sb
  exact ⟨a, IsCell_keep s.r fun o e => (sb _ s.ap.2.1).trans e, IsCell_keep s.m fun o e => (sb _ s.ap.2.2).trans e, n, s.ap, s.g, b, c, s.u, d, s.K⟩
end

end
-- LB
section
open PySem PySem.W PyProof.Rows PySem.Calls PySem.Spec PySem.Builtin.Str
set_option maxRecDepth 100000
section
variable {hg h h' : Heap} {L cr cm cd : Addr} {Z : List Addr} {m : Str → Option Value} {vr vm vd : Option Value} {news news' : List (Addr × Obj)}
theorem LSt.slots (s : LSt hg L cr cm cd Z h m vr vm vd news) {oL : Obj} (e : h.get? L = some oL) (k : ExtB L h h') {sl : Array (Option Value)} (e' : h'.get? L = some { oL with slots := sl }) : LSt hg L cr cm cd Z h' m vr vm vd news := by
  obtain ⟨o, es, ep, x, y, z, r⟩ := s.F.ns
  rw [e] at x; cases x
  refine s.but [L] (fun b o q => k b o (by simpa using q)) ⟨_, es, ep, e', y, z, r⟩ fun b hb => ?_
  rw [List.mem_singleton.mp hb]
  exact ⟨s.u.2.2, fun o vs c d => (by rw [e] at c; cases c; rw [y] at d; cases d), fun o vs c d => (by rw [e] at c; cases c; rw [y] at d; cases d), fun p hp => (s.N p hp).2.1⟩
theorem rec_ne {b P : Addr} {o : Obj} {ps : Array Value} (x : h.get? P = some { cls := .none, data := .fields ps }) (e : h.get? b = some o) (n : ∀ vs, o.data ≠ .fields vs) : b ≠ P := by
  rintro rfl
  rw [x] at e; cases e
  exact n _ rfl
theorem rec_ne' {b P : Addr} {o : Obj} {ps : Array Value} (x : h.get? P = some { cls := .none, data := .fields ps }) (e : h.get? b = some o) (n : (∀ vs, o.data ≠ .fields vs) ∨ o.cls ≠ .none) : b ≠ P := by
  rcases n with n | n
  · exact rec_ne x e n
  · rintro rfl
    rw [x] at e; cases e
    exact n rfl
theorem LSt.but2 (s : LSt hg L cr cm cd Z h m vr vm vd news) (S : List Addr) (k : ExtZ S h h') (hS : ∀ b ∈ S, hg.get? b = none ∧ ∃ ps, h.get? b = some { cls := .none, data := .fields ps }) :
    Fr hg L h' m ∧ h'.IsCell cr vr ∧ h'.IsCell cm vm ∧ h'.IsCell cd vd ∧ News hg L h' news := by
  obtain ⟨o, es, ep, x, y, -⟩ := id s.F.ns
  have off : ∀ {b o}, h.get? b = some o → ((∀ vs, o.data ≠ .fields vs) ∨ o.cls ≠ .none) → b ∉ S := fun e n q => by
    obtain ⟨-, ps, t⟩ := hS _ q
    exact rec_ne' t e n rfl
  have kc : ∀ {a v}, h.IsCell a v → h'.IsCell a v := fun c => by
    obtain ⟨o, x, y⟩ := c
    exact ⟨o, k _ _ (off x (.inl (by intro vs q; rw [y] at q; cases q))) x, y⟩
  refine ⟨⟨s.F.ns.at' fun o' e => k _ o' (off x (.inl (by intro vs q; rw [y] at q; cases q))) e, fun b o e => k b o (fun q => by rw [(hS b q).1] at e; cases e) (s.F.keep b o e), s.F.above⟩, kc s.r, kc s.m, kc s.d, fun p hp => ⟨k _ _ (off (s.N p hp).1 (s.K p hp).1) (s.N p hp).1, (s.N p hp).2⟩⟩
theorem LSt.order (s : LSt hg L cr cm cd Z h m vr vm vd news) {Z' : List Addr} (k : ∀ b o, b ∉ Z → b ≠ 230 → h.get? b = some o → h'.get? b = some o) (T' : TabsK hg h' Z') (hin : ∀ b ∈ Z', b ∈ Z ∨ h.get? b = none) : LSt hg L cr cm cd Z' h' m vr vm vd news := by
  obtain ⟨p2, t2, -⟩ := s.T.o
  obtain ⟨ps, u1, u2, u3⟩ := s.U
  have kk : ∀ b o, b ∉ 230 :: Z → h.get? b = some o → h'.get? b = some o := fun b o q => k b o (fun c => q (.tail _ c)) (fun c => q (by rw [c]; exact .head _))
  obtain ⟨a1, a2, a3, a4, a5⟩ := s.but2 (230 :: Z) kk (by
    intro b hb
    rcases List.mem_cons.mp hb with rfl | hb
    · exact ⟨s.T.o₀, p2, t2.table⟩
    · exact ⟨s.T.z₀ b hb, s.T.k.live hb⟩)
  have code : ∀ {c}, isCode h c → ∀ o, h.get? c = some o → h'.get? c = some o := fun x o e => k _ o (s.T.k.offCode x) (x.ne t2.table) e
  have en : ∀ {pos}, Entry (FC qLW) h pos ps → Entry (FC qLW) h' pos ps := fun x => by
    rcases x with a | ⟨c, a, b⟩
    · exact .inl a
    · exact .inr ⟨c, a, b.mono (code b.2)⟩
  have n247 : (247 : Addr) ∉ Z' := fun q => by
    rcases hin _ q with c | c
    · exact s.u.2.1 c
    · rw [u1.table] at c; cases c
  exact ⟨a1, a2, a3, a4, s.ap, s.g, T', ⟨ps, u1.mono (code u1.code) (fun o => k _ o s.u.2.1 (by decide)), en u2, en u3⟩, ⟨s.u.1, n247, s.u.2.2⟩, a5, s.K⟩
theorem LSt.lam (s : LSt hg L cr cm cd Z h m vr vm vd news) {ps' : Array Value} (k : ∀ b o, b ≠ 247 → h.get? b = some o → h'.get? b = some o) (ct : CT h' 249 247 ps') (eq : Entry (FC qLW) h' posQ ps') (eb : Entry (FC qLW) h' posB ps') : LSt hg L cr cm cd Z h' m vr vm vd news := by
  obtain ⟨ps, u1, -, -⟩ := s.U
  obtain ⟨a1, a2, a3, a4, a5⟩ := s.but2 [247] (fun b o q => k b o (by simpa using q)) (by
    intro b hb
    rw [List.mem_singleton.mp hb]
    exact ⟨s.u.1, ps, u1.table⟩)
  refine ⟨a1, a2, a3, a4, s.ap, s.g, ⟨s.T.k.but s.u.2.1 u1.table k, ?_, s.T.off, s.T.z₀, s.T.o₀⟩, ⟨ps', ct, eq, eb⟩, s.u, a5, s.K⟩
  exact s.T.o.mono (Z := [247]) (by decide) (fun b x q => x.ne u1.table (List.mem_singleton.mp q)) (fun b o q => k b o (by simpa using q))
end

end
-- LC
section
open PySem PySem.W PyProof.Rows PySem.Calls PySem.Spec PySem.Builtin.Str
set_option maxRecDepth 100000
set_option maxHeartbeats 4000000
section
variable {prog : Program} {w : World} {K : Frag} {h₀ : Heap} {A : Around} {E : Value → Shared → Prop} {s : Shared} {env : Env} {pos : Pos} {f : Value} {e1 e2 : Expr} {Q : Value → Shared → Prop}
theorem cwk1 (X : K.In h₀) (hk : keepIn K f = true) (hs : starEach [e1] env = [(false, eval e1 env)]) (hs0 : starEach [] env = [])
    (h : wpAny (model prog w) A (eval e1 env) (fun v1 s1 => K.In s1.heap ∧ wpAny (model prog w) A (call f [v1]) Q E s1) E s) : wpAny (model prog w) A (callWith pos f [] [(false, eval e1 env)] []) Q E s := by
  have he : starEach (e1 :: []) env = (false, eval e1 env) :: starEach [] env := by rw [hs, hs0]
  have hp : (backTo pos (starEach [] env)).any (·.1) = false := by rw [hs0]; rfl
  have := callWith_K (M := model prog w) (A := A) (E := E) (s := s) (env := env) (pos := pos) (f := f) (first := []) (e := e1) (rest := []) (Q := Q) X hk (he := he) (hplain := hp)
  rw [hs] at this
  exact this (sp1 h)
theorem cwk2 (X : K.In h₀) (hk : keepIn K f = true) (hs : starEach [e1, e2] env = [(false, eval e1 env), (false, eval e2 env)]) (hs0 : starEach [e2] env = [(false, eval e2 env)])
    (h : wpAny (model prog w) A (eval e1 env) (fun v1 s1 => wpAny (model prog w) A (eval e2 env) (fun v2 s2 => K.In s2.heap ∧ wpAny (model prog w) A (call f [v1, v2]) Q E s2) E s1) E s) : wpAny (model prog w) A (callWith pos f [] [(false, eval e1 env), (false, eval e2 env)] []) Q E s := by
  have he : starEach (e1 :: [e2]) env = (false, eval e1 env) :: starEach [e2] env := by rw [hs, hs0]
  have hp : (backTo pos (starEach [e2] env)).any (·.1) = false := by rw [hs0]; rfl
  have := callWith_K (M := model prog w) (A := A) (E := E) (s := s) (env := env) (pos := pos) (f := f) (first := []) (e := e1) (rest := [e2]) (Q := Q) X hk (he := he) (hplain := hp)
  rw [hs] at this
  exact this (sp2 h)
end
structure LG (h : Heap) : Prop where
  g : ∃ o3, h.get? 3 = some o3 ∧ (nsLook (Str.ofString "_law_rows") o3 = pure (some (.ref 223)) ∧ nsLook (Str.ofString "_law_plain") o3 = pure (some (.ref 240)) ∧ nsLook (Str.ofString "range") o3 = pure none ∧ nsLook (Str.ofString "reduce") o3 = pure (some (.ref 71)) ∧ nsLook (Str.ofString "_law_order") o3 = pure (some (.ref 235)) ∧ nsLook (Str.ofString "enumerate") o3 = pure none ∧ nsLook (Str.ofString "_count_diff_all_purpose") o3 = pure (some (.ref 216)) ∧
    nsLook (Str.ofString "sorted") o3 = pure none ∧ nsLook (Str.ofString "sorted_list_difference") o3 = pure (some (.ref 121)) ∧ nsLook (Str.ofString "unorderable_list_difference") o3 = pure (some (.ref 128)) ∧ nsLook (Str.ofString "_law_less") o3 = pure (some (.ref 245)) ∧ nsLook (Str.ofString "tuple") o3 = pure none)
  b : ∃ o0, h.get? 0 = some o0 ∧ (nsLook (Str.ofString "range") o0 = pure (some (.type "range")) ∧ nsLook (Str.ofString "enumerate") o0 = pure (some (.type "enumerate")) ∧ nsLook (Str.ofString "sorted") o0 = pure (some (.builtin "sorted")) ∧ nsLook (Str.ofString "tuple") o0 = pure (some (.type "tuple")))
theorem LG.of {w : World} {h : Heap} (X : (KF w).In h) : LG h := ⟨⟨_, X 3 _ rfl, by kernel_rfl, by kernel_rfl, by kernel_rfl, by kernel_rfl, by kernel_rfl, by kernel_rfl, by kernel_rfl, by kernel_rfl, by kernel_rfl, by kernel_rfl, by kernel_rfl, by kernel_rfl⟩, ⟨_, X 0 _ rfl, by kernel_rfl, by kernel_rfl, by kernel_rfl, by kernel_rfl⟩⟩
theorem kF (w : World) : keepIn (KF w) (.ref 223) = true ∧ keepIn (KF w) (.ref 240) = true ∧ keepIn (KF w) (.ref 71) = true ∧ keepIn (KF w) (.ref 235) = true ∧ keepIn (KF w) (.ref 216) = true ∧ keepIn (KF w) (.ref 121) = true ∧ keepIn (KF w) (.ref 128) = true ∧ keepIn (KF w) (.ref 245) = true := ⟨by kernel_rfl, by kernel_rfl, by kernel_rfl, by kernel_rfl, by kernel_rfl, by kernel_rfl, by kernel_rfl, by kernel_rfl⟩

end
-- LD
section
open PySem PySem.W PyProof.Rows PySem.Calls PySem.Spec PySem.Builtin.Str
set_option maxRecDepth 100000
set_option maxHeartbeats 4000000
theorem frK {w : World} {hg h : Heap} {L : Addr} {m : Str → Option Value} (F : Fr hg L h m) (X : (KF w).In hg) : (KF w).In h := fun a o e => F.keep _ _ (X a o e)
section
variable {w : World} {A : Around} {E : Value → Shared → Prop} {s : Shared} {hg : Heap} {L cr cm cd fa : Addr} {Z : List Addr} {m : Str → Option Value} {vr vm vd : Option Value} {news : List (Addr × Obj)} {Q : Flow → Shared → Prop} {p : Program} {loose : List Str} {mean : ExcName → Option Value} {mg mb : Str → Option Value}
theorem stRows {x : Str} {tx : Tok} {p1 p2 p3 p4 p5 : Pos} (X : (KF w).In hg) (Tp : Top p loose mean mg mb hg) (G : LG hg) (hd : A.depth ≤ 350) (hpos : 0 < s.toks)
    (S : LSt hg L cr cm cd Z s.heap m vr vm vd news) (mt : m (Str.ofString "text") = some (.str x tx)) (hx : x.length ≤ 300)
    (hq : ∀ h' tk D vs k, LSt hg L cr cm cd Z h' m (some (.ref D)) vm vd ((D, seqObj "list" (vs : List Value).toArray k) :: news) → StrsAre vs (rowsOf x) → Q .next { s with heap := h', toks := tk }) :
    wpAny (model PG w) A (exec (.Assign [.Name (Str.ofString "rows") p1] (.Call (.Name (Str.ofString "_law_rows") p2) [.Name (Str.ofString "text") p3] [] p4) p5) (LWE L cr cm cd fa)) Q E s := by
  obtain ⟨h, g, d, t, os⟩ := s
  dsimp only at *
  obtain ⟨o3, e3, G3⟩ := G.g
  refine eAsg (cN1 (wpAny_Name (ldG (by rfl) (by rfl) (by rfl) (S.F.keep _ _ e3) G3.1 ?_)) (by rfl))
  refine cwk1 (frK S.F X) (kF w).1 (by rfl) (by rfl) (wpAny_Name (wpAny_loadName_local (by rfl) (by rfl) S.F.ns mt ⟨frK S.F X, ?_⟩))
  refine law_rows (s := ⟨h, g, d, t, os⟩) (frK S.F X) (Tp.keeps S.F.keep) (by show A.depth < 1000; exact ar4 ‹_› (by decide)) hpos (by exact ar2 ‹_› (by decide)) fun D h1 tk l _ hS _ eD nD k1 => ?_
  dsimp only at nD k1 ⊢
  have S1 := (S.keep k1).add S.F nD eD .seq
  refine wpAny_storeName_cell (c := cr) (by rfl) (by rfl) (by rfl) S1.r fun h2 c2 sb => ?_
  exact hq h2 _ D _ 0 (S1.setR c2 sb.2) hS
theorem stOrder {r : Addr} {vs : List Value} {k : Nat} {ss : List Str} {p1 p2 p3 p4 p5 : Pos} (X : (KF w).In hg) (Tp : Top p loose mean mg mb hg) (G : LG hg) (hh : A.handled = none) (hd : A.depth ≤ 350)
    (S : LSt hg L cr cm cd Z s.heap m (some (.ref r)) vm vd news) (hr : (r, seqObj "list" vs.toArray k) ∈ news) (hS : StrsAre vs ss) (hn : ss.length < 64)
    (hq : ∀ h' tk D ws k m', LSt hg L cr cm cd Z h' m' (some (.ref r)) vm vd ((D, seqObj "list" (ws : List Value).toArray k) :: news) → IntsAre ws (List.map (fun (i : Nat) => (i : Int)) (plainOf ss ss.length)) → m' (Str.ofString "order") = some (.ref D) → (∀ y, y ≠ Str.ofString "order" → m' y = m y) → Q .next { s with heap := h', toks := tk }) :
    wpAny (model PG w) A (exec (.Assign [.Name (Str.ofString "order") p1] (.Call (.Name (Str.ofString "_law_plain") p2) [.Name (Str.ofString "rows") p3] [] p4) p5) (LWE L cr cm cd fa)) Q E s := by
  obtain ⟨h, g, d, t, os⟩ := s
  dsimp only at *
  obtain ⟨o3, e3, -, G3, -⟩ := G.g
  refine eAsg (cN1 (wpAny_Name (ldG (by rfl) (by rfl) (by rfl) (S.F.keep _ _ e3) G3 ?_)) (by rfl))
  refine cwk1 (frK S.F X) (kF w).2.1 (by rfl) (by rfl) (wpAny_Name (wpAny_loadName_cell (c := cr) (by rfl) (by rfl) (by rfl) S.r ⟨frK S.F X, ?_⟩))
  refine law_plain (s := ⟨h, g, d, t, os⟩) (frK S.F X) (Tp.keeps S.F.keep) hh (by show A.depth < 1000; exact ar4 ‹_› (by decide)) ⟨_, (S.N _ hr).1, rfl, _, rfl⟩ hS hn fun D h1 tk ws cc k1 nD eD hI => ?_
  dsimp only at nD k1 ⊢
  have S1 := (S.keep k1).add S.F nD eD .seq
  refine wpAny_storeName_local (by rfl) S1.F.ns (fun h2 ns sb => ?_) (by rfl)
  exact hq h2 _ D ws cc _ (S1.set ns sb.2) hI (if_pos rfl) fun y hy => if_neg hy
end

end
-- LE
section
open PySem PySem.W PyProof.Rows PySem.Calls PySem.Spec PySem.Builtin.Str
set_option maxRecDepth 100000
set_option maxHeartbeats 4000000
section
variable {w : World} {A : Around} {E : Value → Shared → Prop} {s : Shared} {hg : Heap} {L cr cm cd fa : Addr} {Z : List Addr} {m : Str → Option Value} {vr vm vd : Option Value} {news : List (Addr × Obj)} {p : Program} {loose : List Str} {mean : ExcName → Option Value} {mg mb : Str → Option Value}
theorem evLam {pos a1 a2 : Pos} {body : Expr} {scope : Scope} {Q : Value → Shared → Prop} (X : (KF w).In hg) (hpos : pos = posQ ∨ pos = posB) (hclo : closureFor scope (LWE L cr cm cd fa) = pure [])
    (S : LSt hg L cr cm cd Z s.heap m vr vm vd news)
    (hq : ∀ f c T h' tk, LSt hg L cr cm cd Z h' m vr vm vd ((f, LamObj qLW (prmTT a1 a2) body scope [] T c) :: news) → FC qLW h' c → Q (.ref f) { s with heap := h', toks := tk }) :
    wpAny (model PG w) A (eval (.Lambda (prmTT a1 a2) body scope pos) (LWE L cr cm cd fa)) Q E s := by
  refine PySem.W.kla_eval (by rfl) ?_
  obtain ⟨ps, ct, eq, eb⟩ := S.U
  obtain ⟨o3, e3, l1, l2⟩ : ∃ o3, And3 (hg.get? 3 = some o3) (nsLook (Str.ofString "__name__") o3 = pure (some (.str (Str.ofString "law_in0041_01") 630))) (nsLook (Str.ofString "__builtins__") o3 = pure (some (.ref 4))) := ⟨_, X 3 _ rfl, by kernel_rfl, by kernel_rfl⟩
  have he : Entry (FC qLW) s.heap pos ps := by rcases hpos with rfl | rfl; exact eq; exact eb
  refine mklam (q := qLW) (P := 247) (c := 249) (bm := 4) (clo := []) rfl rfl hclo ct he (by decide) (by decide) (S.F.keep _ _ e3) l2 l1 (by decide) (S.F.keep _ _ (X 4 _ rfl)) rfl rfl rfl ?_
  intro f c T h' tk ps' k nf ct' en' oth fc eF
  have kfc : ∀ {c}, FC qLW s.heap c → FC qLW h' c := fun x => x.mono fun o e => k _ o (x.2.ne ct.table) e
  have other : ∀ pos', ((pos.line : Int) == (pos'.line : Int) && (pos.col : Int) == (pos'.col : Int)) = false → Entry (FC qLW) s.heap pos' ps → Entry (FC qLW) h' pos' ps' := fun pos' hne x => by
    rcases x with a | ⟨c, a, b⟩
    · exact .inl ((oth _ hne).trans a)
    · exact .inr ⟨c, (oth _ hne).trans a, kfc b⟩
  have eq' : Entry (FC qLW) h' posQ ps' := by
    rcases hpos with rfl | rfl
    · exact en'
    · exact other _ (by decide) eq
  have eb' : Entry (FC qLW) h' posB ps' := by
    rcases hpos with rfl | rfl
    · exact other _ (by decide) eb
    · exact en'
  refine hq f c T h' tk ((S.lam k ct' eq' eb').add S.F nf eF ⟨.inl fun _ h => (nomatch h), fun _ h => (nomatch h)⟩) fc
end

end
-- LF
section
open PySem PySem.W PyProof.Rows PySem.Calls PySem.Spec PySem.Builtin.Str
set_option maxRecDepth 100000
set_option maxHeartbeats 4000000
section
variable {w : World} {A : Around} {E : Value → Shared → Prop} {s : Shared} {hg : Heap} {L cr cm cd fa : Addr} {Z : List Addr} {m : Str → Option Value} {vr vm vd : Option Value} {news : List (Addr × Obj)} {p : Program} {loose : List Str} {mean : ExcName → Option Value} {mg mb : Str → Option Value}
theorem evRange {n : Nat} {tn : Tok} {p1 p2 p3 : Pos} {Q : Value → Shared → Prop} (G : LG hg) (S : LSt hg L cr cm cd Z s.heap m vr (some (.int (n : Int) tn)) vd news)
    (hq : ∀ R h' tk t1 t2 t3, (Ext s.heap h') → LSt hg L cr cm cd Z h' m vr (some (.int (n : Int) tn)) vd news → IsRange h' R 0 n 1 t1 t2 t3 → Q (.ref R) { s with heap := h', toks := tk }) :
    wpAny (model PG w) A (eval (.Call (.Name (Str.ofString "range") p1) [.Name (Str.ofString "many") p2] [] p3) (LWE L cr cm cd fa)) Q E s := by
  obtain ⟨h, g, d, t, os⟩ := s
  dsimp only at *
  obtain ⟨o3, e3, -, -, G3, -⟩ := G.g
  obtain ⟨o0, e0, G0, -⟩ := G.b
  refine cN1 (wpAny_Name (ldB (by rfl) (by rfl) (by rfl) (by rfl) (S.F.keep _ _ e3) G3 (S.F.keep _ _ e0) G0 ?_)) (by rfl)
  refine cwt1 (wpAny_Name (wpAny_loadName_cell (c := cm) (by rfl) (by rfl) (by rfl) S.m ?_))
  refine call_range_1 ?_
  have k := (newH (h := h) (o := { cls := .type "range", data := .fields #[.int 0 t, .int (n : Int) tn, .int 1 (t + 1)] }) rfl).1
  exact hq _ _ _ _ _ _ k (S.keep k) (IsRange.new h 0 n 1 t tn (t + 1))
theorem stSent {n : Nat} {tn tx : Tok} {x : Str} {p1 p2 a1 a2 b1 b2 b3 r1 r2 r3 t1 c1 c2 : Pos} {Q : Flow → Shared → Prop} (X : (KF w).In hg) (Tp : Top p loose mean mg mb hg) (G : LG hg) (hh : A.handled = none) (hd : A.depth ≤ 350)
    (S : LSt hg L cr cm cd Z s.heap m vr (some (.int (n : Int) tn)) vd news) (mt : m (Str.ofString "text") = some (.str x tx)) (hn : n ≤ 3) (hx : ∀ i, i < n → (Nat.repeat quote i x).length ≤ 300)
    (hq : ∀ h' tk m' t', LSt hg L cr cm cd Z h' m' vr (some (.int (n : Int) tn)) vd news → m' (Str.ofString "sent") = some (.str (Nat.repeat quote n x) t') → (∀ y, y ≠ Str.ofString "sent" → m' y = m y) → Q .next { s with heap := h', toks := tk }) :
    wpAny (model PG w) A (exec (.Assign [.Name (Str.ofString "sent") p1] (.Call (.Name (Str.ofString "reduce") p2) [.Lambda (prmTT a1 a2) (.Call (.Name (Str.ofString "quotedata") b1) [.Name (Str.ofString "told") b2] [] b3) { kind := .function, names := nmTT "quotedata", isGenerator := false, isCoroutine := false } posQ,
      .Call (.Name (Str.ofString "range") r1) [.Name (Str.ofString "many") r2] [] r3, .Name (Str.ofString "text") t1] [] c1) c2) (LWE L cr cm cd fa)) Q E s := by
  obtain ⟨h, g, d, t, os⟩ := s
  dsimp only at *
  obtain ⟨o3, e3, -, -, -, G3, -⟩ := G.g
  refine eAsg (cN3 (wpAny_Name (ldG (by rfl) (by rfl) (by rfl) (S.F.keep _ _ e3) G3 ?_)) (by rfl))
  refine cw3K (frK S.F X) (kF w).2.2.1 (by rfl) (by rfl) ?_
  refine evLam X (.inl rfl) (by rfl) S fun f c T h1 tk1 S1 fc => ?_
  refine evRange G S1 fun R h2 tk2 u1 u2 u3 k2 S2 hR => ?_
  dsimp only at k2 ⊢
  refine wpAny_Name (wpAny_loadName_local (by rfl) (by rfl) S2.F.ns mt ⟨frK S2.F X, ?_⟩)
  refine redQ (s := ⟨h2, g, d, tk2, os⟩) (frK S2.F X) (Tp.keeps S2.F.keep) (by show A.depth + 2 < 1000; exact ar6 ‹_› (by decide)) hh hn hR hx (S2.N _ (.head _)).1 (fc.keeps k2) fun h3 tk3 t3 k3 => ?_
  dsimp only at k3 ⊢
  have S3 := S2.keep k3
  refine wpAny_storeName_local (by rfl) S3.F.ns (fun h4 ns sb => ?_) (by rfl)
  exact hq h4 _ _ t3 ((S3.set ns sb.2).sub fun q hq => .tail _ hq) (if_pos rfl) fun y hy => if_neg hy
end

end
-- LH
section
open PySem PySem.W PyProof.Rows PySem.Calls PySem.Spec PySem.Builtin.Str
set_option maxRecDepth 100000
set_option maxHeartbeats 4000000
section
variable {prog : Program} {w : World} {A : Around} {E : Value → Shared → Prop} {s : Shared} {env : Env} {Q : Value → Shared → Prop}
theorem slcS {value : Expr} {j : Int} {k : Nat} {p1 p2 pos : Pos}
    (h : wpAny (model prog w) A (eval value env) (fun o s1 => Ex2 fun x t => And3 (o = .str x t) (x.length ≤ 1000) (∀ h' t' tk, (Ext s1.heap h') → Q (.str (Txt.slice x none (some j)) t') { s1 with heap := h', toks := tk })) E s)
    (ht : autoParam (∀ o r, letTemporaryGo value o r = pure ()) aR) :
    wpAny (model prog w) A (eval (.Subscript value (.Slice none (some (.Constant (.int j) k p1)) none p2) pos) env) Q E s := by
  refine eSub (wpAny_mono h (fun o s1 h1 => ?_) fun _ _ e => e)
  obtain ⟨x, t, rfl, hx, hq⟩ := h1
  refine wpAny_Slice ?_
  rw [evalPart_none, evalPart_some]
  refine wpAny_pure (wpAny_Constant_int (wpAny_pure ?_))
  exact tail_of_ItemOn (SBH.sliceItem_ns (s := { s1 with toks := s1.toks + 1 }) (P := fun h' => Ext s1.heap h') (fun h ob hp b o e => Heap.get?_push_of_some _ (hp b o e)) (fun _ _ e => e) (fun h' t' tk hp => hq h' t' tk hp) (by rw [sizeLine_eq]; exact ar2 ‹_› (by decide))) (by with_unfolding_all rfl) (fun r => ht _ r)
theorem mulDot {k : Nat} {t u : Tok} (hk : k ≤ 3) (hq : ∀ z t' tk, z.cps.toList = List.replicate k 46 → Q (.str z t') { s with toks := tk }) :
    wpAny (model prog w) A (binaryOp .Mult (.str (Str.ofString ".") t) (.int (k : Int) u)) Q E s := by
  rcases k with _ | _ | _ | _ | k
  · exact PySem.P.mul_str_none (by decide) (by decide) (hq _ _ _ (by decide))
  · exact PySem.P.mul_str (by decide) (fun _ h => absurd h (by decide)) (fun _ h => absurd h (by decide)) (by rw [if_neg (by decide), if_pos (by decide)]; exact hq _ t _ (by decide))
  · exact PySem.P.mul_str (by decide) (fun _ _ => by decide) (fun _ _ => by decide +kernel) (by rw [if_neg (by decide), if_neg (by decide)]; exact ⟨by decide +kernel, hq _ _ _ (by decide)⟩)
  · exact PySem.P.mul_str (by decide) (fun _ _ => by decide) (fun _ _ => by decide +kernel) (by rw [if_neg (by decide), if_neg (by decide)]; exact ⟨by decide +kernel, hq _ _ _ (by decide)⟩)
  · exact False.elim (lc (lR1 _) (.h (lS (lS (lS (lS z0)))) (lN 3) .f) lT hk)
theorem addS {x y : Str} {t u : Tok} (hx : x.length + y.length ≤ 2000) (hq : ∀ z t' tk, z.cps.toList = x.cps.toList ++ y.cps.toList → Q (.str z t') { s with toks := tk }) :
    wpAny (model prog w) A (binaryOp .Add (.str x t) (.str y u)) Q E s := by
  refine PySem.P.add_str ?_
  by_cases h1 : x.length = 0
  · rw [if_pos (by simpa using h1)]
    exact hq y u _ (by rw [show x.cps.toList = [] from List.eq_nil_of_length_eq_zero (by simpa [Str.length] using h1)]; rfl)
  · rw [if_neg (by simpa using h1)]
    by_cases h2 : y.length = 0
    · rw [if_pos (by simpa using h2)]
      exact hq x t _ (by rw [show y.cps.toList = [] from List.eq_nil_of_length_eq_zero (by simpa [Str.length] using h2)]; simp)
    · rw [if_neg (by simpa using h2)]
      refine ⟨?_, hq _ _ _ ?_⟩
      · show (x.cps ++ y.cps).size ≤ sizeLine
        rw [Array.size_append, sizeLine_eq]
        have : x.cps.size + y.cps.size ≤ 2000 := hx
        exact ar2 ‹_› (by decide)
      · show (x.cps ++ y.cps).toList = _
        simp
end

end
-- LI
section
open PySem PySem.W PyProof.Rows PySem.Calls PySem.Spec PySem.Builtin.Str
set_option maxRecDepth 100000
set_option maxHeartbeats 4000000
theorem slice1 (x : Str) : (Txt.slice x none (some 1)).cps.toList = x.cps.toList.take 1 := by
  obtain ⟨⟨l⟩⟩ := x
  cases l with
  | nil => decide
  | cons c t =>
    have h1 : Txt.slice ⟨⟨c :: t⟩⟩ none (some 1) = ⟨#[c]⟩ := by
      refine (StrLaws.sliceText_to (x := ⟨⟨c :: t⟩⟩) (j := 1) ⟨by decide, by simp; lia⟩).trans ?_
      simp
    rw [h1]; simp
theorem slice1_dot (x : Str) : ((Txt.slice x none (some 1)).cps.toList == (Str.ofString ".").cps.toList) = decide (x.cps.toList.head? = some 46) := by
  rw [slice1, show (Str.ofString ".").cps.toList = [46] from by decide]
  cases x.cps.toList with
  | nil => decide
  | cons c t =>
    by_cases e : c = 46 <;> simp [e]
section
variable {w : World} {A : Around} {E : Value → Shared → Prop} {s : Shared} {hg : Heap} {L cr cm cd fa : Addr} {Z : List Addr} {m : Str → Option Value} {vr vm vd : Option Value} {news : List (Addr × Obj)} {p : Program} {loose : List Str} {mean : ExcName → Option Value} {mg mb : Str → Option Value}
noncomputable abbrev SDU : Scope := { kind := .function, names := [(Str.ofString ".0", .local), (Str.ofString "row", .local), (Str.ofString "many", .free)], isGenerator := false, isCoroutine := false }
theorem stDue {r : Addr} {vs : List Value} {k n : Nat} {ss : List Str} {tn : Tok} {p1 p2 p3 p4 p5 p6 p7 p8 p9 p10 p11 p12 p13 p14 p15 p16 p17 : Pos} {Q : Flow → Shared → Prop} (hh : A.handled = none) (hn : n ≤ 3)
    (S : LSt hg L cr cm cd Z s.heap m (some (.ref r)) (some (.int (n : Int) tn)) vd news) (hr : (r, seqObj "list" vs.toArray k) ∈ news) (hS : StrsAre vs ss) (hl : ss.length < 64) (hx : ∀ x ∈ ss, x.length ≤ 300)
    (hq : ∀ h' tk D ws k, LSt hg L cr cm cd Z h' m (some (.ref r)) (some (.int (n : Int) tn)) (some (.ref D)) ((D, seqObj "list" (ws : List Value).toArray k) :: news) → StrsAre ws (ss.map (dueN n)) → Q .next { s with heap := h', toks := tk }) :
    wpAny (model PG w) A (exec (.Assign [.Name (Str.ofString "due") p1] (.ListComp (.BinOp (.BinOp (.Constant (.str (Str.ofString ".")) 0 p2) .Mult (.BinOp (.Name (Str.ofString "many") p3) .Mult (.Compare (.Subscript (.Name (Str.ofString "row") p4) (.Slice none (some (.Constant (.int 1) 0 p5)) none p6) p7) [.Eq] [.Constant (.str (Str.ofString ".")) 0 p8] p9) p10) p11) .Add (.Name (Str.ofString "row") p12) p13)
      [⟨.Name (Str.ofString "row") p14, .Name (Str.ofString "rows") p15, [], 0⟩] SDU p16) p17) (LWE L cr cm cd fa)) Q E s := by
  obtain ⟨h, g, d, t, os⟩ := s
  dsimp only at *
  refine eAsg ?_
  refine comp_list hh (show closureFor SDU (LWE L cr cm cd fa) = pure [(Str.ofString "many", cm)] from by rfl) (by decide) rfl (by decide) rfl ?_
  refine wpAny_Name (wpAny_loadName_cell (c := cr) (by rfl) (by rfl) (by rfl) S.r ?_)
  refine ⟨r, vs, fun i ys nw => nw = [] ∧ StrsAre ys ((ss.map (dueN n)).take i), rfl, ⟨_, (S.N _ hr).1, rfl, _, rfl⟩, by rw [sizeLine_eq, hS.length]; exact ar3 ‹_› (by decide), ⟨rfl, .nil⟩, ?_, ?_⟩
  · rintro C i v ys own nw h₃ tk₃ m₃ E' htk hv ⟨rfl, hJ⟩ F₃ hm N₃
    obtain ⟨x, tx, rfl, hx'⟩ := Mine.StrsAre.at hS hv
    have hxl : x.length ≤ 300 := hx x (List.mem_of_getElem? hx')
    have hb : (ss.map (dueN n)).take (i + 1) = (ss.map (dueN n)).take i ++ [dueN n x] := take_snoc (by simp [hx'])
    dsimp only at htk F₃ N₃
    rw [List.forIn_nil]
    refine wpAny_pure ?_
    rw [if_pos rfl]
    refine eBin (eBin (Calls.Constant_str (eBin (wpAny_Name ?_))))
    refine wpAny_loadName_cell (c := cm) (by rfl) (by rfl) (by rfl) (IsCell_keep S.m fun o e => F₃.keep _ o e) ?_
    refine eCmp (slcS (nmC F₃ hm ?_ rfl (by rfl) (by decide)))
    refine ⟨x, tx, rfl, by exact ar2 ‹_› (by decide), fun h₄ t₄ tk₄ k₄ => Calls.Constant_str (PySem.P.eq_str ?_)⟩
    rw [slice1_dot]
    refine PySem.IntBool.mul_int_bool ?_
    obtain ⟨q, hqn, hq3⟩ : ∃ q : Nat, ((n : Int) * if decide (x.cps.toList.head? = some 46) = true then (1 : Int) else 0) = (q : Int) ∧ q = if x.cps.toList.head? = some 46 then n else 0 := by
      by_cases c : x.cps.toList.head? = some 46
      · exact ⟨n, by simp [c], by simp [c]⟩
      · exact ⟨0, by simp [c], by simp [c]⟩
    rw [hqn]
    refine mulDot (by rw [hq3]; split <;> (first | decide | assumption)) fun z tz tkz hz => ?_
    have F₄ := Fr_up F₃ k₄
    refine nmC F₄ hm ?_ rfl (by rfl) (by decide)
    have hzl : z.length ≤ 3 := by
      show z.cps.size ≤ 3
      rw [← Array.length_toList, hz, List.length_replicate, hq3]; split <;> (first | decide | assumption)
    refine addS (by exact lc (lR2 _ _) (.h z0 (lN 300) (.h z1 (lN 3) (.g (lA z1 z0) (lN 2000)))) lT hxl hzl) fun y ty tky hy => ?_
    refine EltEnd.plain F₄ (News_keep N₃ k₄) ⟨rfl, ?_⟩
    have : y = dueN n x := ext_l (by
      rw [hy, hz, dueN_list, hq3]
      split <;> simp)
    rw [hb, this]
    exact Mine.StrsAre.snoc hJ _ _
  · rintro D h' tk ys nw k' ⟨rfl, hJ⟩ hD hget _ hk _
    have S1 := (S.keep hk).add S.F hD hget .seq
    refine wpAny_storeName_cell (c := cd) (by rfl) (by rfl) (by rfl) S1.d fun h2 c2 sb => ?_
    refine hq h2 _ D _ k' (S1.setD c2 sb.2) ?_
    rw [hS.length, List.take_of_length_le (by simp)] at hJ
    exact hJ
end

end
-- LJ
section
open PySem PySem.W PyProof.Rows PySem.Calls PySem.Spec PySem.Builtin.Str
set_option maxRecDepth 100000
set_option maxHeartbeats 4000000
theorem readsAllS {h : Heap} {vs : List Value} {ss : List Str} (hS : StrsAre vs ss) : ReadsAll h vs (ss.map PyData.str) [] := by
  induction hS with
  | nil => exact .nil
  | cons x t _ ih => exact .cons (.str x t) ih
theorem readsS {h : Heap} {a : Addr} {vs : List Value} {ss : List Str} {k : Nat} (e : h.get? a = some (seqObj "list" vs.toArray k)) (hS : StrsAre vs ss) : Reads h (.ref a) (.list (ss.map PyData.str)) [a] :=
  .list e rfl rfl (by simpa using readsAllS hS)
theorem readsI {h : Heap} {a : Addr} {vs : List Value} {ns : List Int} {k : Nat} (e : h.get? a = some (seqObj "list" vs.toArray k)) (hI : IntsAre vs ns) : Reads h (.ref a) (.list (ns.map PyData.int)) [a] := reads_of_ints ⟨_, e, rfl, _, rfl⟩ hI
noncomputable abbrev Okk (ss : List Str) : Prop := ∀ x ∈ ss, PyData.strOk x = true
theorem layS : ∀ ss : List Str, Okk ss → PyData.canLayAll0 (ss.map PyData.str) = true ∧ PyData.depthAll (ss.map PyData.str) = 0
  | [], _ => ⟨rfl, rfl⟩
  | x :: r, h => by
    obtain ⟨a, b⟩ := layS r fun y hy => h y (.tail _ hy)
    exact ⟨by simp [PyData.canLayAll0, PyData.canLay0, a, h x (.head _)], by simp [PyData.depthAll, PyData.depth, b]⟩
theorem layI : ∀ ss : List Int, PyData.canLayAll0 (ss.map PyData.int) = true ∧ PyData.depthAll (ss.map PyData.int) = 0
  | [] => ⟨rfl, rfl⟩
  | x :: r => by
    obtain ⟨a, b⟩ := layI r
    exact ⟨by simp [PyData.canLayAll0, PyData.canLay0, a], by simp [PyData.depthAll, PyData.depth, b]⟩
theorem shpS {ss : List Str} (h : Okk ss) : SeqAt.shaped (.list (ss.map PyData.str)) = true := by
  obtain ⟨a, b⟩ := layS ss h
  unfold SeqAt.shaped
  simp [PyData.canLay0, PyData.depth, a, b]
theorem shpI (ss : List Int) : SeqAt.shaped (.list (ss.map PyData.int)) = true := by
  obtain ⟨a, b⟩ := layI ss
  unfold SeqAt.shaped
  simp [PyData.canLay0, PyData.depth, a, b]
theorem shpSS {s1 s2 : List Str} (h1 : Okk s1) (h2 : Okk s2) : SeqAt.shaped (.tuple [.list (s1.map PyData.str), .list (s2.map PyData.str)]) = true := by
  obtain ⟨a, b⟩ := layS s1 h1
  obtain ⟨c, d⟩ := layS s2 h2
  unfold SeqAt.shaped
  simp [PyData.canLay0, PyData.canLayAll0, PyData.depth, PyData.depthAll, a, b, c, d]
section
variable {prog : Program} {w : World} {A : Around} {E : Value → Shared → Prop} {s : Shared} {Q : Value → Shared → Prop}
theorem neSame {a b : Value} {d : PyData} {as bs : List Addr} (S : Shape) (hS : SeqAt.plainShape S = true) (hd : S.has d = true) (ra : Reads s.heap a d as) (rb : Reads s.heap b d bs) (sh : SeqAt.shaped d = true) (hu : A.units + 64 < cLine)
    (h : Q (.bool false) s) : wpAny (model prog w) A (compareOp .NotEq a b) Q E s :=
  ne_dataH_same ra rb sh sh hu (SeqAt.noMix_of_shape S hS d d hd hd) (by rw [PySem.Spec.same_self]; exact h)
end

end
-- LK
section
open PySem PySem.W PyProof.Rows PySem.Calls PySem.Spec PySem.Builtin.Str
set_option maxRecDepth 100000
set_option maxHeartbeats 4000000
section
variable {prog : Program} {w : World} {A : Around} {E : Value → Shared → Prop} {s : Shared} {env : Env}
theorem ifOr2 {c1 c2 : Expr} {p1 p2 : Pos} {body : List Stmt} {Q : Flow → Shared → Prop}
    (h : wpAny (model prog w) A (isTrue c1 env (eval c1 env)) (fun b s1 => b = false ∧ wpAny (model prog w) A (isTrue c2 env (eval c2 env)) (fun b2 s2 => b2 = false ∧ Q .next s2) E s1) E s) :
    wpAny (model prog w) A (exec (.If (.BoolOp .Or [c1, c2] p1) body [] p2) env) Q E s := by
  refine wpAny_If (wpAny_isTrue_BoolOp (wpAny_allTrue_Or_cons (wpAny_mono h (fun b s1 h1 => ?_) fun _ _ e => e)))
  obtain ⟨rfl, h1⟩ := h1
  rw [if_neg (by decide)]
  refine wpAny_allTrue_Or_cons (wpAny_mono h1 (fun b s2 h2 => ?_) fun _ _ e => e)
  obtain ⟨rfl, h2⟩ := h2
  rw [if_neg (by decide)]
  refine wpAny_allTrue_Or_nil ?_
  rw [if_neg (by decide)]
  exact wpAny_execs_nil h2
theorem if1 {c1 : Expr} {p2 : Pos} {body : List Stmt} {Q : Flow → Shared → Prop}
    (h : wpAny (model prog w) A (isTrue c1 env (eval c1 env)) (fun b s1 => b = false ∧ Q .next s1) E s) : wpAny (model prog w) A (exec (.If c1 body [] p2) env) Q E s := by
  refine wpAny_If (wpAny_mono h (fun b s1 h1 => ?_) fun _ _ e => e)
  obtain ⟨rfl, h1⟩ := h1
  rw [if_neg (by decide)]
  exact wpAny_execs_nil h1
theorem joinC {sep : Str} {e : Expr} {p1 p2 p3 : Pos} {Q : Value → Shared → Prop} (hl : (p2.endLine == p3.line) = true) (hs : starEach [e] env = [(false, eval e env)]) (hsep : sep.length ≤ 64)
    (h : wpAny (model prog w) A (eval e env) (fun v s1 => Ex4 fun D vs ys k => And6 (v = .ref D) (s1.heap.get? D = some (seqObj "list" (vs : List Value).toArray k)) (StrsAre vs ys) ((∀ y ∈ ys, y.length ≤ 1000)) (ys.length ≤ 100) (∀ t' tk, 0 < tk → Q (.str (Txt.join sep ys) t') { s1 with toks := tk })) E { s with toks := s.toks + 1 }) :
    wpAny (model prog w) A (eval (.Call (.Attribute (.Constant (.str sep) 0 p1) (Str.ofString "join") p2) [e] [] p3) env) Q E s := by
  refine aM (trees := [(false, eval e env)]) (by rw [hs]; rfl) rfl (by rfl) hl (Calls.Constant_str (GM.join (wpAny_with_toks (n := 1) (by show 1 ≤ s.toks + 1; exact lc (lR1 _) (.g (lN 1) (lS z0)) lT) (cwb1 (wpAny_mono h (fun v s1 h1 => ?_) fun _ _ e _ => e)))))
  obtain ⟨D, vs, ys, k, rfl, e, hS, hy, hn, hq⟩ := h1
  show wpAny _ _ (call (.builtin "str.join") [.str sep s.toks, .ref D]) _ _ _
  refine join_listC ⟨_, e, rfl, _, rfl⟩ (by simpa using hS) hsep ?_ hq
  have := StrLaws.sumLen_le ys hy
  have h2 : ys.length * 1000 ≤ 100 * 1000 := Nat.mul_le_mul_right _ hn
  have h3 : ys.length * 64 ≤ 100 * 64 := Nat.mul_le_mul_right _ hn
  lia
end
section
variable {w : World} {A : Around} {E : Value → Shared → Prop} {s : Shared} {hg : Heap} {L cr cm cd fa : Addr} {Z : List Addr} {m : Str → Option Value} {vr vm vd : Option Value} {news : List (Addr × Obj)} {p : Program} {loose : List Str} {mean : ExcName → Option Value} {mg mb : Str → Option Value}
theorem evRows {x : Str} {tx : Tok} {p2 p3 p4 : Pos} {Q : Value → Shared → Prop} (X : (KF w).In hg) (Tp : Top p loose mean mg mb hg) (G : LG hg) (hd : A.depth ≤ 350) (hpos : 0 < s.toks)
    (S : LSt hg L cr cm cd Z s.heap m vr vm vd news) (mt : m (Str.ofString "sent") = some (.str x tx)) (hx : x.length ≤ 300)
    (hq : ∀ h' tk D vs, LSt hg L cr cm cd Z h' m vr vm vd ((D, seqObj "list" (vs : List Value).toArray 0) :: news) → StrsAre vs (rowsOf x) → (∀ a ∈ rowsOf x, a.length ≤ x.length) → s.heap.get? D = none → (Ext s.heap h') → Q (.ref D) { s with heap := h', toks := tk }) :
    wpAny (model PG w) A (eval (.Call (.Name (Str.ofString "_law_rows") p2) [.Name (Str.ofString "sent") p3] [] p4) (LWE L cr cm cd fa)) Q E s := by
  obtain ⟨h, g, d, t, os⟩ := s
  dsimp only at *
  obtain ⟨o3, e3, G3⟩ := G.g
  refine cN1 (wpAny_Name (ldG (by rfl) (by rfl) (by rfl) (S.F.keep _ _ e3) G3.1 ?_)) (by rfl)
  refine cwk1 (frK S.F X) (kF w).1 (by rfl) (by rfl) (wpAny_Name (wpAny_loadName_local (by rfl) (by rfl) S.F.ns mt ⟨frK S.F X, ?_⟩))
  refine law_rows (s := ⟨h, g, d, t, os⟩) (frK S.F X) (Tp.keeps S.F.keep) (by show A.depth < 1000; exact ar4 ‹_› (by decide)) hpos (by exact ar2 ‹_› (by decide)) fun D h1 tk l _ hS hle eD nD k1 => ?_
  exact hq h1 tk D _ ((S.keep k1).add S.F nD eD .seq) hS hle nD k1
theorem stCheck1 {r du : Addr} {vs ws : List Value} {k1 k2 n : Nat} {x : Str} {tn ts : Tok} {q1 q2 q3 q4 q5 q6 q7 q8 q9 q10 q11 q12 q13 q14 q15 q16 q17 q18 q19 q20 q21 q22 q23 : Pos} {body : List Stmt} {Q : Flow → Shared → Prop} (X : (KF w).In hg) (Tp : Top p loose mean mg mb hg) (G : LG hg) (hh : A.handled = none) (hd : A.depth ≤ 350) (hu : A.units ≤ 100) (hpos : 0 < s.toks) (hn1 : 1 ≤ n) (hn : n ≤ 3)
    (S : LSt hg L cr cm cd Z s.heap m (some (.ref r)) (some (.int (n : Int) tn)) (some (.ref du)) news) (hr : (r, seqObj "list" vs.toArray k1) ∈ news) (hu_ : (du, seqObj "list" ws.toArray k2) ∈ news) (hS : StrsAre vs (rowsOf x)) (hD : StrsAre ws ((rowsOf x).map (dueN n)))
    (msn : m (Str.ofString "sent") = some (.str (Nat.repeat quote n x) ts)) (hx : (Nat.repeat quote n x).length ≤ 300) (hl : (rowsOf x).length < 64) (hok : Okk (rowsOf x)) (hlp : (q3.endLine == q5.line) = true)
    (hq : ∀ h' tk, LSt hg L cr cm cd Z h' m (some (.ref r)) (some (.int (n : Int) tn)) (some (.ref du)) news → Q .next { s with heap := h', toks := tk }) :
    wpAny (model PG w) A (exec (.If (.BoolOp .Or [.Compare (.Name (Str.ofString "sent") q1) [.NotEq] [.Call (.Attribute (.Constant (.str (Str.ofString "\r\n")) 0 q2) (Str.ofString "join") q3) [.Name (Str.ofString "due") q4] [] q5] q6,
      .Compare (.Call (.Name (Str.ofString "reduce") q7) [.Lambda (prmTT q8 q9) (.Call (.Name (Str.ofString "_law_bare") q10) [.Name (Str.ofString "told") q11] [] q12) { kind := .function, names := nmTT "_law_bare", isGenerator := false, isCoroutine := false } posB, .Call (.Name (Str.ofString "range") q13) [.Name (Str.ofString "many") q14] [] q15, .Call (.Name (Str.ofString "_law_rows") q16) [.Name (Str.ofString "sent") q17] [] q18] [] q19) [.NotEq] [.Name (Str.ofString "rows") q20] q21] q22) body [] q23) (LWE L cr cm cd fa)) Q E s := by
  refine ifOr2 (eTst ?_)
  refine wpAny_Name (wpAny_loadName_local (by rfl) (by rfl) S.F.ns msn ?_)
  obtain ⟨q, rfl⟩ : ∃ q, n = q + 1 := ⟨n - 1, by exact Nat.le_antisymm (lc (lR2 _ _) (.h z0 (lA z1 (lN 1)) (.g z0 (lS z1))) lT (lU _ _)) (lc (lR2 _ _) (.e (lA z0 (lN 1)) z1 (.g (lS z0) z1)) lT (Nat.sub_add_cancel hn1))⟩
  have hj : Str.join (Str.ofString "\r\n") ((rowsOf x).map (dueN (q + 1))) = Nat.repeat quote (q + 1) x := by rw [show Str.ofString "\r\n" = ⟨#[13, 10]⟩ from by decide +kernel]; exact (rep_join x q).symm
  have hlen : ∀ y ∈ (rowsOf x).map (dueN (q + 1)), y.length ≤ 1000 := fun y hy => by
    have := PySem.join_mem_le (Str.ofString "\r\n") _ y hy
    rw [hj] at this; exact lc (lR2 _ _) (.h z0 (lN 300) (.h z1 z0 (.g z1 (lN 1000)))) lT hx this
  refine joinC hlp (by rfl) (by decide) (wpAny_Name (wpAny_loadName_cell (c := cd) (by rfl) (by rfl) (by rfl) S.d ?_))
  refine ⟨du, ws, _, k2, rfl, (S.N _ hu_).1, hD, hlen, by rw [List.length_map]; exact ar3 ‹_› (by decide), fun t' tk hpos' => PySem.P.ne_str (wpAny_truthy_bool ?_)⟩
  rw [show Txt.join (Str.ofString "\r\n") ((rowsOf x).map (dueN (q + 1))) = Nat.repeat quote (q + 1) x from (StrLaws.glued_eq_join _ _).trans hj]
  refine ⟨by simp, eTst ?_⟩
  
  obtain ⟨h, g, d, t, os⟩ := s
  dsimp only at *
  obtain ⟨o3, e3, -, -, -, G3, -⟩ := G.g
  refine cN3 (wpAny_Name (ldG (by rfl) (by rfl) (by rfl) (S.F.keep _ _ e3) G3 ?_)) (by rfl)
  refine cw3K (frK S.F X) (kF w).2.2.1 (by rfl) (by rfl) ?_
  refine wpAny_with_toks (n := 1) hpos' (evLam X (.inr rfl) (by rfl) S fun f c T h1 tk1 S1 fc hp1 => ?_)
  refine wpAny_with_toks (n := 1) hp1 (evRange G S1 fun R h2 tk2 u1 u2 u3 k2 S2 hR hp2 => ?_)
  refine evRows X Tp G hd hp2 S2 msn hx fun h3 tk3 D' vs' S3 hS3 hle nD3 k3 => ⟨frK S3.F X, ?_⟩
  dsimp only at k2 k3 ⊢
  have hre : Nat.repeat (List.map bareOf) (q + 1) (rowsOf (Nat.repeat quote (q + 1) x)) = rowsOf x := by rw [rows_rep, bare_rep]
  refine redB (s := ⟨h3, g, d, tk3, os⟩) (frK S3.F X) (Tp.keeps S3.F.keep) (by show A.depth + 2 < 1000; exact ar6 ‹_› (by decide)) hh hn (k3 _ _ hR) ⟨_, (S3.N _ (.head _)).1, rfl, _, rfl⟩ hS3 (by rw [rows_rep, List.length_map]; exact ar3 ‹_› (by decide)) (fun y hy => by have := hle y hy; exact lc (lR2 _ _) (.h z0 (lN 300) (.h z1 z0 (.g z1 (lN 1000)))) lT hx this) (S3.N _ (.tail _ (.head _))).1 ((fc.keeps k2).keeps k3) (fun D h4 tk4 ys h1n k4 hL hY => ?_) hn1
  rw [hre] at hY
  dsimp only at k4 hL ⊢
  have S4 := S3.keep k4
  refine wpAny_Name (wpAny_loadName_cell (c := cr) (by rfl) (by rfl) (by rfl) S4.r ?_)
  obtain ⟨oD, a1, a2, a3, a4⟩ := hL
  refine neSame (.list .str) rfl ?_ (Reads.list a1 a2 a4 (by simpa using readsAllS hY)) (readsS (S4.N _ (.tail _ (.tail _ hr))).1 hS) (shpS hok) (by show A.units + 64 < 9900; exact ar6 ‹_› (by decide)) (wpAny_truthy_bool ⟨rfl, ?_⟩)
  · exact hasL _ _ _ fun _ => rfl
  · exact hq h4 tk4 (S4.sub fun q hq' => .tail _ (.tail _ hq'))
end

end
-- LL
section
open PySem PySem.W PyProof.Rows PySem.Calls PySem.Spec PySem.Builtin.Str
set_option maxRecDepth 100000
set_option maxHeartbeats 4000000
section
variable {w : World} {A : Around} {E : Value → Shared → Prop} {s : Shared} {hg : Heap} {L cr cm cd fa : Addr} {Z : List Addr} {m : Str → Option Value} {vr vm vd : Option Value} {news : List (Addr × Obj)} {p : Program} {loose : List Str} {mean : ExcName → Option Value} {mg mb : Str → Option Value}
theorem ordNe {e : Expr} {od : Addr} {os : List Value} {k : Nat} {ns : List Int} {p1 p2 p3 p4 : Pos} {Q : Bool → Shared → Prop} (X : (KF w).In hg) (Tp : Top p loose mean mg mb hg) (G : LG hg) (hh : A.handled = none) (hd : A.depth ≤ 350) (hu : A.units ≤ 100)
    (S : LSt hg L cr cm cd Z s.heap m vr vm vd news) (ho : (od, seqObj "list" os.toArray k) ∈ news) (hI : IntsAre os ns) (mo : m (Str.ofString "order") = some (.ref od))
    (hs1 : starEach [e] (LWE L cr cm cd fa) = [(false, eval e (LWE L cr cm cd fa))])
    (he : wpAny (model PG w) A (eval e (LWE L cr cm cd fa)) (fun v s1 => Ex5 fun l vs ss kk news' => And8 (v = .ref l) (LSt hg L cr cm cd Z s1.heap m vr vm vd news') ((∀ q ∈ news, q ∈ news')) (s1.heap.get? l = some (seqObj "list" (vs : List Value).toArray kk)) (StrsAre vs ss) (ss.length < 64) ((∀ (p' : List Nat), p'.Perm (List.range ss.length) → p'.Pairwise (Bef (ltOf (twr ss))) → p'.map (fun (i : Nat) => (i : Int)) = ns)) (∀ h' tk Z', LSt hg L cr cm cd Z' h' m vr vm vd news' → Q false { s1 with heap := h', toks := tk })) E s) :
    wpAny (model PG w) A (isTrue (.Compare (.Call (.Name (Str.ofString "_law_order") p1) [e] [] p2) [.NotEq] [.Name (Str.ofString "order") p3] p4) (LWE L cr cm cd fa) (eval (.Compare (.Call (.Name (Str.ofString "_law_order") p1) [e] [] p2) [.NotEq] [.Name (Str.ofString "order") p3] p4) (LWE L cr cm cd fa))) Q E s := by
  obtain ⟨h, g, d, t, os⟩ := s
  obtain ⟨o3, e3, -, -, -, -, G3, -⟩ := G.g
  refine eTst (cN1 (wpAny_Name (ldG (by rfl) (by rfl) (by rfl) (S.F.keep _ _ e3) G3 ?_)) hs1)
  refine cwk1 (frK S.F X) (kF w).2.2.2.1 hs1 (by rfl) (wpAny_mono he (fun v s1 h1 => ?_) fun _ _ e => e)
  obtain ⟨l, vs, ss, kk, news', rfl, S1, hsub, el, hS, hn, hp, hq⟩ := h1
  refine ⟨frK S1.F X, ?_⟩
  refine law_order S1.F.keep S1.T X Tp hh (by show A.units + 5 < 9900; exact ar6 ‹_› (by decide)) (by show A.depth + 4 < 1000; exact ar6 ‹_› (by decide)) ⟨_, el, rfl, _, rfl⟩ hS hn fun D h2 tk2 ws p' cc Z' k2 nD eD hI2 pe pw T2 hin _ => ?_
  have S2 := S1.order k2 T2 hin
  refine wpAny_Name (wpAny_loadName_local (by rfl) (by rfl) S2.F.ns mo ?_)
  rw [hp p' pe pw] at hI2
  refine neSame (.list .int) rfl ?_ (readsI eD hI2) (readsI (S2.N _ (hsub _ ho)).1 hI) (shpI ns) (by show A.units + 64 < 9900; exact ar6 ‹_› (by decide)) (wpAny_truthy_bool (hq h2 tk2 Z' S2))
  exact hasL _ _ _ fun _ => rfl
theorem stCheck2 {r od : Addr} {vs os : List Value} {k1 k2 n : Nat} {x : Str} {ts : Tok} {q1 q2 q3 q4 q5 q6 q7 q8 q9 q10 q11 q12 q13 p2 : Pos} {body : List Stmt} {Q : Flow → Shared → Prop} (X : (KF w).In hg) (Tp : Top p loose mean mg mb hg) (G : LG hg) (hh : A.handled = none) (hd : A.depth ≤ 350) (hu : A.units ≤ 100) (hpos : 0 < s.toks)
    (S : LSt hg L cr cm cd Z s.heap m (some (.ref r)) vm vd news) (hr : (r, seqObj "list" vs.toArray k1) ∈ news) (ho : (od, seqObj "list" os.toArray k2) ∈ news) (hS : StrsAre vs (rowsOf x)) (hI : IntsAre os (List.map (fun (i : Nat) => (i : Int)) (plainOf (rowsOf x) (rowsOf x).length)))
    (mo : m (Str.ofString "order") = some (.ref od)) (msn : m (Str.ofString "sent") = some (.str (Nat.repeat quote n x) ts)) (hx : (Nat.repeat quote n x).length ≤ 300) (hl : (rowsOf x).length < 64)
    (hq : ∀ h' tk Z', LSt hg L cr cm cd Z' h' m (some (.ref r)) vm vd news → Q .next { s with heap := h', toks := tk }) :
    wpAny (model PG w) A (exec (.If (.BoolOp .Or [.Compare (.Call (.Name (Str.ofString "_law_order") q1) [.Name (Str.ofString "rows") q2] [] q3) [.NotEq] [.Name (Str.ofString "order") q4] q5,
      .Compare (.Call (.Name (Str.ofString "_law_order") q6) [.Call (.Name (Str.ofString "_law_rows") q7) [.Name (Str.ofString "sent") q8] [] q9] [] q10) [.NotEq] [.Name (Str.ofString "order") q11] q12] q13) body [] p2) (LWE L cr cm cd fa)) Q E s := by
  refine ifOr2 (wpAny_with_toks (n := 1) hpos (ordNe X Tp G hh hd hu S ho hI mo (by rfl) ?_))
  refine wpAny_Name (wpAny_loadName_cell (c := cr) (by rfl) (by rfl) (by rfl) S.r ?_)
  refine ⟨r, vs, _, k1, news, rfl, S, fun _ h => h, (S.N _ hr).1, hS, hl, fun p' a b => by rw [order_plain _ a b], fun h1 tk1 Z1 S1 hp1 => ⟨rfl, ?_⟩⟩
  refine ordNe X Tp G hh hd hu S1 ho hI mo (by rfl) ?_
  refine evRows X Tp G hd hp1 S1 msn hx fun h2 tk2 D ys S2 hS2 _ nD k2 => ?_
  rw [rows_rep] at hS2
  exact ⟨D, ys, _, 0, _, rfl, S2, fun _ h => .tail _ h, (S2.N _ (.head _)).1, hS2, by rw [List.length_map]; exact hl, fun p' a b => by rw [order_due _ _ a b], fun h3 tk3 Z3 S3 => ⟨rfl, hq h3 tk3 Z3 (S3.sub fun _ h => .tail _ h)⟩⟩
end

end
-- LM
section
open PySem PySem.W PyProof.Rows PySem.Calls PySem.Spec PySem.Builtin.Str
set_option maxRecDepth 100000
set_option maxHeartbeats 4000000
section
variable {prog : Program} {w : World} {A : Around} {E : Value → Shared → Prop} {env : Env} {s : Shared}
theorem compLoopT {elt target iter : Expr} {ifs : List Expr} {scope : Scope} {pos : Pos} {it acc : Value} {R : Result → Shared → Prop} (I : Nat → Shared → Prop)
    (turn : ∀ n s, I n s → ∀ E', wpAny (model prog w) A (pyNext it) (fun r s₁ => match r with
      | none => R (.ok .next) s₁
      | some v => wpAny (model prog w) A (letOwnedTupleGo target it v) (fun _ s₀ => wpAny (model prog w) A (assign target env v) (fun _ s₂ =>
          wpAny (model prog w) A (forIn ifs true fun c r => if r = true then do let ok ← isTrue c env (eval c env); pure (ForInStep.yield ok) else pure (ForInStep.yield r)) (fun ok s₃ =>
            if ok = true then wpAny (model prog w) A (eval elt env) (fun x s₄ =>
              wpAny (model prog w) A (call (.builtin "list.append") [acc, x]) (fun _ s₅ => ∃ m, m < n ∧ I m s₅) E' s₄) E' s₃
            else ∃ m, m < n ∧ I m s₃) E' s₂) E' s₀) E' s₁) E' s)
    (n : Nat) (h : I n s) : codeAny (model prog w) A (.compLoop (.ListComp elt [⟨target, iter, ifs, 0⟩] scope pos) 0 it acc env) R s := by
  refine codeAny_loop rfl I (fun n s hI => ?_) n h
  show wpAny _ A ((compTurn (.ListComp elt [⟨target, iter, ifs, 0⟩] scope pos) 0 it acc env).onRaise (fun x => do noteFrame x env; theTreesLotGoes x)) _ _ s
  refine wpAny_noted ?_
  rw [compTurn_list]
  refine wpAny_bind (wpAny_standAt (wpAny_bind (wpAny_mono (turn n s hI _) (fun r s₁ h₁ => ?_) fun _ _ h' => h')))
  cases r with
  | none => exact wpAny_pure h₁
  | some v =>
    refine wpAny_bind (wpAny_mono h₁ (fun _ s₀ h₀ => ?_) fun _ _ h' => h')
    refine wpAny_bind (wpAny_mono h₀ (fun _ s₂ h₂ => wpAny_bind (wpAny_mono h₂ (fun ok s₃ h₃ => ?_) fun _ _ h' => h')) fun _ _ h' => h')
    cases ok with
    | false => exact wpAny_pure ⟨rfl, h₃⟩
    | true => exact wpAny_bind (wpAny_bind (wpAny_mono h₃ (fun x s₄ h₄ => wpAny_bind (wpAny_mono h₄ (fun _ s₅ h₅ => wpAny_pure (wpAny_pure ⟨rfl, h₅⟩)) fun _ _ h' => h')) fun _ _ h' => h'))
noncomputable def selT (tst : Nat → Value → Bool) (vs : List Value) (i : Nat) : List Value := (List.range i).filterMap fun j => match vs[j]? with | some v => if tst j v = true then some v else none | none => none
theorem selT_succ (tst : Nat → Value → Bool) {vs : List Value} {i : Nat} {v : Value} (h : vs[i]? = some v) : selT tst vs (i + 1) = selT tst vs i ++ if tst i v = true then [v] else [] := by
  unfold selT
  rw [List.range_succ, List.filterMap_append]
  simp only [List.filterMap_cons, List.filterMap_nil, h]
  by_cases q : tst i v = true <;> simp [q]
theorem selT_len (tst : Nat → Value → Bool) (vs : List Value) (i : Nat) : (selT tst vs i).length ≤ i := by
  unfold selT
  exact Nat.le_trans (List.length_filterMap_le _ _) (by simp)
end

end
-- LN
section
open PySem PySem.W PyProof.Rows PySem.Calls PySem.Spec PySem.Builtin.Str
set_option maxRecDepth 100000
set_option maxHeartbeats 4000000
section
variable {prog : Program} {w : World} {A : Around} {E : Value → Shared → Prop} {env : Env} {s : Shared}
noncomputable def EnumTurn (prog : Program) (w : World) (A : Around) (env : Env) (scope : Scope) (cl : List (Str × Addr)) (xk xv : Str) (ifs : List Expr) (elt : Expr) (tst : Nat → Value → Bool) (vs : List Value) (h₀ : Heap) (s₁ : Shared) : Prop :=
  ∀ (C : Addr) (i : Nat) (v : Value) (tk : Tok) (h₃ : Heap) (tk₃ : Nat) (m₃ : Str → Option Value) (E' : Value → Shared → Prop), vs[i]? = some v → Fr h₀ C h₃ m₃ → m₃ xk = some (.int (i : Int) tk) → m₃ xv = some v →
    wpAny (model prog w) A (forIn ifs true fun c r => if r = true then do let ok ← isTrue c (compEnvC scope cl C env) (eval c (compEnvC scope cl C env)); pure (ForInStep.yield ok) else pure (ForInStep.yield r))
      (fun ok s₄ => Ex2 fun h₄ tk₄ => And4 (s₄ = { s₁ with heap := h₄, toks := tk₄ }) ((Ext h₃ h₄)) (ok = tst i v) ((ok = true → wpAny (model prog w) A (eval elt (compEnvC scope cl C env)) (fun y s₅ => Ex2 fun h₅ tk₅ => And3 (s₅ = { s₁ with heap := h₅, toks := tk₅ }) ((Ext h₄ h₅)) (y = v)) E' s₄)))
      E' { s₁ with heap := h₃, toks := tk₃ }
noncomputable def EnumDone (prog : Program) (w : World) (A : Around) (E : Value → Shared → Prop) (u : Value → Sem Unit) (res : List Value) (h₀ : Heap) (Q : Value → Shared → Prop) (s₁ : Shared) : Prop :=
  ∀ D C h' tk m' k, h₀.get? D = none → h₀.get? C = none → D ≠ C → h'.Ns C m' → h'.get? D = some (seqObj "list" res.toArray k) → (Ext h₀ h') →
    wpAny (model prog w) A (u (.ref D)) (fun _ s'' => ∃ m, s''.heap.Ns C m ∧ ∀ h'', Heap.SameBut C s''.heap h'' → Q .none { s'' with heap := h'' }) E { s₁ with heap := h', toks := tk }
theorem comp_enumU {elt iter : Expr} {xk xv : Str} {pk pv pt : Pos} {x1 : Nat} {ifs : List Expr} {scope : Scope} {cl : List (Str × Addr)} {pos pos' : Pos} {u : Value → Sem Unit} {Q : Value → Shared → Prop} (tst : Nat → Value → Bool) (hh : A.handled = none)
    (hclos : closureFor scope env = pure cl) (hcell : ∀ y ∈ scope.names, y.2 ≠ .cell) (hkind : scope.kind = .function)
    (hnames : ∀ y ∈ scope.names, y.2 = .local → scope.names.lookup y.1 = some .local) (hxk : scope.names.lookup xk = some .local) (hxv : scope.names.lookup xv = some .local) (hkv : xk ≠ xv)
    (h : wpAny (model prog w) A (eval iter env) (fun xe s₁ => Ex6 fun e it l vs kk h₀ => And12 (xe = .ref e) (IsEnum s₁.heap e it 0 .none) (s₁.heap.IsListIter it l 0) (h₀.get? l = some (seqObj "list" (vs : List Value).toArray kk)) ((Ext h₀ s₁.heap)) (h₀.get? e = none) (h₀.get? it = none) (e ≠ it) (h₀.objs.size ≤ s₁.heap.objs.size) (vs.length ≤ 1000) (EnumTurn prog w A env scope cl xk xv ifs elt tst vs h₀ s₁) (EnumDone prog w A E u (selT tst vs vs.length) h₀ Q s₁)) E s)
    (hs : autoParam (∀ x, foldedSetIterable iter env x = pure x) aR) :
    wpAny (model prog w) A (comprehension (.ListComp elt [⟨.Tuple [.Name xk pk, .Name xv pv] x1 pt, iter, ifs, 0⟩] scope pos) scope env pos' (newList []) false (eval iter env) (some u)) Q E s := by
  refine wpAny_comprehension_free (use := some u) rfl hs hclos hkind hnames (wpAny_mono h (fun xe s₁ h₁ => ?_) fun _ _ e => e)
  obtain ⟨e, it, l, vs, kk, h₀, rfl, he, hit, hl, hk₀, ne0, ni0, hei, hz0, hsz, turn, done⟩ := h₁
  refine wpAny_pyIter_enum he ?_
  refine wpAny_newObj_type (wpAny_newFunctionEnv hcell (by intro y hy; simp at hy) (fun h₁ hns₁ hsb₁ => ?_) hkind)
  dsimp only at hns₁ hsb₁ ⊢
  generalize hH2 : s₁.heap.push { cls := .type "list", dict := none, data := .seq ([] : List Value).toArray } = H2 at hns₁ hsb₁ ⊢
  have hC : H2.objs.size = s₁.heap.objs.size + 1 := by rw [← hH2, Heap.size_push]
  have hDC : s₁.heap.objs.size ≠ H2.objs.size := by rw [hC]; exact Nat.ne_of_lt (Nat.lt_succ_self _)
  have old : Ext s₁.heap h₁ := fun b o x => hsb₁.extBut b o (by have := Heap.lt_size x; rw [hC]; exact Nat.ne_of_lt (Nat.lt_succ_of_lt this)) (Heap.get?_push_of_some _ (hH2 ▸ Heap.get?_push_of_some _ x))
  have hD₁ : h₁.get? s₁.heap.objs.size = some (seqObj "list" ([] : List Value).toArray 0) := hsb₁.extBut _ _ hDC (Heap.get?_push_of_some _ (hH2 ▸ Heap.get?_push_size _ rfl))
  have nD : s₁.heap.get? s₁.heap.objs.size = none := Heap.get?_none_of_le (Nat.le_refl _)
  have nC : s₁.heap.get? H2.objs.size = none := Heap.get?_none_of_le (by rw [hC]; exact Nat.le_succ _)
  have hxkc : ∀ C, (compEnvC scope cl C env).kindOf xk = some .local := fun C => lookup_relabel_local hxk
  have hxvc : ∀ C, (compEnvC scope cl C env).kindOf xv = some .local := fun C => lookup_relabel_local hxv
  have hpc : ∀ C, ((compEnvC scope cl C env).scope.kind == .class || ((compEnvC scope cl C env).scope.kind == .module && (compEnvC scope cl C env).locals != (compEnvC scope cl C env).globals)) = false := fun C => by simp [compEnvC, relabel, hkind]
  have hzC : h₀.objs.size ≤ H2.objs.size := by rw [hC]; exact lc (lR2 _ _) (.h z0 z1 (.g z0 (lS z1))) lT hz0
  have he₁ : IsEnum h₁ e it 0 .none := old _ _ he
  have hit₁ : h₁.IsListIter it l 0 := by obtain ⟨o, a, b⟩ := hit; exact ⟨o, old _ _ a, b⟩
  have eD : e ≠ s₁.heap.objs.size := fresh_ne nD he
  have eC : e ≠ H2.objs.size := fresh_ne nC he
  obtain ⟨oit, hoit, -⟩ := id hit
  have iD : it ≠ s₁.heap.objs.size := fresh_ne nD hoit
  have iC : it ≠ H2.objs.size := fresh_ne nC hoit
  clear hH2 hsb₁ hoit oit
  have F₁ : Fr h₀ H2.objs.size h₁ _ := ⟨hns₁, fun b o x => old _ _ (hk₀ b o x), hzC⟩
  have nD0 := none_of_sub hk₀ nD
  have nC0 := none_of_sub hk₀ nC
  generalize s₁.heap.objs.size = D at *
  generalize H2.objs.size = C at *
  have loop : ∀ s₃ : Shared, s₃ = { s₁ with heap := h₁, toks := s₁.toks + ([] : List (Str × Value)).length } →
      codeAny (model prog w) A (.compLoop (.ListComp elt [⟨.Tuple [.Name xk pk, .Name xv pv] x1 pt, iter, ifs, 0⟩] scope pos) 0 (.ref e) (.ref D) (compEnvC scope cl C env)) (compPost (model prog w) A E (some u) Q (.ref D) C) s₃ := by
    rintro s₃ rfl
    refine compLoopT (fun k s' => Ex6 fun h' tk m' i old k' => And7 (s' = { s₁ with heap := h', toks := tk }) (IsEnum h' e it ((i : Nat) : Int) old) (h'.IsListIter it l i) (Fr h₀ C h' m') (h'.get? D = some (seqObj "list" (selT tst vs i).toArray k')) (i ≤ vs.length) (k = vs.length + 1 - i)) ?_ (vs.length + 1)
      ⟨h₁, _, _, 0, .none, 0, rfl, he₁, hit₁, F₁, hD₁, Nat.zero_le _, rfl⟩
    rintro k s' ⟨H, tk, m', i, old', k', rfl, he', hit', F', hD', hi, rfl⟩ E'
    have hl' : H.IsList l vs.toArray := ⟨_, F'.keep _ _ hl, rfl, _, rfl⟩
    by_cases hlt : i < vs.length
    · have hv : vs.toArray[i]? = some vs[i] := by simp [hlt]
      have heH : e < H.objs.size := Heap.lt_size he'
      refine wpAny_pyNext_enum_item he' hit' hl' hv hei fun h₁ heo hit₁ ht₁ hz₁ hk₁ => ?_
      refine wpAny_letOwnedTupleGo_enum heo fun h₂ he₂ hs₂ => ?_
      replace hs₂ : Heap.SameBut e h₁ h₂ := hs₂
      have ht₂ : h₂.IsTuple H.objs.size #[.int i tk, vs[i]] := ⟨_, (hs₂.2 _ (Nat.ne_of_gt heH)).trans ht₁, rfl, _, rfl⟩
      have hz₂ : h₂.objs.size = H.objs.size + 1 := hs₂.1.trans hz₁
      refine wpAny_assign_Tuple hh ht₂ rfl rfl fun h₃ hx₃ => ?_
      replace hx₃ : Heap.ExtBut h₂.objs.size h₂ h₃ := hx₃
      have old₃ : ∀ b o, b < H.objs.size → h₂.get? b = some o → h₃.get? b = some o := fun b o hb x => hx₃ b o (by rw [hz₂]; exact Nat.ne_of_lt (Nat.lt_succ_of_lt hb)) x
      have up : ∀ b o, b ≠ e → b ≠ it → H.get? b = some o → h₃.get? b = some o := fun b o x y z => old₃ b o (Heap.lt_size z) ((hs₂.2 b x).trans (hk₁ b o x y z))
      have F₃ : Fr h₀ C h₃ m' := ⟨F'.ns.at' fun o x => up _ o (Ne.symm eC) (Ne.symm iC) x, fun b o x => up b o (fun q => by rw [q, ne0] at x; cases x) (fun q => by rw [q, ni0] at x; cases x) (F'.keep b o x), F'.above⟩
      obtain ⟨oi₁, hoi₁, hc₁, hd₁⟩ := id hit₁
      obtain ⟨oe, heE, hoe⟩ : ∃ oe : Obj, h₃.get? e = some oe ∧ ∀ hh : Heap, hh.get? e = some oe → IsEnum hh e it ((i + 1 : Nat) : Int) vs[i] := ⟨_, old₃ _ _ heH he₂, fun _ x => x⟩
      have hiH : it < H.objs.size := by obtain ⟨oi, hoi, _⟩ := id hit'; exact Heap.lt_size hoi
      have hiE : h₃.get? it = some oi₁ := old₃ _ _ hiH ((hs₂.2 it (Ne.symm hei)).trans hoi₁)
      have hD₃ := up _ _ (Ne.symm eD) (Ne.symm iD) hD'
      show wpAny _ A (do holding [vs[i]] (assign (.Name xk pk) (compEnvC scope cl C env) (.int i tk)); do holding [] (assign (.Name xv pv) (compEnvC scope cl C env) vs[i]); pure ()) _ _ _
      refine wpAny_bind (wpAny_holding (wpAny_assign_Name (wpAny_storeName_local (hxkc C) F₃.ns (fun h₄ hn₄ hs₄ => ?_) (hpc C))))
      replace hs₄ : Heap.SameBut C h₃ h₄ := hs₄
      refine wpAny_bind (wpAny_holding (wpAny_assign_Name (wpAny_storeName_local (hxvc C) hn₄ (fun h₅ hn₅ hs₅ => wpAny_pure ?_) (hpc C))))
      replace hs₅ : Heap.SameBut C h₄ h₅ := hs₅
      have F₅ := Fr_set (Fr_set F₃ hn₄ hs₄) hn₅ hs₅
      have st₅ : ExtB C h₃ h₅ := fun b o x z => (hs₅.2 b x).trans ((hs₄.2 b x).trans z)
      have e₅ := st₅ _ _ eC heE
      have i₅ := st₅ _ _ iC hiE
      have D₅ := st₅ _ _ hDC hD₃
      refine wpAny_mono (turn C i vs[i] tk h₅ _ _ E' (by simp [hlt]) F₅ ((if_neg hkv).trans (if_pos rfl)) (if_pos rfl)) (fun ok s₄ h₄' => ?_) fun _ _ x => x
      obtain ⟨h₆, tk₆, rfl, k₆, rfl, helt⟩ := h₄'
      have fin : ∀ h₇ tk₇ kk', Fr h₀ C h₇ (fun y => if y = xv then some vs[i] else if y = xk then some (.int (i : Int) tk) else m' y) → (ExtB D h₅ h₇) → h₇.get? D = some (seqObj "list" (selT tst vs (i + 1)).toArray kk') →
          ∃ m, m < vs.length + 1 - i ∧ Ex6 fun h' tk m' i old k' => And7 (({ s₁ with heap := h₇, toks := tk₇ } : Shared) = { s₁ with heap := h', toks := tk }) (IsEnum h' e it ((i : Nat) : Int) old) (h'.IsListIter it l i) (Fr h₀ C h' m') (h'.get? D = some (seqObj "list" (selT tst vs i).toArray k')) (i ≤ vs.length) (m = vs.length + 1 - i) := fun h₇ tk₇ kk' F₇ k₇ D₇ =>
        ⟨vs.length + 1 - (i + 1), by exact lc (lR4 _ _ _ _) (.e (lA z0 (lS z1)) (lS z2) (.h (lS z2) (lA z3 z1) (.g (lS z0) z3))) lT (Nat.sub_add_cancel (lc (lR2 _ _) (.h z0 z1 (.g (lS z0) (lS z1))) lT hi)) (lU _ _), h₇, tk₇, _, i + 1, _, kk', rfl, hoe _ (k₇ _ _ eD e₅), ⟨oi₁, k₇ _ _ iD i₅, hc₁, hd₁⟩, F₇, D₇, hlt, rfl⟩
      cases hb : tst i vs[i] with
      | false =>
        rw [if_neg (by decide)]
        refine fin h₆ tk₆ k' (Fr_up F₅ k₆) (fun b o _ => k₆ b o) ?_
        rw [selT_succ tst (v := vs[i]) (by simp [hlt]), hb]
        simpa using k₆ _ _ D₅
      | true =>
        rw [if_pos rfl]
        refine wpAny_mono (helt hb) (fun y s₇ h₇' => ?_) fun _ _ x => x
        obtain ⟨h₇, tk₇, rfl, k₇, rfl⟩ := h₇'
        refine append_c (s := { s₁ with heap := h₇, toks := tk₇ }) (k₇ _ _ (k₆ _ _ D₅)) (by have := selT_len tst vs i; rw [sizeLine_eq]; exact lc (lR3 _ _ _) (.h z0 (lN 1000) (.h (lS z1) z0 (.h z2 z1 (.g z2 (lN 16777216))))) lT hsz hlt this) fun h₈ k8 kp e8 => ?_
        refine fin h₈ tk₇ k8 (Fr_other (Fr_up (Fr_up F₅ k₆) k₇) hDC nD0 kp) (fun b o x z => kp b o x (k₇ _ _ (k₆ _ _ z))) ?_
        rw [selT_succ tst (v := vs[i]) (by simp [hlt]), hb]
        exact e8
    · have hin : i = vs.length := by exact ar25 ‹_› ‹_›
      subst hin
      refine wpAny_pyNext_enum_end hh he' hit' hl' (by simp) fun h₁ he₁ => ?_
      have up : ExtB it H h₁ := fun b o x z => he₁ b o x z
      exact done D C h₁ tk m' k' nD0 nC0 hDC (F'.ns.at' fun o x => up _ o (Ne.symm iC) x) (up _ _ (Ne.symm iD) hD') fun b o x => up b o (fun q => by rw [q, ni0] at x; cases x) (F'.keep b o x)
  exact codeAny_compStart_list (loop _ rfl) (wpAny_pyIter_enum he₁ (loop _ rfl))
end

end
-- LO
section
open PySem PySem.W PyProof.Rows PySem.Calls PySem.Spec PySem.Builtin.Str
set_option maxRecDepth 100000
set_option maxHeartbeats 4000000
section
variable {prog : Program} {w : World} {A : Around} {E : Value → Shared → Prop} {env : Env} {s : Shared}
theorem asgComp {x : Str} {p1 p2 pos : Pos} {elt : Expr} {gens : List Comprehension} {scope : Scope} {Q : Flow → Shared → Prop} (hsw : swapsWithSole [.Name x p1] (.ListComp elt gens scope pos) p2.line env = pure true)
    (h : wpAny (model prog w) A (comprehension (.ListComp elt gens scope pos) scope env (firstIterPos gens pos) (newList []) (firstAsync gens) (firstIter gens env) (some fun v => assign (.Name x p1) env v)) (fun _ => Q .next) E s) :
    wpAny (model prog w) A (exec (.Assign [.Name x p1] (.ListComp elt gens scope pos) p2) env) Q E s := by
  rw [exec_Assign]
  refine wpAny_bind (wpAny_standAt ?_)
  rw [hsw]
  refine wpAny_bind (wpAny_pure ?_)
  rw [if_pos rfl]
  refine wpAny_bind (show wpAny _ _ (comprehension _ scope env _ _ _ _ _ >>= fun _ => pure ()) _ _ _ from wpAny_bind (wpAny_mono ?_ (fun _ _ x => wpAny_pure (wpAny_pure x)) fun _ _ e => e))
  exact h
end

end
-- LP
section
open PySem PySem.W PyProof.Rows PySem.Calls PySem.Spec PySem.Builtin.Str
set_option maxRecDepth 100000
set_option maxHeartbeats 4000000
theorem countIn_str (x : Str) : ∀ ss : List Str, PySem.Spec.countIn (.str x) (ss.map PyData.str) = (ss.count x : Nat)
  | [] => rfl
  | y :: r => by
    rw [List.map_cons, PySem.Spec.countIn, countIn_str x r, List.count_cons]
    by_cases e : y = x
    · subst e; simp [PySem.Spec.same]; lia
    · simp [PySem.Spec.same, e]
section
variable {prog : Program} {w : World} {A : Around} {E : Value → Shared → Prop} {s : Shared} {Q : Value → Shared → Prop}
theorem notinS {x : Str} {t : Tok} {S : Addr} {vs : List Value} {ss : List Str} {k : Nat} (hu : A.units ≤ 100) (e : s.heap.get? S = some (seqObj "list" vs.toArray k)) (hS : StrsAre vs ss) (hok : Okk ss) (hx : PyData.strOk x = true)
    (h : Q (.bool (decide (x ∉ ss))) s) : wpAny (model prog w) A (compareOp .NotIn (.str x t) (.ref S)) Q E s := by
  refine notIn_list_dataH (readsS e hS) (.str x t) (shpS hok) (by unfold SeqAt.shaped; simp [PyData.canLay0, PyData.depth, hx]) (by show A.units + 65 < 9900; exact ar6 ‹_› (by decide)) ?_ ?_
  · intro y hy
    obtain ⟨z, -, rfl⟩ := List.mem_map.mp hy
    simp [SeqAt.noMix]
  · rw [countIn_str]
    have : (!decide (((ss.count x : Nat) : Int) ≠ 0)) = decide (x ∉ ss) := by
      by_cases q : x ∈ ss
      · simp [q, List.count_eq_zero]
      · simp [q, List.count_eq_zero]
    rw [this]; exact h
end

end
-- LQ
section
open PySem PySem.W PyProof.Rows PySem.Calls PySem.Spec PySem.Builtin.Str
set_option maxRecDepth 100000
set_option maxHeartbeats 4000000
theorem StrsAre.take {vs : List Value} {ss : List Str} (h : StrsAre vs ss) : ∀ i, StrsAre (vs.take i) (ss.take i) := by
  induction h with
  | nil => intro i; simp; exact .nil
  | cons x t _ ih =>
    intro i
    cases i with
    | zero => exact .nil
    | succ i => exact .cons x t (ih i)
theorem StrsAre.app {vs ws : List Value} {ss ts : List Str} (h : StrsAre vs ss) (g : StrsAre ws ts) : StrsAre (vs ++ ws) (ss ++ ts) := by
  induction h with
  | nil => exact g
  | cons x t _ ih => exact .cons x t ih
section
variable {prog : Program} {w : World} {A : Around} {E : Value → Shared → Prop} {env : Env} {s : Shared}
theorem slcT {value : Expr} {lower upper : Option Expr} {p pos : Pos} {Q : Value → Shared → Prop}
    (h : wpAny (model prog w) A (eval value env) (fun o s₁ => wpAny (model prog w) A (evalPart lower env) (fun vl s₂ => wpAny (model prog w) A (evalPart upper env) (fun vu s₃ =>
      Ex4 fun l items lo hi => And6 (o = .ref l) (s₃.heap.IsList l items) (items.size ≤ sizeLine) (IsPart vl lo) (IsPart vu hi) (∀ S h', (Ext s₃.heap h') → s₃.heap.get? S = none → h'.get? S = some (seqObj "list" (slicePick items lo hi none) 0) → Q (.ref S) { s₃ with heap := h' })) E s₂) E s₁) E s) :
    wpAny (model prog w) A (eval (.Subscript value (.Slice lower upper none p) pos) env) Q E s := by
  refine eSub (wpAny_mono h (fun o s₁ h₁ => wpAny_Slice (wpAny_mono h₁ (fun vl s₂ h₂ => wpAny_mono h₂ (fun vu s₃ h₃ => ?_) fun _ _ e => e) fun _ _ e => e)) fun _ _ e => e)
  obtain ⟨l, items, lo, hi, rfl, hl, hsz, pl, pu, hQ⟩ := h₃
  rw [evalPart_none]
  refine wpAny_pure ?_
  refine PySem.W.kba_turn (value' := PySem.Expr.Name (PySem.Str.ofString "_") ⟨0, 0, 0, 0⟩) (fun _ => rfl) ?_
  refine slice_listK hl pl pu ?_ (by with_unfolding_all rfl) (fun _ => rfl) hsz
  refine hQ _ _ (fun b o e => Heap.get?_push_of_some _ (Heap.get?_push_of_some _ e)) (Heap.get?_none_of_le (Nat.le_succ _)) ?_
  rw [← Heap.size_push]
  exact Heap.get?_push_size _ rfl
theorem sel_firsts {vs : List Value} {ss : List Str} (hS : StrsAre vs ss) (tst : Nat → Value → Bool) (ht : ∀ i v x, vs[i]? = some v → ss[i]? = some x → tst i v = decide (x ∉ ss.take i)) : ∀ n, n ≤ ss.length → StrsAre (selT tst vs n) (fsts (ss.take n)) := by
  intro n
  induction n with
  | zero => intro _; rw [List.take_zero]; exact .nil
  | succ n ih =>
    intro hn
    have hv : n < vs.length := by rw [hS.length]; exact ar19 ‹_›
    obtain ⟨x, t, e, hx⟩ := Mine.StrsAre.at hS (i := n) (v := vs[n]) (by simp [hv])
    rw [selT_succ tst (v := vs[n]) (by simp [hv]), take_snoc hx, fsts_snoc, ht n vs[n] x (by simp [hv]) hx]
    by_cases c : x ∈ ss.take n
    · rw [if_pos ((mem_fsts x _).mpr c), if_neg (by simpa using c), List.append_nil]
      exact ih (by exact ar17 ‹_›)
    · rw [if_neg (fun q => c ((mem_fsts x _).mp q)), if_pos (by simpa using c), e]
      exact Mine.StrsAre.snoc (ih (by exact ar17 ‹_›)) x t
end

end
-- LR
section
open PySem PySem.W PyProof.Rows PySem.Calls PySem.Spec PySem.Builtin.Str
set_option maxRecDepth 100000
set_option maxHeartbeats 4000000
noncomputable abbrev SFI : Scope := { kind := .function, names := [(Str.ofString ".0", .local), (Str.ofString "k", .local), (Str.ofString "row", .local), (Str.ofString "due", .free), (Str.ofString "rows", .free)], isGenerator := false, isCoroutine := false }
section
variable {w : World} {A : Around} {E : Value → Shared → Prop} {s : Shared} {hg : Heap} {L cr cm cd fa : Addr} {Z : List Addr} {m : Str → Option Value} {vr vm vd : Option Value} {news : List (Addr × Obj)} {p : Program} {loose : List Str} {mean : ExcName → Option Value} {mg mb : Str → Option Value}
theorem evSum {env : Env} {r du : Addr} {vs ws : List Value} {k1 k2 : Nat} {q1 q2 q3 : Pos} {Q : Value → Shared → Prop} (hk : env.scope.kind = .function) (h1 : env.kindOf (Str.ofString "rows") = some .cell) (h2 : env.kindOf (Str.ofString "due") = some .cell)
    (c1 : env.cells.lookup (Str.ofString "rows") = some cr) (c2 : env.cells.lookup (Str.ofString "due") = some cd) (i1 : s.heap.IsCell cr (some (.ref r))) (i2 : s.heap.IsCell cd (some (.ref du)))
    (e1 : s.heap.get? r = some (seqObj "list" vs.toArray k1)) (e2 : s.heap.get? du = some (seqObj "list" ws.toArray k2)) (hz : vs.length + ws.length ≤ 1000)
    (hq : ∀ S h', (Ext s.heap h') → s.heap.get? S = none → h'.get? S = some (seqObj "list" (vs ++ ws).toArray 0) → Q (.ref S) { s with heap := h' }) :
    wpAny (model PG w) A (eval (.BinOp (.Name (Str.ofString "rows") q1) .Add (.Name (Str.ofString "due") q2) q3) env) Q E s := by
  refine eBin (wpAny_Name (wpAny_loadName_cell hk h1 c1 i1 ?_))
  refine wpAny_Name (wpAny_loadName_cell hk h2 c2 i2 ?_)
  exact add_l ⟨_, e1, rfl, _, rfl⟩ ⟨_, e2, rfl, _, rfl⟩ (by rw [sizeLine_eq]; exact ar2 ‹_› (by decide)) hq
theorem stFirsts {r du : Addr} {vs ws : List Value} {k1 k2 : Nat} {ss ts : List Str} {q1 q2 q3 q4 q5 q6 q7 q8 q9 q10 q11 q12 q13 q14 q15 q16 q17 q18 q19 q20 : Pos} {Q : Flow → Shared → Prop} (G : LG hg) (hh : A.handled = none) (hu : A.units ≤ 100)
    (S : LSt hg L cr cm cd Z s.heap m (some (.ref r)) vm (some (.ref du)) news) (hr : (r, seqObj "list" vs.toArray k1) ∈ news) (hd : (du, seqObj "list" ws.toArray k2) ∈ news) (hS : StrsAre vs ss) (hT : StrsAre ws ts) (hl1 : ss.length < 64) (hl2 : ts.length < 64) (ok1 : Okk ss) (ok2 : Okk ts)
    (hsw : swapsWithSole [.Name (Str.ofString "firsts") q1] (.ListComp (.Name (Str.ofString "row") q2) [⟨.Tuple [.Name (Str.ofString "k") q3, .Name (Str.ofString "row") q4] 0 q5, .Call (.Name (Str.ofString "enumerate") q6) [.BinOp (.Name (Str.ofString "rows") q7) .Add (.Name (Str.ofString "due") q8) q9] [] q10,
        [.Compare (.Name (Str.ofString "row") q11) [.NotIn] [.Subscript (.BinOp (.Name (Str.ofString "rows") q12) .Add (.Name (Str.ofString "due") q13) q14) (.Slice none (some (.Name (Str.ofString "k") q15)) none q16) q17] q18], 0⟩] SFI q19) q20.line (LWE L cr cm cd fa) = pure true)
    (hq : ∀ h' tk D us k m', LSt hg L cr cm cd Z h' m' (some (.ref r)) vm (some (.ref du)) ((D, seqObj "list" (us : List Value).toArray k) :: news) → StrsAre us (fsts (ss ++ ts)) → m' (Str.ofString "firsts") = some (.ref D) → (∀ y, y ≠ Str.ofString "firsts" → m' y = m y) → Q .next { s with heap := h', toks := tk }) :
    wpAny (model PG w) A (exec (.Assign [.Name (Str.ofString "firsts") q1] (.ListComp (.Name (Str.ofString "row") q2) [⟨.Tuple [.Name (Str.ofString "k") q3, .Name (Str.ofString "row") q4] 0 q5, .Call (.Name (Str.ofString "enumerate") q6) [.BinOp (.Name (Str.ofString "rows") q7) .Add (.Name (Str.ofString "due") q8) q9] [] q10,
        [.Compare (.Name (Str.ofString "row") q11) [.NotIn] [.Subscript (.BinOp (.Name (Str.ofString "rows") q12) .Add (.Name (Str.ofString "due") q13) q14) (.Slice none (some (.Name (Str.ofString "k") q15)) none q16) q17] q18], 0⟩] SFI q19) q20) (LWE L cr cm cd fa)) Q E s := by
  obtain ⟨h, g, d, t, os⟩ := s
  dsimp only at *
  obtain ⟨o3, e3, -, -, -, -, -, G3, -⟩ := G.g
  obtain ⟨o0, e0, -, G0, -⟩ := G.b
  have hv := hS.length
  have hw := hT.length
  have okA : Okk (ss ++ ts) := fun x hx => (List.mem_append.mp hx).elim (ok1 x) (ok2 x)
  refine asgComp hsw ?_
  have cl : closureFor SFI (LWE L cr cm cd fa) = pure [(Str.ofString "rows", cr), (Str.ofString "due", cd)] := by rfl
  let tst : Nat → Value → Bool := fun i v => match v with | .str x _ => decide (x ∉ (ss ++ ts).take i) | _ => false
  refine comp_enumU tst hh cl (by decide) rfl (by decide) rfl rfl (by decide) ?_
  refine cN1 (wpAny_Name (ldB (by rfl) (by rfl) (by rfl) (by rfl) (S.F.keep _ _ e3) G3 (S.F.keep _ _ e0) G0 ?_)) (by rfl)
  refine cwt1 (evSum (by rfl) (by rfl) (by rfl) (by rfl) (by rfl) S.r S.d (S.N _ hr).1 (S.N _ hd).1 (by exact lc (lR4 _ _ _ _) (.h (lS z0) (lN 64) (.h (lS z1) (lN 64) (.e z2 z0 (.e z3 z1 (.g (lA z2 z3) (lN 1000)))))) lT hl1 hl2 hv hw) fun l h1 k1' nl el => ?_)
  dsimp only at k1' nl ⊢
  show wpAny _ _ (call (.type "enumerate") [.ref l]) _ _ _
  refine call_enumerate_list (items := (vs ++ ws).toArray) ⟨_, el, rfl, _, rfl⟩ fun h4 he hit hsz k4 => ?_
  dsimp only at he hit ⊢
  refine ⟨h1.objs.size + 1, h1.objs.size, l, vs ++ ws, 0, h1, rfl, he, hit, el, k4, Heap.get?_none_of_le (Nat.le_succ _), Heap.get?_none_of_le (Nat.le_refl _), Nat.succ_ne_self _, by dsimp only at hsz ⊢; exact lc (lR2 _ _) (.d z0 (lA z1 (lN 2)) (.g z1 z0)) lT hsz, by simp; exact lc (lR4 _ _ _ _) (.h (lS z0) (lN 64) (.h (lS z1) (lN 64) (.e z2 z0 (.e z3 z1 (.g (lA z2 z3) (lN 1000)))))) lT hl1 hl2 hv hw, ?_, ?_⟩
  · intro C i v tk h₃ tk₃ m₃ E' hvi F₃ mk mv
    dsimp only at *
    have hA := StrsAre.app hS hT
    obtain ⟨x, tx, rfl, hx⟩ := Mine.StrsAre.at hA hvi
    have hil : i < (ss ++ ts).length := (List.getElem?_eq_some_iff.mp hx).1
    rw [List.length_append] at hil
    refine forIn1 (eTst (nmC F₃ mv ?_ rfl (by rfl) (by decide)))
    have keep : Ext h h₃ := fun b o e => F₃.keep _ _ (k1' _ _ e)
    refine slcT (evSum (by rfl) (by rfl) (by rfl) (by rfl) (by rfl) (IsCell_keep S.r fun o => keep _ o) (IsCell_keep S.d fun o => keep _ o) (keep _ _ (S.N _ hr).1) (keep _ _ (S.N _ hd).1) (by exact lc (lR4 _ _ _ _) (.h (lS z0) (lN 64) (.h (lS z1) (lN 64) (.e z2 z0 (.e z3 z1 (.g (lA z2 z3) (lN 1000)))))) lT hl1 hl2 hv hw) fun S5 h5 k5 n5 e5 => ?_)
    rw [evalPart_none, evalPart_some]
    refine wpAny_pure ?_
    have F₅ := Fr_up F₃ k5
    refine nmC F₅ mk ?_ rfl (by rfl) (by decide)
    refine ⟨S5, (vs ++ ws).toArray, none, some (i : Int), rfl, ⟨_, e5, rfl, _, rfl⟩, by rw [sizeLine_eq, List.size_toArray, List.length_append]; exact lc (lR4 _ _ _ _) (.h (lS z0) (lN 64) (.h (lS z1) (lN 64) (.e z2 z0 (.e z3 z1 (.g (lA z2 z3) (lN 16777216)))))) lT hl1 hl2 hv hw, .none, .int _ _, fun S6 h6 k6 n6 e6 => ?_⟩
    rw [slicePick_upto _ _ (by rw [List.size_toArray, List.length_append]; exact lc (lR5 _ _ _ _ _) (.d z0 z1 (.d z2 z3 (.h (lS z4) (lA z1 z3) (.g z4 (lA z0 z2))))) lT hv hw hil)] at e6
    refine notinS hu e6 (StrsAre.take hA i) (fun y hy => okA y (List.mem_of_mem_take hy)) (okA x (List.mem_of_getElem? hx)) (wpAny_truthy_bool ?_)
    refine ⟨h6, _, rfl, fun b o e => k6 _ _ (k5 _ _ e), rfl, fun _ => ?_⟩
    exact nmC (Fr_up F₅ k6) mv ⟨h6, _, rfl, fun _ _ e => e, rfl⟩ rfl (by rfl) (by decide)
  · intro D C h' tk m' k nD nC hDC hns hget hk
    have S1 := (S.keep k1').keep hk
    have hA := StrsAre.app hS hT
    have hsel := sel_firsts hA tst (fun i v x hv hx => by
      obtain ⟨y, ty, e, hy⟩ := Mine.StrsAre.at hA hv
      rw [hx] at hy; cases hy
      rw [e]) (ss ++ ts).length (Nat.le_refl _)
    rw [List.take_length] at hsel
    have hlen : (vs ++ ws).length = (ss ++ ts).length := hA.length
    rw [hlen] at hget
    have S2 := S1.add (Fr_up S.F k1') nD hget .seq
    have nCL : C ≠ L := News_ne (Fr_up S.F k1') nC
    refine wpAny_assign_Name (wpAny_storeName_local (by rfl) S2.F.ns (fun h2 ns sb => ?_) (by rfl))
    have S3 := S2.set ns sb.2
    refine ⟨m', hns.sameBut sb nCL, fun h3 sb3 => ?_⟩
    have hns2 : h2.Ns C m' := hns.sameBut sb nCL
    obtain ⟨oC, esC, epC, eC, dC, -⟩ := id hns2
    have S4 := S3.but [C] (h' := h3) (fun b o q e => (sb3.2 b (by simpa using q)).trans e) (S3.F.ns.sameBut sb3 (Ne.symm nCL)) (by
      intro b hb
      rw [List.mem_singleton.mp hb]
      refine ⟨none_of_sub (Fr_up S.F k1').keep nC, fun o vs x y => (by rw [eC] at x; cases x; rw [dC] at y; cases y), fun o vs x y => (by rw [eC] at x; cases x; rw [dC] at y; cases y), fun q hq' => ?_⟩
      rcases List.mem_cons.mp hq' with rfl | hq'
      · exact hDC
      · exact fresh_ne nC (k1' _ _ (S.N q hq').1))
    exact hq h3 _ D _ k _ S4 hsel (if_pos rfl) fun y hy => if_neg hy
end

end
-- LS
section
open PySem PySem.W PyProof.Rows PySem.Calls PySem.Spec PySem.Builtin.Str
set_option maxRecDepth 100000
set_option maxHeartbeats 4000000
section
variable {prog : Program} {w : World} {A : Around} {E : Value → Shared → Prop} {s : Shared} {env : Env}
theorem tup3 {e1 e2 e3 : Expr} {k : Nat} {pos : Pos} {Q : Value → Shared → Prop} (hs : starEach [e1, e2, e3] env = [(false, eval e1 env), (false, eval e2 env), (false, eval e3 env)])
  (h : wpAny (model prog w) A (eval e1 env) (fun v1 s1 => wpAny (model prog w) A (eval e2 env) (fun v2 s2 => wpAny (model prog w) A (eval e3 env) (fun v3 s3 => ∀ a h', (Ext s3.heap h') → s3.heap.get? a = none → h'.get? a = some (seqObj "tuple" #[v1, v2, v3] 0) → Q (.ref a) { s3 with heap := h' }) E s2) E s1) E s) :
  wpAny (model prog w) A (eval (.Tuple [e1, e2, e3] k pos) env) Q E s := by
  refine wpAny_Tuple_spliced ?_
  rw [hs]
  refine sp3 (wpAny_mono h (fun v1 s1 h1 => wpAny_mono h1 (fun v2 s2 h2 => wpAny_mono h2 (fun v3 s3 h3 => ⟨by simp [sizeLine_eq], ?_⟩) fun _ _ e => e) fun _ _ e => e) fun _ _ e => e)
  obtain ⟨a, b, c⟩ := newH (h := s3.heap) (o := { cls := .type "tuple", data := .seq [v1, v2, v3].toArray }) rfl
  exact h3 _ _ a b c
theorem evCount {nm : Str} {c l : Addr} {vs : List Value} {ss : List Str} {k : Nat} {x : Str} {tx : Tok} {q1 q2 q3 q4 : Pos} {Q : Value → Shared → Prop} (hk : env.scope.kind = .function) (h1 : env.kindOf nm = some .cell) (c1 : env.cells.lookup nm = some c) (i1 : s.heap.IsCell c (some (.ref l)))
    (hd : (nm == ("__debug__" : Str)) = false) (e : s.heap.get? l = some (seqObj "list" vs.toArray k)) (hS : StrsAre vs ss) (hl : (q2.endLine == q4.line) = true)
    (hs : starEach [.Name (Str.ofString "row") q3] env = [(false, eval (.Name (Str.ofString "row") q3) env)])
    (hrow : ∀ Q' : Value → Shared → Prop, Q' (.str x tx) s → wpAny (model prog w) A (eval (.Name (Str.ofString "row") q3) env) Q' E s)
    (hq : ∀ t tk, Q (.int (ss.count x : Nat) t) { s with toks := tk }) :
    wpAny (model prog w) A (eval (.Call (.Attribute (.Name nm q1) (Str.ofString "count") q2) [.Name (Str.ofString "row") q3] [] q4) env) Q E s := by
  refine aM1 hl hs (wpAny_Name (wpAny_loadName_cell hk h1 c1 i1 ?_) hd)
  with_unfolding_all refine getMethod_list_of PySem.F.slot_list_count PySem.F.type_list_count ⟨_, e, rfl, _, rfl⟩ (noDict e) ?_
  refine cwb1 (hrow _ ?_)
  exact count_strs ⟨_, e, rfl, _, rfl⟩ hS (hq _ _)
end
inductive CntsAre : List Value → List Cnt → List (Addr × Obj) → Prop
  | nil : CntsAre [] [] []
  | snoc {vs : List Value} {rs : List Cnt} {ms : List (Addr × Obj)} (T : Addr) (a b : Nat) (x : Str) (ta tb t : Tok) : CntsAre vs rs ms → CntsAre (vs ++ [.ref T]) (rs ++ [(a, b, x)]) ((T, seqObj "tuple" #[.int (a : Int) ta, .int (b : Int) tb, .str x t] 0) :: ms)
theorem CntsAre.pln {vs : List Value} {rs : List Cnt} {ms : List (Addr × Obj)} (h : CntsAre vs rs ms) : ∀ p ∈ ms, Pln p.2 := by
  induction h with
  | nil => intro p hp; cases hp
  | snoc _ _ _ _ _ _ _ _ ih =>
    intro p hp
    rcases List.mem_cons.mp hp with rfl | hp
    · exact .seq
    · exact ih p hp
section
variable {hg h h1 h' : Heap} {L cr cm cd : Addr} {Z : List Addr} {m : Str → Option Value} {vr vm vd : Option Value} {news : List (Addr × Obj)}
theorem LSt.adds (s : LSt hg L cr cm cd Z h m vr vm vd news) {ms : List (Addr × Obj)} {m1 : Str → Option Value} (F1 : Fr hg L h1 m1) (hm : ∀ p ∈ ms, h.get? p.1 = some p.2 ∧ h1.get? p.1 = none) (hp : ∀ p ∈ ms, Pln p.2) : LSt hg L cr cm cd Z h m vr vm vd (ms ++ news) := by
  induction ms with
  | nil => exact s
  | cons a ms ih => exact (ih (fun p q => hm p (.tail _ q)) fun p q => hp p (.tail _ q)).add F1 (hm _ (.head _)).2 (hm _ (.head _)).1 (hp _ (.head _))
theorem LSt.offC (s : LSt hg L cr cm cd Z h m vr vm vd news) {C : Addr} {m' : Str → Option Value} (ns : h.Ns C m') (g : hg.get? C = none) (n : ∀ p ∈ news, p.1 ≠ C) (nCL : C ≠ L) (sb : Heap.SameBut C h h') : LSt hg L cr cm cd Z h' m vr vm vd news := by
  obtain ⟨oC, esC, epC, eC, dC, -⟩ := id ns
  refine s.but [C] (fun b o q e => (sb.2 b (by simpa using q)).trans e) (s.F.ns.sameBut sb (Ne.symm nCL)) fun b hb => ?_
  rw [List.mem_singleton.mp hb]
  exact ⟨g, fun o vs x y => (by rw [eC] at x; cases x; rw [dC] at y; cases y), fun o vs x y => (by rw [eC] at x; cases x; rw [dC] at y; cases y), n⟩
end

end
-- U3L
section
open PySem PySem.W PyProof.Rows PySem.Calls PySem.Spec PySem.Builtin.Str
set_option maxRecDepth 100000
set_option maxHeartbeats 4000000
noncomputable abbrev SLS : Scope := { kind := .function, names := [(Str.ofString ".0", .local), (Str.ofString "k", .local), (Str.ofString "one", .free), (Str.ofString "two", .free)], isGenerator := false, isCoroutine := false }
theorem law_less {w : World} {A : Around} {Q : Value → Shared → Prop} {E : Value → Shared → Prop} {s : Shared} {l1 l2 : Addr} {v1 v2 : List Value} {s1 s2 : List Str} {n1 n2 : Nat} {p : Program} {loose : List Str} {mean : ExcName → Option Value} {mg mb : Str → Option Value}
  (X : (KF w).In s.heap) (Tp : Top p loose mean mg mb s.heap) (hh : A.handled = none) (hroom : A.depth < recursionLimit)
  (e1 : s.heap.get? l1 = some (seqObj "list" v1.toArray n1)) (e2 : s.heap.get? l2 = some (seqObj "list" v2.toArray n2)) (hS1 : StrsAre v1 s1) (hS2 : StrsAre v2 s2) (hn1 : s1.length < 64) (hn2 : s2.length < 64)
  (hq : ∀ T D1 D2 h' tk w1 w2 c1 c2, (Ext s.heap h') → h'.IsTuple T #[.ref D1, .ref D2] → h'.get? D1 = some (seqObj "list" (w1 : List Value).toArray c1) → h'.get? D2 = some (seqObj "list" (w2 : List Value).toArray c2) → StrsAre w1 (lessA s1 s2) → StrsAre w2 (lessB s1 s2) → Q (.ref T) { s with heap := h', toks := tk }) :
   wpAny (model PG w) A (call (.ref 245) [.ref l1, .ref l2]) Q E s := by
  obtain ⟨h, g, d, t, os⟩ := s
  dsimp only at *
  obtain ⟨o3, e3, l31, l32⟩ : ∃ o3, And3 (h.get? 3 = some o3) (nsLook (Str.ofString "range") o3 = pure none) (nsLook (Str.ofString "len") o3 = pure none) := ⟨_, X 3 _ rfl, by kernel_rfl, by kernel_rfl⟩
  obtain ⟨o0, e0, l01, l02⟩ : ∃ o0, And3 (h.get? 0 = some o0) (nsLook (Str.ofString "range") o0 = pure (some (.type "range"))) (nsLook (Str.ofString "len") o0 = pure (some (.builtin "len"))) := ⟨_, X 0 _ rfl, by kernel_rfl, by kernel_rfl⟩
  refine llenter X Tp hroom fun h₁ L c1 c2 tk m F hc1 hc2 nL1 nL2 nc1 nc2 => ?_
  have hh' : (A.deeper (LLE L c1 c2)).handled = none := hh
  generalize A.deeper (LLE L c1 c2) = A' at hh' ⊢
  refine cutQ1 fun Q₀ hQ₀ => ?_
  have hl1 : v1.length = s1.length := hS1.length
  have hl2 : v2.length = s2.length := hS2.length
  have cl : closureFor SLS (LLE L c1 c2) = pure [(Str.ofString "two", c2), (Str.ofString "one", c1)] := by rfl
  refine eCons (asgComp (by rfl) ?_)
  refine comp_rangeU hh' cl (by decide) rfl (by decide) rfl ?_
  refine cN3 (wpAny_Name (ldB (by rfl) (by rfl) (by rfl) (by rfl) (F.keep _ _ e3) l31 (F.keep _ _ e0) l01 ?_)) (by rfl)
  refine cwt3 (eBin (evLen (by rfl) (by rfl) (by rfl) (by rfl) (F.keep _ _ e3) l32 (F.keep _ _ e0) l02 (by rfl) (by rfl) hc1 (by decide) (by rfl) ⟨_, F.keep _ _ e1, rfl, _, rfl⟩ (by exact ar3 (ar10 ‹_› ‹_›) (by decide)) fun ta tk2 => wpAny_Constant_int (PySem.P.sub_int ?_)))
  refine wpAny_UnaryOp (wpAny_Constant_int (PySem.P.neg_int (wpAny_UnaryOp (wpAny_Constant_int (PySem.P.neg_int ?_)))))
  show wpAny _ _ (call (.type "range") [.int _ _, .int _ _, .int _ _]) _ _ _
  rw [hl1]
  refine rng3 (by decide) (PyProof.noPylong_small (by decide)) fun R h4 k4 hR => ?_
  dsimp only at k4 ⊢
  refine ⟨R, _, _, _, _, _, _, s1.length, fun n ys _ => StrsAre ys ((((List.range s1.length).reverse.take n).filter (moreA s1 s2)).map fun k => s1.getD k Str.empty), rfl, hR, rsmall3 _ hn1, rsize3 _ hn1, by rw [sizeLine_eq]; exact ar3 ‹_› (by decide), .nil, ?_, ?_⟩
  · rintro C n v ys own' news' h₃ tk₃ m₃ E' htk ⟨hnlt, tv, rfl⟩ hJ F₃ hm N₃
    obtain ⟨k, hk, hk1⟩ : ∃ k : Nat, ((s1.length : Int) - 1 + (n : Int) * (-1)) = (k : Int) ∧ k + n + 1 = s1.length := ik hnlt
    rw [hk] at hm
    have hkl : k < s1.length := lc (lR3 _ _ _) (.e (lS (lA z0 z1)) z2 (.g (lS z0) z2)) lT hk1
    have tk1 : (((List.range s1.length).reverse.take (n + 1)).filter (moreA s1 s2)) = (((List.range s1.length).reverse.take n).filter (moreA s1 s2)) ++ (if moreA s1 s2 k then [k] else []) := by
      have e : (List.range s1.length).reverse[n]? = some k := by
        rw [List.getElem?_reverse (by rw [List.length_range]; exact hnlt), List.length_range, List.getElem?_range (by exact lc (lR3 _ _ _) (.h z0 z1 (.e (lA z1 (lN 1)) z2 (.g (lS z0) z2))) lT (Nat.sub_le _ _) (Nat.sub_add_cancel (lc (lR2 _ _) (.h (lS z0) z1 (.g (lN 1) z1)) lT hnlt)))]
        congr 1; omega
      rw [take_snoc e, List.filter_append]
      cases q : moreA s1 s2 k <;> simp [q]
    dsimp only at htk F₃ N₃
    have up : Ext h₁ h₃ := fun b o e => F₃.keep _ _ (k4 _ _ e)
    have i1 := IsCell_keep hc1 (up _)
    have i2 := IsCell_keep hc2 (up _)
    have g1 := up _ _ (F.keep _ _ e1)
    have g2 := up _ _ (F.keep _ _ e2)
    clear up
    refine forIn1 (eTst ?_)
    refine evCnt (by rfl) (by rfl) (by rfl) (slcT (wpAny_Name (wpAny_loadName_cell (by rfl) (by rfl) (by rfl) i1 ?_)))
    rw [evalPart_none, evalPart_some]
    refine nmC F₃ hm (wpAny_pure ?_) rfl (by rfl) (by decide)
    refine ⟨l1, v1.toArray, some (k : Int), none, rfl, ⟨_, g1, rfl, _, rfl⟩, by rw [sizeLine_eq, List.size_toArray]; exact ar3 (ar10 ‹_› ‹_›) (by decide), .int _ _, .none, fun S₁ h7 k7 nS₁ eS₁ => ?_⟩
    rw [slicePick_from v1.toArray k (by rw [List.size_toArray]; lia)] at eS₁
    have F₇ := Fr_up F₃ k7
    have N₇ := News_keep N₃ k7
    replace i1 := IsCell_keep i1 (k7 _)
    replace i2 := IsCell_keep i2 (k7 _)
    replace g1 := k7 _ _ g1
    replace g2 := k7 _ _ g2
    clear k7 nS₁ F₃ N₃
    have at1 : ∀ (tk : Nat) (q1 q2 q3 : Pos) (Q' E' : Value → Shared → Prop), (∀ t, Q' (.str (s1.getD k Str.empty) t) ⟨h7, g, d, tk, os⟩) → wpAny (model PG w) A' (eval (.Subscript (.Name (Str.ofString "one") q1) (.Name (Str.ofString "k") q2) q3) (compEnvC SLS [(Str.ofString "two", c2), (Str.ofString "one", c1)] C (LLE L c1 c2))) Q' E' ⟨h7, g, d, tk, os⟩ := fun tk q1 q2 q3 Q' E' hq' =>
      evAt (by rfl) (by rfl) (by rfl) i1 (by decide) ⟨_, g1, rfl, _, rfl⟩ hS1 hn1 hkl (fun Q'' hq'' => nmC F₇ hm hq'' rfl (by rfl) (by decide)) hq'
    refine ⟨S₁, v1.drop k, s1.drop k, 0, s1.getD k Str.empty, rfl, eS₁, strs_drop hS1 k, fun Q' hq' => at1 _ _ _ _ _ _ hq', fun t3 tk3 => ?_⟩
    refine evCnt (by rfl) (by rfl) (by rfl) (wpAny_Name (wpAny_loadName_cell (by rfl) (by rfl) (by rfl) i2 ?_))
    refine ⟨l2, v2, s2, n2, s1.getD k Str.empty, rfl, g2, hS2, fun Q' hq' => at1 _ _ _ _ _ _ hq', fun t4 tk4 => ?_⟩
    refine PySem.P.gt_int (wpAny_truthy_bool ?_)
    have e : decide ((((s1.drop k).count (s1.getD k Str.empty) : Nat) : Int) > ((s2.count (s1.getD k Str.empty) : Nat) : Int)) = moreA s1 s2 k := by
      unfold moreA
      rw [decide_eq_decide]
      exact Int.ofNat_lt
    rw [e]
    cases q : moreA s1 s2 k with
    | false =>
      rw [if_neg (by decide)]
      refine ⟨h7, _, m₃, rfl, F₇, N₇, ?_⟩
      show StrsAre _ _
      rw [tk1, q, if_neg (by decide), List.append_nil]
      exact hJ
    | true =>
      rw [if_pos rfl]
      refine at1 _ _ _ _ _ _ fun t5 => EltEnd.plain F₇ N₇ ?_
      show StrsAre _ _
      rw [tk1, q, if_pos rfl, List.map_append]
      exact Mine.StrsAre.snoc hJ _ _
  · intro D C h' tk' m' ys news' kk₀ hJ hD hC hDC hn hD1 hnews hk htk
    dsimp only at hk hD hC ⊢
    have F₄ := Fr_up F k4
    have F' : Fr h L h' m := Fr_up F₄ hk
    have nCL : C ≠ L := News_ne F₄ hC
    have nDL : D ≠ L := News_ne F₄ hD
    refine wpAny_assign_Name (wpAny_storeName_local (by rfl) F'.ns (fun h5 ns5 sb5 => ?_) (by rfl))
    have F₅ := Fr_set F' ns5 sb5
    refine ⟨m', hn.sameBut sb5 nCL, fun h6 sb6 => ?_⟩
    dsimp only at sb5 sb6
    have k56 : ∀ b o, b ≠ L → b ≠ C → h'.get? b = some o → h6.get? b = some o := fun b o x y e => (sb6.2 _ y).trans ((sb5.2 _ x).trans e)
    have k46 : ExtB L h4 h6 := fun b o x e => k56 b o x (fun q => by rw [q, hC] at e; cases e) (hk _ _ e)
    have F₆ : Fr h L h6 (fun x => if x = Str.ofString "told" then some (.ref D) else m x) := ⟨F₅.ns.sameBut sb6 (Ne.symm nCL), fun b o e => sb6.extBut b o (fun q => by
        have := F₄.keep _ _ e
        rw [q, hC] at this; cases this) (F₅.keep _ _ e), F₅.above⟩
    have i1 := IsCell_keep hc1 fun o e => k46 _ o (Ne.symm nL1) (k4 _ _ e)
    have i2 := IsCell_keep hc2 fun o e => k46 _ o (Ne.symm nL2) (k4 _ _ e)
    have hD6 := k56 _ _ nDL hDC hD1
    rw [List.take_of_length_le (by simp)] at hJ
    clear k56 k46 sb5 sb6 ns5 F₅ F' hnews hk hD1 hn F₄ k4
    refine eCons (eRet (tup2o (by rfl) ?_))
    refine wpAny_Name (wpAny_loadName_local (by rfl) (by rfl) F₆.ns (by rfl) ?_)
    refine comp_range hh' cl (by decide) rfl (by decide) rfl ?_
    refine cN1 (wpAny_Name (ldB (by rfl) (by rfl) (by rfl) (by rfl) (F₆.keep _ _ e3) l31 (F₆.keep _ _ e0) l01 ?_)) (by rfl)
    refine cwt1 (evLen (by rfl) (by rfl) (by rfl) (by rfl) (F₆.keep _ _ e3) l32 (F₆.keep _ _ e0) l02 (by rfl) (by rfl) i2 (by decide) (by rfl) ⟨_, F₆.keep _ _ e2, rfl, _, rfl⟩ (by exact ar3 (ar10 ‹_› ‹_›) (by decide)) fun ta tk2 => ?_)
    show wpAny _ _ (call (.type "range") [.int _ _]) _ _ _
    rw [hl2]
    refine rng1 fun R h7 tk7 t1 t2 k7 hR => ?_
    dsimp only at k7 ⊢
    refine ⟨R, _, _, _, _, _, _, s2.length, fun n ys _ => StrsAre ys ((((List.range s2.length).take n).filter (moreB s1 s2)).map fun k => s2.getD k Str.empty), rfl, hR, rsmall _ hn2, rsize _ hn2, by rw [sizeLine_eq]; exact ar3 ‹_› (by decide), .nil, ?_, ?_⟩
    · rintro C n v ys own' news' h₃ tk₃ m₃ E' htk ⟨hnlt, tv, rfl⟩ hJ F₃ hm N₃
      rw [show ((0 : Int) + (n : Int) * 1) = ((n : Nat) : Int) from by exact ar30 _] at hm
      have tk1 : (((List.range s2.length).take (n + 1)).filter (moreB s1 s2)) = (((List.range s2.length).take n).filter (moreB s1 s2)) ++ (if moreB s1 s2 n then [n] else []) := by
        have e : (List.range s2.length)[n]? = some n := by rw [List.getElem?_range hnlt]
        rw [take_snoc e, List.filter_append]
        cases q : moreB s1 s2 n <;> simp [q]
      dsimp only at htk F₃ N₃
      have up : Ext h6 h₃ := fun b o e => F₃.keep _ _ (k7 _ _ e)
      replace i1 := IsCell_keep i1 (up _)
      replace i2 := IsCell_keep i2 (up _)
      have g1 := up _ _ (F₆.keep _ _ e1)
      have g2 := up _ _ (F₆.keep _ _ e2)
      clear up
      refine forIn1 (eTst ?_)
      refine evCnt (by rfl) (by rfl) (by rfl) (slcT (wpAny_Name (wpAny_loadName_cell (by rfl) (by rfl) (by rfl) i2 ?_)))
      rw [evalPart_none, evalPart_some]
      refine wpAny_pure (eBin (nmC F₃ hm (wpAny_Constant_int (PySem.P.add_int ?_)) rfl (by rfl) (by decide)))
      refine ⟨l2, v2.toArray, none, some ((n + 1 : Nat) : Int), rfl, ⟨_, g2, rfl, _, rfl⟩, by rw [sizeLine_eq, List.size_toArray]; exact ar3 (ar10 ‹_› ‹_›) (by decide), .none, .int _ _, fun S₁ h8 k8 nS₁ eS₁ => ?_⟩
      rw [slicePick_upto v2.toArray (n + 1) (by rw [List.size_toArray]; exact lc (lR3 _ _ _) (.d z0 z1 (.h (lS z2) z1 (.g (lS z2) z0))) lT hl2 hnlt)] at eS₁
      have F₈ := Fr_up F₃ k8
      have N₈ := News_keep N₃ k8
      replace i1 := IsCell_keep i1 (k8 _)
      replace i2 := IsCell_keep i2 (k8 _)
      replace g1 := k8 _ _ g1
      replace g2 := k8 _ _ g2
      clear k8 nS₁ F₃ N₃
      have at2 : ∀ (tk : Nat) (q1 q2 q3 : Pos) (Q' E' : Value → Shared → Prop), (∀ t, Q' (.str (s2.getD n Str.empty) t) ⟨h8, g, d, tk, os⟩) → wpAny (model PG w) A' (eval (.Subscript (.Name (Str.ofString "two") q1) (.Name (Str.ofString "k") q2) q3) (compEnvC SLS [(Str.ofString "two", c2), (Str.ofString "one", c1)] C (LLE L c1 c2))) Q' E' ⟨h8, g, d, tk, os⟩ := fun tk q1 q2 q3 Q' E' hq' =>
        evAt (by rfl) (by rfl) (by rfl) i2 (by decide) ⟨_, g2, rfl, _, rfl⟩ hS2 hn2 hnlt (fun Q'' hq'' => nmC F₈ hm hq'' rfl (by rfl) (by decide)) hq'
      refine ⟨S₁, v2.take (n + 1), s2.take (n + 1), 0, s2.getD n Str.empty, rfl, eS₁, strs_take hS2 (n + 1), fun Q' hq' => at2 _ _ _ _ _ _ hq', fun t3 tk3 => ?_⟩
      refine evCnt (by rfl) (by rfl) (by rfl) (wpAny_Name (wpAny_loadName_cell (by rfl) (by rfl) (by rfl) i1 ?_))
      refine ⟨l1, v1, s1, n1, s2.getD n Str.empty, rfl, g1, hS1, fun Q' hq' => at2 _ _ _ _ _ _ hq', fun t4 tk4 => ?_⟩
      refine PySem.P.gt_int (wpAny_truthy_bool ?_)
      have e : decide ((((s2.take (n + 1)).count (s2.getD n Str.empty) : Nat) : Int) > ((s1.count (s2.getD n Str.empty) : Nat) : Int)) = moreB s1 s2 n := by
        unfold moreB
        rw [decide_eq_decide]
        exact Int.ofNat_lt
      rw [e]
      cases q : moreB s1 s2 n with
      | false =>
        rw [if_neg (by decide)]
        refine ⟨h8, _, m₃, rfl, F₈, N₈, ?_⟩
        show StrsAre _ _
        rw [tk1, q, if_neg (by decide), List.append_nil]
        exact hJ
      | true =>
        rw [if_pos rfl]
        refine at2 _ _ _ _ _ _ fun t5 => EltEnd.plain F₈ N₈ ?_
        show StrsAre _ _
        rw [tk1, q, if_pos rfl, List.map_append]
        exact Mine.StrsAre.snoc hJ _ _
    · intro D2 h9 tk9 ys2 news9 kk9 hJ2 hD2 hget hnews9 hk9 _
      dsimp only at hk9 hD2 ⊢
      rw [List.take_of_length_le (by simp)] at hJ2
      intro T hT kT nT eT
      refine hQ₀ _ _ (hq T D D2 hT _ ys ys2 kk₀ kk9 (fun b o e => kT _ _ (hk9 _ _ (k7 _ _ (F₆.keep _ _ e)))) ⟨_, eT, rfl, _, rfl⟩ (kT _ _ (hk9 _ _ (k7 _ _ hD6))) (kT _ _ hget) hJ hJ2)

end
-- LT
section
open PySem PySem.W PyProof.Rows PySem.Calls PySem.Spec PySem.Builtin.Str
set_option maxRecDepth 100000
set_option maxHeartbeats 4000000
noncomputable abbrev SCN : Scope := { kind := .function, names := [(Str.ofString ".0", .local), (Str.ofString "row", .local), (Str.ofString "due", .free), (Str.ofString "rows", .free)], isGenerator := false, isCoroutine := false }
theorem cnts_take {a b fs : List Str} {i : Nat} {x : Str} (h : fs[i]? = some x) : (fs.take (i + 1)).filterMap (cntOf a b) = (fs.take i).filterMap (cntOf a b) ++ (cntOf a b x).toList := by
  rw [take_snoc h, List.filterMap_append]
  congr 1
section
variable {w : World} {A : Around} {E : Value → Shared → Prop} {s : Shared} {hg : Heap} {L cr cm cd fa : Addr} {Z : List Addr} {m : Str → Option Value} {vr vm vd : Option Value} {news : List (Addr × Obj)} {p : Program} {loose : List Str} {mean : ExcName → Option Value} {mg mb : Str → Option Value}
theorem stCounts {r du fi : Addr} {vs ws us : List Value} {k1 k2 k3 : Nat} {ss ts fs : List Str} {q1 a1 a2 a3 a4 b1 b2 b3 b4 c1 c2 d1 d2 e1 e2 e3 e4 f1 f2 f3 f4 g1 g2 g3 : Pos} {Q : Flow → Shared → Prop} (hh : A.handled = none)
    (S : LSt hg L cr cm cd Z s.heap m (some (.ref r)) vm (some (.ref du)) news) (hr : (r, seqObj "list" vs.toArray k1) ∈ news) (hd : (du, seqObj "list" ws.toArray k2) ∈ news) (hf : (fi, seqObj "list" us.toArray k3) ∈ news) (hS : StrsAre vs ss) (hT : StrsAre ws ts) (hU : StrsAre us fs) (hl : fs.length < 200)
    (mf : m (Str.ofString "firsts") = some (.ref fi)) (l1 : (a2.endLine == a4.line) = true) (l2 : (b2.endLine == b4.line) = true) (l3 : (e2.endLine == e4.line) = true) (l4 : (f2.endLine == f4.line) = true)
    (hsw : swapsWithSole [.Name (Str.ofString "counts") q1] (.ListComp (.Tuple [.Call (.Attribute (.Name (Str.ofString "rows") a1) (Str.ofString "count") a2) [.Name (Str.ofString "row") a3] [] a4, .Call (.Attribute (.Name (Str.ofString "due") b1) (Str.ofString "count") b2) [.Name (Str.ofString "row") b3] [] b4, .Name (Str.ofString "row") c1] 0 c2)
      [⟨.Name (Str.ofString "row") d1, .Name (Str.ofString "firsts") d2, [.Compare (.Call (.Attribute (.Name (Str.ofString "rows") e1) (Str.ofString "count") e2) [.Name (Str.ofString "row") e3] [] e4) [.NotEq] [.Call (.Attribute (.Name (Str.ofString "due") f1) (Str.ofString "count") f2) [.Name (Str.ofString "row") f3] [] f4] g1], 0⟩] SCN g2) g3.line (LWE L cr cm cd fa) = pure true)
    (hq : ∀ h' tk D ys k m' ms, LSt hg L cr cm cd Z h' m' (some (.ref r)) vm (some (.ref du)) ((D, seqObj "list" (ys : List Value).toArray k) :: (ms ++ news)) → CntsAre ys (fs.filterMap (cntOf ss ts)) ms → m' (Str.ofString "counts") = some (.ref D) → (∀ y, y ≠ Str.ofString "counts" → m' y = m y) → Q .next { s with heap := h', toks := tk }) :
    wpAny (model PG w) A (exec (.Assign [.Name (Str.ofString "counts") q1] (.ListComp (.Tuple [.Call (.Attribute (.Name (Str.ofString "rows") a1) (Str.ofString "count") a2) [.Name (Str.ofString "row") a3] [] a4, .Call (.Attribute (.Name (Str.ofString "due") b1) (Str.ofString "count") b2) [.Name (Str.ofString "row") b3] [] b4, .Name (Str.ofString "row") c1] 0 c2)
      [⟨.Name (Str.ofString "row") d1, .Name (Str.ofString "firsts") d2, [.Compare (.Call (.Attribute (.Name (Str.ofString "rows") e1) (Str.ofString "count") e2) [.Name (Str.ofString "row") e3] [] e4) [.NotEq] [.Call (.Attribute (.Name (Str.ofString "due") f1) (Str.ofString "count") f2) [.Name (Str.ofString "row") f3] [] f4] g1], 0⟩] SCN g2) g3) (LWE L cr cm cd fa)) Q E s := by
  obtain ⟨h, g, d, t, os⟩ := s
  dsimp only at *
  refine asgComp hsw ?_
  have cl : closureFor SCN (LWE L cr cm cd fa) = pure [(Str.ofString "rows", cr), (Str.ofString "due", cd)] := by rfl
  refine comp_listU hh cl (by decide) rfl (by decide) rfl ?_
  refine wpAny_Name (wpAny_loadName_local (by rfl) (by rfl) S.F.ns mf ?_)
  refine ⟨fi, us, fun i ys nw => CntsAre ys ((fs.take i).filterMap (cntOf ss ts)) nw, rfl, ⟨_, (S.N _ hf).1, rfl, _, rfl⟩, by rw [sizeLine_eq, hU.length]; exact ar3 ‹_› (by decide), .nil, ?_, ?_⟩
  · intro C i v ys own nw h₃ tk₃ m₃ E' htk hv hJ F₃ hm N₃
    obtain ⟨x, tx, rfl, hx⟩ := Mine.StrsAre.at hU hv
    dsimp only at htk F₃ N₃
    have hnx := cnts_take (a := ss) (b := ts) hx
    have row : ∀ (h' : Heap) (m' : Str → Option Value) (tk : Nat) (q : Pos) (E'' : Value → Shared → Prop) (Q' : Value → Shared → Prop), Fr h C h' m' → m' (Str.ofString "row") = some (.str x tx) → Q' (.str x tx) ⟨h', g, d, tk, os⟩ → wpAny (model PG w) A (eval (.Name (Str.ofString "row") q) (compEnvC SCN [(Str.ofString "rows", cr), (Str.ofString "due", cd)] C (LWE L cr cm cd fa))) Q' E'' ⟨h', g, d, tk, os⟩ := fun h' m' tk q E'' Q' F' hm' hq' => nmC F' hm' hq' rfl (by rfl) (by decide)
    refine forIn1 (eTst ?_)
    refine evCount (by rfl) (by rfl) (by rfl) (IsCell_keep S.r fun o => F₃.keep _ o) (by decide) (F₃.keep _ _ (S.N _ hr).1) hS l3 (by rfl) (fun Q' hq' => row _ _ _ _ _ _ F₃ hm hq') fun t1 tk1 => ?_
    refine evCount (by rfl) (by rfl) (by rfl) (IsCell_keep S.d fun o => F₃.keep _ o) (by decide) (F₃.keep _ _ (S.N _ hd).1) hT l4 (by rfl) (fun Q' hq' => row _ _ _ _ _ _ F₃ hm hq') fun t2 tk2 => ?_
    refine PySem.P.ne_int (wpAny_truthy_bool ?_)
    by_cases hc : ss.count x = ts.count x
    · rw [if_neg (by simp [hc])]
      refine ⟨h₃, _, m₃, rfl, F₃, N₃, ?_⟩
      show CntsAre _ _ _
      rw [hnx, show cntOf ss ts x = none from if_neg (by simpa using hc)]
      simpa using hJ
    · rw [if_pos (by simp; lia)]
      refine tup3 (by rfl) ?_
      refine evCount (by rfl) (by rfl) (by rfl) (IsCell_keep S.r fun o => F₃.keep _ o) (by decide) (F₃.keep _ _ (S.N _ hr).1) hS l1 (by rfl) (fun Q' hq' => row _ _ _ _ _ _ F₃ hm hq') fun t3 tk3 => ?_
      refine evCount (by rfl) (by rfl) (by rfl) (IsCell_keep S.d fun o => F₃.keep _ o) (by decide) (F₃.keep _ _ (S.N _ hd).1) hT l2 (by rfl) (fun Q' hq' => row _ _ _ _ _ _ F₃ hm hq') fun t4 tk4 => ?_
      refine row _ _ _ _ _ _ F₃ hm fun T h5 k5 n5 e5 => ?_
      have N5 := News_cons F₃ n5 e5 (News_keep N₃ k5)
      refine EltEnd.intro [(T, seqObj "tuple" #[.int ((ss.count x : Nat) : Int) t3, .int ((ts.count x : Nat) : Int) t4, .str x tx] 0)] (Fr_up F₃ k5) N5 (fun q hq' z hz => ?_) ?_
      · rw [List.mem_singleton.mp hq']
        exact Ne.symm (fresh_ne n5 (N₃ _ (List.mem_append_left _ hz)).1)
      · show CntsAre _ _ _
        rw [hnx, show cntOf ss ts x = some (ss.count x, ts.count x, x) from if_pos hc]
        exact .snoc T _ _ x t3 t4 tx hJ
  · intro D C h' tk m' ys nw k hJ nD nC hDC hns hget hnw hk _
    rw [hU.length, List.take_length] at hJ
    have S1 := (S.keep hk).adds S.F (ms := nw) (fun q hq' => ⟨(hnw q hq').1, (hnw q hq').2.2.2⟩) hJ.pln
    have S2 := S1.add S.F nD hget .seq
    have nCL : C ≠ L := News_ne S.F nC
    refine wpAny_assign_Name (wpAny_storeName_local (by rfl) S2.F.ns (fun h2 ns sb => ?_) (by rfl))
    refine ⟨m', hns.sameBut sb nCL, fun h3 sb3 => ?_⟩
    have S4 := (S2.set ns sb.2).offC (hns.sameBut sb nCL) (none_of_sub S.F.keep nC) (fun q hq' => ?_) nCL sb3
    · exact hq h3 _ D ys k _ nw S4 hJ (if_pos rfl) fun y hy => if_neg hy
    · rcases List.mem_cons.mp hq' with rfl | hq'
      · exact hDC
      · rcases List.mem_append.mp hq' with hq' | hq'
        · exact (hnw q hq').2.2.1
        · exact fresh_ne nC (S.N q hq').1
end

end
-- LU
section
open PySem PySem.W PyProof.Rows PySem.Calls PySem.Spec PySem.Builtin.Str
theorem around_le' {M : Model} {α : Type} {A : Around} {t : Sem α} {Q : α → Shared → Prop} {E : Value → Shared → Prop} {s : Shared} {dp un : Nat} (hh : A.handled = none) (hd : A.depth ≤ dp) (hu : A.units ≤ un) (h : wpAny M ⟨none, dp, A.frames, A.guards, un⟩ t Q E s) : wpAny M A t Q E s := by
  intro Γ p hΓ
  refine h Γ p ⟨?_, Nat.le_trans hΓ.2.1 hd, hΓ.2.2.1, hΓ.2.2.2.1, Nat.le_trans hΓ.2.2.2.2 hu⟩
  have := hΓ.1
  rw [hh] at this
  exact this
section
set_option maxRecDepth 100000 in
set_option maxHeartbeats 8000000 in
theorem tupM_x {w : World} {fr : Option (List Env)} {gs : Option (List Code)} {E : Value → Shared → Prop} {h : Heap} {g : Array GenState} {d : Drawn} {t : Nat} {os : OsState} {C M B N : Addr} {a b : Int} {ta tb tx t1 t2 : Tok} {z : Str} {k : Nat} {dd : Option Addr} {x : Nat → Int} {y : Nat → Tok} {v : Nat → Value}
  (eC : h.get? M = some ⟨.type "type", none, .cls { name := Str.ofString "Mismatch", bases := [.type "tuple"], mro := [.ref M, .type "tuple", .type "object"], ns := N, qualname := Str.ofString "Mismatch", hasDict := false }, #[some (.ref B), none, some (.str (Str.ofString "Mismatch") t1), some (.str (Str.ofString "Mismatch") t2), some .none, some (.bool false)]⟩)
  (eN : h.get? N = some ⟨.type "dict", none, .dict #[⟨x 0, .str (Str.ofString "__module__") (y 0), v 0⟩, ⟨x 1, .str (Str.ofString "__firstlineno__") (y 1), v 1⟩, ⟨x 2, .str (Str.ofString "__doc__") (y 2), v 2⟩, ⟨x 3, .str (Str.ofString "__slots__") (y 3), v 3⟩, ⟨x 4, .str (Str.ofString "_fields") (y 4), v 4⟩, ⟨x 5, .str (Str.ofString "_field_defaults") (y 5), v 5⟩,
   ⟨x 6, .str (Str.ofString "__new__") (y 6), v 6⟩, ⟨x 7, .str (Str.ofString "_make") (y 7), v 7⟩, ⟨x 8, .str (Str.ofString "_replace") (y 8), v 8⟩, ⟨x 9, .str (Str.ofString "__replace__") (y 9), v 9⟩, ⟨x 10, .str (Str.ofString "__repr__") (y 10), v 10⟩, ⟨x 11, .str (Str.ofString "_asdict") (y 11), v 11⟩, ⟨x 12, .str (Str.ofString "__getnewargs__") (y 12), v 12⟩, ⟨x 13, .str (Str.ofString "__match_args__") (y 13), v 13⟩, ⟨x 14, .str (Str.ofString "actual") (y 14), v 14⟩, ⟨x 15, .str (Str.ofString "expected") (y 15), v 15⟩, ⟨x 16, .str (Str.ofString "value") (y 16), v 16⟩, ⟨x 17, .str (Str.ofString "__static_attributes__") (y 17), v 17⟩] 2, #[]⟩)
  (e : h.get? C = some ⟨.ref M, dd, .seq #[.int a ta, .int b tb, .str z tx] k, #[]⟩) :
   wpAny (model PG w) ⟨none, 400, fr, gs, 100⟩ (call (.type "tuple") [.ref C]) (fun v s' => Ex3 fun h' T tk => And5 ((Ext h h')) (h'.get? T = some (seqObj "tuple" #[.int a ta, .int b tb, .str z tx] 0)) (h.get? T = none) (v = .ref T) (s' = ⟨h', g, d, tk, os⟩)) E ⟨h, g, d, t, os⟩ := by
  x_run
end
theorem tupM {w : World} {A : Around} {E : Value → Shared → Prop} {Q : Value → Shared → Prop} {s : Shared} {C : Addr} {a b : Int} {ta tb tx : Tok} {x : Str} {k : Nat} {dd : Option Addr} (hh : A.handled = none) (hd : A.depth ≤ 400) (hu : A.units ≤ 100) (X : (KF w).In s.heap) (e : s.heap.get? C = some ⟨.ref 206, dd, .seq #[.int a ta, .int b tb, .str x tx] k, #[]⟩)
   (hq : ∀ h' T tk, (Ext s.heap h') → s.heap.get? T = none → h'.get? T = some (seqObj "tuple" #[.int a ta, .int b tb, .str x tx] 0) → Q (.ref T) { s with heap := h', toks := tk }) :
   wpAny (model PG w) A (call (.type "tuple") [.ref C]) Q E s := by
  obtain ⟨h, g, d, t, os⟩ := s
  refine around_le' hh hd hu (wpAny_mono (tupM_x (x := fun i => [_, _, _, _, _, _, _, _, _, _, _, _, _, _, _, _, _, _].getD i 0) (y := fun i => [486, 490, 492, 494, 498, 499, 510, 532, 543, 544, 552, 559, 567, 571, 581, 591, 601, 602].getD i 0) (v := fun i => [_, _, _, _, _, _, _, _, _, _, _, _, _, _, _, _, _, _].getD i .none) (X 206 _ rfl) (X 205 _ rfl) e) (fun v s' hv => ?_) fun _ _ e => e)
  obtain ⟨h', T, tk, k1, e1, n1, rfl, rfl⟩ := hv
  exact hq h' T tk k1 n1 e1

end
-- LV
section
open PySem PySem.W PyProof.Rows PySem.Calls PySem.Spec PySem.Builtin.Str
set_option maxRecDepth 100000
set_option maxHeartbeats 4000000
theorem readsAll_snoc {h : Heap} {vs : List Value} {ds : List PyData} {v : Value} {d : PyData} (H : ReadsAll h vs ds []) (r : Reads h v d []) : ReadsAll h (vs ++ [v]) (ds ++ [d]) [] := by
  generalize ha : ([] : List Addr) = as at H
  induction vs generalizing ds as with
  | nil => cases H; exact .cons r .nil
  | cons w vs ih =>
    cases H with
    | cons x y =>
      rename_i as bs
      have e := List.append_eq_nil_iff.mp ha.symm
      obtain ⟨rfl, rfl⟩ := e
      have := ih _ rfl y
      exact .cons x this
noncomputable def cntD (c : Cnt) : PyData := .tuple [.int (c.1 : Nat), .int (c.2.1 : Nat), .str c.2.2]
theorem readsC {h : Heap} {vs : List Value} {rs : List Cnt} {ms : List (Addr × Obj)} (H : CntsAre vs rs ms) (k : ∀ p ∈ ms, h.get? p.1 = some p.2) : ReadsAll h vs (rs.map cntD) [] := by
  induction H with
  | nil => exact .nil
  | snoc T a b x ta tb t _ ih =>
    rw [List.map_append]
    refine readsAll_snoc (ih fun p hp => k p (.tail _ hp)) ?_
    exact .tuple (k _ (.head _)) rfl rfl (.cons (.int _ _) (.cons (.int _ _) (.cons (.str _ _) .nil)))
theorem shpC {rs : List Cnt} (h : ∀ c ∈ rs, PyData.strOk c.2.2 = true) : SeqAt.shaped (.list (rs.map cntD)) = true := by
  have : PyData.canLayAll0 (rs.map cntD) = true ∧ PyData.depthAll (rs.map cntD) ≤ 1 := by
    induction rs with
    | nil => exact ⟨rfl, Nat.zero_le _⟩
    | cons c r ih =>
      obtain ⟨a, b⟩ := ih fun y hy => h y (.tail _ hy)
      constructor
      · simp [PyData.canLayAll0, PyData.canLay0, cntD, a, h c (.head _)]
      · simp [PyData.depthAll, PyData.depth, cntD]; lia
  unfold SeqAt.shaped
  simp [PyData.canLay0, PyData.depth, this.1]
  exact lc (lR1 _) (.h z0 (lN 1) (.g z0 (lN 63))) lT this.2
theorem MisAre.at {vs : List Value} {rs : List Cnt} {ms : List (Addr × Obj)} (H : MisAre vs rs ms) : ∀ {i : Nat} {v : Value}, vs[i]? = some v → Ex9 fun C dd a b x ta tb t k => And3 (v = .ref C) (rs[i]? = some (a, b, x)) ((C, (⟨.ref 206, dd, .seq #[.int ((a : Nat) : Int) ta, .int ((b : Nat) : Int) tb, .str x t] k, #[]⟩ : Obj)) ∈ ms) := by
  induction H with
  | nil => intro i v h; simp at h
  | snoc C dd a b x ta tb t k hm ih =>
    intro i v h
    rename_i vs rs ms
    have hl := hm.len
    by_cases q : i < vs.length
    · rw [List.getElem?_append_left q] at h
      obtain ⟨C', dd', a', b', x', ta', tb', t', k', e1, e2, e3⟩ := ih h
      exact ⟨C', dd', a', b', x', ta', tb', t', k', e1, by rw [List.getElem?_append_left (by exact ar15 ‹_› ‹_›)]; exact e2, List.mem_append_left _ e3⟩
    · have : i = vs.length := by have := (List.getElem?_eq_some_iff.mp h).1; simp at this; exact Nat.le_antisymm (lc (lR2 _ _) (.h (lS z0) (lS z1) (.g z0 z1)) lT this) (Nat.ge_of_not_lt q)
      subst this
      rw [List.getElem?_append_right (Nat.le_refl _)] at h
      simp at h
      exact ⟨C, dd, a, b, x, ta, tb, t, k, h.symm, by rw [hl, List.getElem?_append_right (Nat.le_refl _)]; simp, List.mem_append_right _ (.head _)⟩

end
-- LX
section
open PySem PySem.W PyProof.Rows PySem.Calls PySem.Spec PySem.Builtin.Str
set_option maxRecDepth 100000
set_option maxHeartbeats 4000000
theorem fsts_len_aux : ∀ (l a : List Str), (l.foldl (fun a x => if x ∈ a then a else a ++ [x]) a).length ≤ a.length + l.length
  | [], a => Nat.le_refl _
  | y :: l, a => by
    rw [List.foldl_cons, List.length_cons]
    by_cases h : y ∈ a
    · rw [if_pos h]; have := fsts_len_aux l a; exact lc (lR3 _ _ _) (.h z0 (lA z1 z2) (.g z0 (lA z1 (lS z2)))) lT this
    · rw [if_neg h]; have := fsts_len_aux l (a ++ [y]); rw [List.length_append, List.length_singleton] at this; exact lc (lR3 _ _ _) (.h z0 (lA (lS z1) z2) (.g z0 (lA z1 (lS z2)))) lT this
theorem fsts_len (l : List Str) : (fsts l).length ≤ l.length := by have := fsts_len_aux l []; rw [List.length_nil, Nat.zero_add] at this; exact this
noncomputable abbrev STU : Scope := { kind := .function, names := [(Str.ofString ".0", .local), (Str.ofString "row", .local), (Str.ofString "tuple", .globalImplicit)], isGenerator := false, isCoroutine := false }
section
variable {w : World} {A : Around} {E : Value → Shared → Prop} {s : Shared} {hg : Heap} {L cr cm cd fa : Addr} {Z : List Addr} {m : Str → Option Value} {vr vm vd : Option Value} {news : List (Addr × Obj)} {p : Program} {loose : List Str} {mean : ExcName → Option Value} {mg mb : Str → Option Value}
theorem stCheck3 {r co : Addr} {vs cs : List Value} {k1 k2 n : Nat} {x : Str} {ts : Tok} {mc : List (Addr × Obj)} {q1 q2 q3 q4 q5 q6 q7 q8 q9 q10 q11 q12 q13 q14 : Pos} {body : List Stmt} {Q : Flow → Shared → Prop} (X : (KF w).In hg) (Tp : Top p loose mean mg mb hg) (G : LG hg) (hh : A.handled = none) (hd : A.depth ≤ 350) (hu : A.units ≤ 80) (hpos : 0 < s.toks)
    (S : LSt hg L cr cm cd Z s.heap m (some (.ref r)) vm vd news) (hr : (r, seqObj "list" vs.toArray k1) ∈ news) (hc : (co, seqObj "list" cs.toArray k2) ∈ news) (hmc : ∀ p ∈ mc, p ∈ news) (hS : StrsAre vs (rowsOf x)) (hC : CntsAre cs ((fsts (rowsOf x ++ (rowsOf x).map (dueN n))).filterMap (cntOf (rowsOf x) ((rowsOf x).map (dueN n)))) mc)
    (ok1 : Okk (rowsOf x)) (ok2 : Okk ((rowsOf x).map (dueN n))) (mco : m (Str.ofString "counts") = some (.ref co)) (msn : m (Str.ofString "sent") = some (.str (Nat.repeat quote n x) ts)) (hx : (Nat.repeat quote n x).length ≤ 300) (hl : (rowsOf x).length < 64)
    (hq : ∀ h' tk, LSt hg L cr cm cd Z h' m (some (.ref r)) vm vd news → Q .next { s with heap := h', toks := tk }) :
    wpAny (model PG w) A (exec (.If (.Compare (.ListComp (.Call (.Name (Str.ofString "tuple") q1) [.Name (Str.ofString "row") q2] [] q3) [⟨.Name (Str.ofString "row") q4, .Call (.Name (Str.ofString "_count_diff_all_purpose") q5) [.Name (Str.ofString "rows") q6, .Call (.Name (Str.ofString "_law_rows") q7) [.Name (Str.ofString "sent") q8] [] q9] [] q10, [], 0⟩] STU q11) [.NotEq] [.Name (Str.ofString "counts") q12] q13) body [] q14) (LWE L cr cm cd fa)) Q E s := by
  obtain ⟨h, g, d, t, os⟩ := s
  dsimp only at *
  obtain ⟨o3, e3, -, -, -, -, -, -, G3, -, -, -, -, G4⟩ := G.g
  obtain ⟨o0, e0, -, -, -, G0⟩ := G.b
  refine if1 (eTst ?_)
  refine comp_list hh (closureFor_none (by decide)) (by decide) rfl (by decide) rfl ?_
  refine cN2 (wpAny_Name (ldG (by rfl) (by rfl) (by rfl) (S.F.keep _ _ e3) G3 ?_)) (by rfl)
  refine cwk2 (frK S.F X) (kF w).2.2.2.2.1 (by rfl) (by rfl) (wpAny_Name (wpAny_loadName_cell (c := cr) (by rfl) (by rfl) (by rfl) S.r ?_))
  refine evRows X Tp G hd hpos S msn hx fun h1 tk1 D1 ys S1 hS1 _ nD1 k1' => ⟨frK S1.F X, ?_⟩
  rw [rows_rep] at hS1
  dsimp only at nD1 k1' ⊢
  refine count_diff (s := ⟨h1, g, d, tk1, os⟩) (frK S1.F X) (Tp.keeps S1.F.keep) hh (by exact ar2 ‹_› (by decide)) (by exact ar2 ‹_› (by decide)) (S1.N _ (.tail _ hr)).1 (S1.N _ (.head _)).1 hS hS1 hl (by rw [List.length_map]; exact hl) fun D h2 tk2 wm ms km k2' eD hM hms => ?_
  dsimp only at k2' ⊢
  have S2 := S1.keep k2'
  rw [show cdOf (rowsOf x) ((rowsOf x).map (dueN n)) = _ from cdOf_eq _ _] at hM
  unfold cntsOf at hM
  generalize hrs : (fsts (rowsOf x ++ (rowsOf x).map (dueN n))).filterMap (cntOf (rowsOf x) ((rowsOf x).map (dueN n))) = rs at hM hC
  have hrk : ∀ c ∈ rs, PyData.strOk c.2.2 = true := by
    rw [← hrs]
    intro c hc'
    obtain ⟨y, hy, e⟩ := List.mem_filterMap.mp hc'
    have hy' := (mem_fsts y _).mp hy
    have e2 : c.2.2 = y := by unfold cntOf at e; split at e <;> cases e; rfl
    rw [e2]
    exact (List.mem_append.mp hy').elim (ok1 y) (ok2 y)
  have hlen : wm.length ≤ 1000 := by
    rw [hM.len, ← hrs]
    have h1 := List.length_filterMap_le (cntOf (rowsOf x) ((rowsOf x).map (dueN n))) (fsts (rowsOf x ++ (rowsOf x).map (dueN n)))
    have h2 := fsts_len (rowsOf x ++ (rowsOf x).map (dueN n))
    rw [List.length_append, List.length_map] at h2
    exact lc (lR3 _ _ _) (.h (lS z0) (lN 64) (.h (lS z0) (lN 64) (.h z1 z2 (.h z2 (lA z0 z0) (.g z1 (lN 1000)))))) lT hl hl h1 h2
  refine ⟨D, wm, fun i ys nw => CntsAre ys (rs.take i) nw, rfl, ⟨_, eD, rfl, _, rfl⟩, by rw [sizeLine_eq]; exact ar2 ‹_› (by decide), .nil, ?_, ?_⟩
  · intro C i v ys' own nw h₃ tk₃ m₃ E' htk hv hJ F₃ hm N₃
    dsimp only at htk F₃ N₃
    obtain ⟨Cm, dd, a, b, y, ta, tb, ty, kk, rfl, hri, hin⟩ := hM.at hv
    rw [List.forIn_nil]
    refine wpAny_pure ?_
    rw [if_pos rfl]
    have keep : Ext hg h₃ := fun b o e => F₃.keep _ _ (S2.F.keep _ _ e)
    refine cN1 (wpAny_Name (ldB (by rfl) (by rfl) (by rfl) (by rfl) (keep _ _ e3) G4 (keep _ _ e0) G0 ?_)) (by rfl)
    refine cwt1 (nmC F₃ hm ?_ rfl (by rfl) (by decide))
    show wpAny _ _ (call (.type "tuple") [.ref Cm]) _ _ _
    refine tupM hh (by exact ar2 ‹_› (by decide)) (by exact ar2 ‹_› (by decide)) (fun a o e => keep _ _ (X a o e)) (F₃.keep _ _ (hms _ hin)) fun h4 T tk4 k4 nT eT => ?_
    dsimp only at k4 nT ⊢
    have N4 := News_cons F₃ nT eT (News_keep N₃ k4)
    refine EltEnd.intro [(T, seqObj "tuple" #[.int ((a : Nat) : Int) ta, .int ((b : Nat) : Int) tb, .str y ty] 0)] (Fr_up F₃ k4) N4 (fun q hq' z hz => ?_) ?_
    · rw [List.mem_singleton.mp hq']
      exact Ne.symm (fresh_ne nT (N₃ _ (List.mem_append_left _ hz)).1)
    · show CntsAre _ _ _
      rw [take_snoc hri]
      exact .snoc T a b y ta tb ty hJ
  · intro D2 h' tk ys' nw k hJ nD hget hnw hk _
    dsimp only at nD hk ⊢
    rw [hM.len, List.take_length] at hJ
    have S3 := S2.keep hk
    refine wpAny_Name (wpAny_loadName_local (by rfl) (by rfl) S3.F.ns mco ?_)
    refine neSame (.list (.tuple [.int, .int, .str])) rfl ?_ (Reads.list hget rfl rfl (by simpa using readsC hJ fun q hq' => (hnw q hq').1)) (Reads.list (S3.N _ (.tail _ hc)).1 rfl rfl (by simpa using readsC hC fun q hq' => (S3.N _ (.tail _ (hmc q hq'))).1)) (shpC hrk) (by show A.units + 64 < 9900; exact ar6 ‹_› (by decide)) (wpAny_truthy_bool ⟨rfl, ?_⟩)
    · exact hasL _ _ _ fun _ => rfl
    · exact hq h' tk (S3.sub fun _ h => .tail _ h)
end

end
-- LY
section
open PySem PySem.W PyProof.Rows PySem.Calls PySem.Spec PySem.Builtin.Str
set_option maxRecDepth 100000
set_option maxHeartbeats 4000000
section
variable {w : World} {A : Around} {E : Value → Shared → Prop} {s : Shared} {hg : Heap} {L cr cm cd fa : Addr} {Z : List Addr} {m : Str → Option Value} {vr vm vd : Option Value} {news : List (Addr × Obj)} {p : Program} {loose : List Str} {mean : ExcName → Option Value} {mg mb : Str → Option Value}
theorem evSorted {e : Expr} {q1 q2 : Pos} {Q : Value → Shared → Prop} (G : LG hg) (S : LSt hg L cr cm cd Z s.heap m vr vm vd news) (hs : starEach [e] (LWE L cr cm cd fa) = [(false, eval e (LWE L cr cm cd fa))])
    (he : wpAny (model PG w) A (eval e (LWE L cr cm cd fa)) (fun v s1 => Ex4 fun l vs ss k => And5 (v = .ref l) (s1.heap.get? l = some (seqObj "list" (vs : List Value).toArray k)) (StrsAre vs ss) (ss.length < 64) (∀ D h' ys ss' k', (Ext s1.heap h') → s1.heap.get? D = none → h'.get? D = some (seqObj "list" (ys : List Value).toArray k') → StrsAre ys ss' → ss'.Perm ss → sortedS ss' = true → Q (.ref D) { s1 with heap := h' })) E s) :
    wpAny (model PG w) A (eval (.Call (.Name (Str.ofString "sorted") q1) [e] [] q2) (LWE L cr cm cd fa)) Q E s := by
  obtain ⟨h, g, d, t, os⟩ := s
  obtain ⟨o3, e3, -, -, -, -, -, -, -, G3, -⟩ := G.g
  obtain ⟨o0, e0, -, -, G0, -⟩ := G.b
  refine cN1 (wpAny_Name (ldB (by rfl) (by rfl) (by rfl) (by rfl) (S.F.keep _ _ e3) G3 (S.F.keep _ _ e0) G0 ?_)) hs
  refine cwb1 (wpAny_mono he (fun v s1 h1 => ?_) fun _ _ e => e)
  obtain ⟨l, vs, ss, k, rfl, el, hS, hn, hq⟩ := h1
  show wpAny _ _ (call (.builtin "sorted") [.ref l]) _ _ _
  refine sorted_strs ⟨_, el, rfl, _, rfl⟩ hS (by rw [hS.length]; exact hn) fun out ss' a1 a2 a3 => ?_
  obtain ⟨k', hk'⟩ := sortedAll_at s1.heap vs out
  exact hq _ _ out.toList ss' k' (fun _ _ => sortedAll_old) (Heap.get?_none_of_le (Nat.le_succ _)) hk' a1 a2 a3
noncomputable abbrev SNI (nm : Str) : Scope := { kind := .function, names := [(Str.ofString ".0", .local), (Str.ofString "row", .local), (nm, .free)], isGenerator := false, isCoroutine := false }
theorem filt_take {fs bs : List Str} {i : Nat} {x : Str} (h : fs[i]? = some x) : (fs.take (i + 1)).filter (fun y => decide (y ∉ bs)) = (fs.take i).filter (fun y => decide (y ∉ bs)) ++ if x ∉ bs then [x] else [] := by
  rw [take_snoc h, List.filter_append]
  congr 1
  by_cases q : x ∈ bs <;> simp [q]
theorem evNotIn {nm : Str} {cl : List (Str × Addr)} {c fi b : Addr} {us ws : List Value} {k1 k2 : Nat} {fs bs : List Str} {q1 q2 q3 q4 q5 q6 q7 q8 q9 : Pos} {Q : Value → Shared → Prop} (G : LG hg) (hh : A.handled = none) (hu : A.units ≤ 80)
    (S : LSt hg L cr cm cd Z s.heap m vr vm vd news) (hcl : closureFor (SNI nm) (LWE L cr cm cd fa) = pure cl) (hcell : ∀ y ∈ (SNI nm).names, y.2 ≠ .cell) (hnames : ∀ y ∈ (SNI nm).names, y.2 = .local → (SNI nm).names.lookup y.1 = some .local)
    (hk : ∀ C, (compEnvC (SNI nm) cl C (LWE L cr cm cd fa)).kindOf nm = some .cell) (hc : ∀ C, (compEnvC (SNI nm) cl C (LWE L cr cm cd fa)).cells.lookup nm = some c) (hrow : ∀ C, (compEnvC (SNI nm) cl C (LWE L cr cm cd fa)).kindOf (Str.ofString "row") = some .local) (hnd : (nm == ("__debug__" : Str)) = false) (hcc : s.heap.IsCell c (some (.ref b)))
    (hf : (fi, seqObj "list" us.toArray k1) ∈ news) (hb : (b, seqObj "list" ws.toArray k2) ∈ news) (hU : StrsAre us fs) (hB : StrsAre ws bs) (hl : fs.length < 64) (ok1 : Okk fs) (ok2 : Okk bs) (mf : m (Str.ofString "firsts") = some (.ref fi))
    (hq : ∀ D h' tk ys k F, (Ext s.heap h') → s.heap.get? D = none → h'.get? D = some (seqObj "list" (ys : List Value).toArray k) → F.Perm fs → sortedS F = true → StrsAre ys (F.filter (fun y => decide (y ∉ bs))) → Q (.ref D) { s with heap := h', toks := tk }) :
    wpAny (model PG w) A (eval (.ListComp (.Name (Str.ofString "row") q1) [⟨.Name (Str.ofString "row") q2, .Call (.Name (Str.ofString "sorted") q3) [.Name (Str.ofString "firsts") q4] [] q5, [.Compare (.Name (Str.ofString "row") q6) [.NotIn] [.Name nm q7] q8], 0⟩] (SNI nm) q9) (LWE L cr cm cd fa)) Q E s := by
  obtain ⟨h, g, d, t, os⟩ := s
  dsimp only at *
  refine comp_list hh hcl hcell rfl hnames rfl ?_
  refine evSorted G S (by rfl) (wpAny_Name (wpAny_loadName_local (by rfl) (by rfl) S.F.ns mf ?_))
  refine ⟨fi, us, fs, k1, rfl, (S.N _ hf).1, hU, hl, fun D0 h1 os' F k' kk nD0 eD0 hF hP hso => ?_⟩
  dsimp only at kk nD0 ⊢
  refine ⟨D0, os', fun i ys nw => nw = [] ∧ StrsAre ys ((F.take i).filter (fun y => decide (y ∉ bs))), rfl, ⟨_, eD0, rfl, _, rfl⟩, by rw [sizeLine_eq, hF.length, hP.length_eq]; exact ar3 ‹_› (by decide), ⟨rfl, .nil⟩, ?_, ?_⟩
  · rintro C i v ys own nw h₃ tk₃ m₃ E' htk hv ⟨rfl, hJ⟩ F₃ hm N₃
    obtain ⟨x, tx, rfl, hx⟩ := Mine.StrsAre.at hF hv
    dsimp only at htk F₃ N₃
    refine forIn1 (eTst (nmC F₃ hm ?_ rfl (hrow C) (by decide)))
    refine wpAny_Name (wpAny_loadName_cell (c := c) rfl (hk C) (hc C) (IsCell_keep hcc fun o e => F₃.keep _ o (kk _ _ e)) ?_) hnd
    refine notinS (by exact ar2 ‹_› (by decide)) (F₃.keep _ _ (kk _ _ (S.N _ hb).1)) hB ok2 (ok1 x (hP.mem_iff.mp (List.mem_of_getElem? hx))) (wpAny_truthy_bool ?_)
    by_cases q : x ∈ bs
    · rw [if_neg (by simpa using q)]
      refine ⟨h₃, _, m₃, rfl, F₃, N₃, rfl, ?_⟩
      rw [filt_take hx, if_neg (by simpa using q), List.append_nil]
      exact hJ
    · rw [if_pos (by simpa using q)]
      refine nmC F₃ hm ?_ rfl (hrow C) (by decide)
      refine EltEnd.plain F₃ N₃ ⟨rfl, ?_⟩
      rw [filt_take hx, if_pos q]
      exact Mine.StrsAre.snoc hJ x tx
  · rintro D h' tk ys nw k ⟨rfl, hJ⟩ nD hget _ hk' _
    rw [hF.length, List.take_length] at hJ
    exact hq D h' tk ys k F (fun b o e => hk' _ _ (kk _ _ e)) (none_of_sub kk nD) hget hP hso hJ
end

end
-- LZ
section
open PySem PySem.W PyProof.Rows PySem.Calls PySem.Spec PySem.Builtin.Str
set_option maxRecDepth 100000
set_option maxHeartbeats 4000000
section
variable {w : World} {A : Around} {E : Value → Shared → Prop} {s : Shared} {hg : Heap} {L cr cm cd fa : Addr} {Z : List Addr} {m : Str → Option Value} {vr vm vd : Option Value} {news : List (Addr × Obj)} {p : Program} {loose : List Str} {mean : ExcName → Option Value} {mg mb : Str → Option Value}
theorem stOnly {r du fi : Addr} {vs ws us : List Value} {k1 k2 k3 : Nat} {ss ts fs : List Str} {q1 q2 q3 a1 a2 a3 a4 a5 a6 a7 a8 a9 b1 b2 b3 b4 b5 b6 b7 b8 b9 : Pos} {Q : Flow → Shared → Prop} (G : LG hg) (hh : A.handled = none) (hu : A.units ≤ 80)
    (S : LSt hg L cr cm cd Z s.heap m (some (.ref r)) vm (some (.ref du)) news) (hr : (r, seqObj "list" vs.toArray k1) ∈ news) (hd : (du, seqObj "list" ws.toArray k2) ∈ news) (hf : (fi, seqObj "list" us.toArray k3) ∈ news) (hS : StrsAre vs ss) (hT : StrsAre ws ts) (hU : StrsAre us fs) (hl : fs.length < 64) (ok1 : Okk fs) (ok2 : Okk ss) (ok3 : Okk ts)
    (mf : m (Str.ofString "firsts") = some (.ref fi))
    (hq : ∀ h' tk T D1 D2 ys1 ys2 n1 n2 F1 F2 m', LSt hg L cr cm cd Z h' m' (some (.ref r)) vm (some (.ref du)) ((T, seqObj "tuple" #[.ref D1, .ref D2] 0) :: (D2, seqObj "list" (ys2 : List Value).toArray n2) :: (D1, seqObj "list" (ys1 : List Value).toArray n1) :: news) → F1.Perm fs → sortedS F1 = true → F2.Perm fs → sortedS F2 = true →
      StrsAre ys1 (F1.filter (fun y => decide (y ∉ ts))) → StrsAre ys2 (F2.filter (fun y => decide (y ∉ ss))) → m' (Str.ofString "only") = some (.ref T) → (∀ y, y ≠ Str.ofString "only" → m' y = m y) → Q .next { s with heap := h', toks := tk }) :
    wpAny (model PG w) A (exec (.Assign [.Name (Str.ofString "only") q1] (.Tuple [.ListComp (.Name (Str.ofString "row") a1) [⟨.Name (Str.ofString "row") a2, .Call (.Name (Str.ofString "sorted") a3) [.Name (Str.ofString "firsts") a4] [] a5, [.Compare (.Name (Str.ofString "row") a6) [.NotIn] [.Name (Str.ofString "due") a7] a8], 0⟩] (SNI (Str.ofString "due")) a9,
      .ListComp (.Name (Str.ofString "row") b1) [⟨.Name (Str.ofString "row") b2, .Call (.Name (Str.ofString "sorted") b3) [.Name (Str.ofString "firsts") b4] [] b5, [.Compare (.Name (Str.ofString "row") b6) [.NotIn] [.Name (Str.ofString "rows") b7] b8], 0⟩] (SNI (Str.ofString "rows")) b9] 0 q2) q3) (LWE L cr cm cd fa)) Q E s := by
  obtain ⟨h, g, d, t, os⟩ := s
  dsimp only at *
  refine eAsg (tup2o (by rfl) ?_)
  refine evNotIn (c := cd) G hh hu S (show closureFor (SNI (Str.ofString "due")) (LWE L cr cm cd fa) = pure [(Str.ofString "due", cd)] from by rfl) (by decide) (by decide) (fun C => by rfl) (fun C => by rfl) (fun C => by rfl) (by decide) S.d hf hd hU hT hl ok1 ok3 mf fun D1 h1 tk1 ys1 n1 F1 k1' nD1 eD1 p1 s1 hy1 => ?_
  dsimp only at k1' nD1 ⊢
  have S1 := (S.keep k1').add S.F nD1 eD1 .seq
  refine evNotIn (s := ⟨h1, g, d, tk1, os⟩) (c := cr) G hh hu S1 (show closureFor (SNI (Str.ofString "rows")) (LWE L cr cm cd fa) = pure [(Str.ofString "rows", cr)] from by rfl) (by decide) (by decide) (fun C => by rfl) (fun C => by rfl) (fun C => by rfl) (by decide) S1.r (.tail _ hf) (.tail _ hr) hU hS hl ok1 ok2 mf fun D2 h2 tk2 ys2 n2 F2 k2' nD2 eD2 p2 s2 hy2 => ?_
  dsimp only at k2' nD2 ⊢
  have S2 := (S1.keep k2').add S1.F nD2 eD2 .seq
  intro T h3 k3' nT eT
  have S3 := (S2.keep k3').add S2.F nT eT .seq
  refine wpAny_storeName_local (by rfl) S3.F.ns (fun h4 ns sb => ?_) (by rfl)
  exact hq h4 _ T D1 D2 ys1 ys2 n1 n2 F1 F2 _ (S3.set ns sb.2) p1 s1 p2 s2 hy1 hy2 (if_pos rfl) fun y hy => if_neg hy
end

end
-- MA
section
open PySem PySem.W PyProof.Rows PySem.Calls PySem.Spec PySem.Builtin.Str
set_option maxRecDepth 100000
set_option maxHeartbeats 4000000
section
variable {prog : Program} {w : World} {A : Around} {E : Value → Shared → Prop} {s : Shared} {env : Env}
theorem readsSS {h : Heap} {T D1 D2 : Addr} {v1 v2 : List Value} {s1 s2 : List Str} {k1 k2 : Nat} (hT : h.IsTuple T #[.ref D1, .ref D2]) (e1 : h.get? D1 = some (seqObj "list" v1.toArray k1)) (e2 : h.get? D2 = some (seqObj "list" v2.toArray k2)) (h1 : StrsAre v1 s1) (h2 : StrsAre v2 s2) :
    ∃ as, Reads h (.ref T) (.tuple [.list (s1.map PyData.str), .list (s2.map PyData.str)]) as := by
  obtain ⟨o, ho, hc, n, hd⟩ := hT
  exact ⟨_, .tuple ho hc hd (.cons (readsS e1 h1) (.cons (readsS e2 h2) .nil))⟩
theorem hasSS (s1 s2 : List Str) : (Shape.tuple [.list .str, .list .str]).has (.tuple [.list (s1.map PyData.str), .list (s2.map PyData.str)]) = true := by
  exact Bool.and_eq_true_iff.mpr ⟨hasL _ _ _ fun _ => rfl, Bool.and_eq_true_iff.mpr ⟨hasL _ _ _ fun _ => rfl, rfl⟩⟩
end
section
variable {w : World} {A : Around} {E : Value → Shared → Prop} {s : Shared} {hg : Heap} {L cr cm cd fa : Addr} {Z : List Addr} {m : Str → Option Value} {vr vm vd : Option Value} {news : List (Addr × Obj)} {p : Program} {loose : List Str} {mean : ExcName → Option Value} {mg mb : Str → Option Value}
theorem evEnd {e : Expr} {q1 q2 q3 q4 q5 : Pos} {Q : Value → Shared → Prop} (G : LG hg) (S : LSt hg L cr cm cd Z s.heap m vr vm vd news) (hs : starEach [e] (LWE L cr cm cd fa) = [(false, eval e (LWE L cr cm cd fa))])
    (he : wpAny (model PG w) A (eval e (LWE L cr cm cd fa)) (fun v s1 => Ex4 fun l vs ss k => And5 (v = .ref l) (s1.heap.get? l = some (seqObj "list" (vs : List Value).toArray k)) (StrsAre vs ss) (ss.length < 60) (∀ D h' tk ys ss', (Ext s1.heap h') → s1.heap.get? D = none → h'.get? D = some (seqObj "list" (ys : List Value).toArray 0) → StrsAre ys (ss' ++ [Str.ofString "~"]) → ss'.Perm ss → sortedS ss' = true → Q (.ref D) { s1 with heap := h', toks := tk })) E s) :
    wpAny (model PG w) A (eval (.BinOp (.Call (.Name (Str.ofString "sorted") q1) [e] [] q2) .Add (.List [.Constant (.str (Str.ofString "~")) 0 q3] q4) q5) (LWE L cr cm cd fa)) Q E s := by
  refine eBin (evSorted G S hs (wpAny_mono he (fun v s1 h1 => ?_) fun _ _ e => e))
  obtain ⟨l, vs, ss, k, rfl, el, hS, hn, hq⟩ := h1
  refine ⟨l, vs, ss, k, rfl, el, hS, by exact ar1 ‹_› (by decide), fun D1 h1 ys ss' k' k1 nD1 eD1 hY hP hso => ?_⟩
  refine lst1 (by rfl) (Calls.Constant_str fun D2 h2 k2 nD2 eD2 => ?_)
  dsimp only at k2 nD2 ⊢
  refine add_l ⟨_, k2 _ _ eD1, rfl, _, rfl⟩ ⟨_, eD2, rfl, _, rfl⟩ (by rw [sizeLine_eq, hY.length, hP.length_eq]; simp; exact ar3 ‹_› (by decide)) fun D3 h3 k3 nD3 eD3 => ?_
  dsimp only at k3 nD3 ⊢
  exact hq D3 h3 _ _ ss' (fun b o e => k3 _ _ (k2 _ _ (k1 _ _ e))) (none_of_sub (fun b o e => k2 _ _ (k1 _ _ e)) nD3) eD3 (Mine.StrsAre.snoc hY _ _) hP hso
end

end
-- MB
section
open PySem PySem.W PyProof.Rows PySem.Calls PySem.Spec PySem.Builtin.Str
set_option maxRecDepth 100000
set_option maxHeartbeats 4000000
section
variable {w : World} {A : Around} {E : Value → Shared → Prop} {s : Shared} {hg : Heap} {L cr cm cd fa : Addr} {Z : List Addr} {m : Str → Option Value} {vr vm vd : Option Value} {news : List (Addr × Obj)} {p : Program} {loose : List Str} {mean : ExcName → Option Value} {mg mb : Str → Option Value}
theorem stCheck4 {r T0 D1 D2 : Addr} {vs y1 y2 : List Value} {k1 n1 n2 n : Nat} {x : Str} {F1 F2 : List Str} {ts : Tok} {q1 q2 q3 q4 q5 q6 q7 q8 q9 q10 q11 q12 q13 q14 q15 q16 q17 q18 q19 : Pos} {body : List Stmt} {Q : Flow → Shared → Prop} (X : (KF w).In hg) (Tp : Top p loose mean mg mb hg) (G : LG hg) (hh : A.handled = none) (hd : A.depth ≤ 350) (hu : A.units ≤ 80) (hfr : A.frames = some [LWE L cr cm cd fa]) (hpos : 0 < s.toks)
    (S : LSt hg L cr cm cd Z s.heap m (some (.ref r)) vm vd news) (hr : (r, seqObj "list" vs.toArray k1) ∈ news) (hT : (T0, seqObj "tuple" #[.ref D1, .ref D2] 0) ∈ news) (h1 : (D1, seqObj "list" y1.toArray n1) ∈ news) (h2 : (D2, seqObj "list" y2.toArray n2) ∈ news) (hS : StrsAre vs (rowsOf x))
    (p1 : F1.Perm (fsts (rowsOf x ++ (rowsOf x).map (dueN n)))) (o1 : sortedS F1 = true) (p2 : F2.Perm (fsts (rowsOf x ++ (rowsOf x).map (dueN n)))) (o2 : sortedS F2 = true) (hY1 : StrsAre y1 (F1.filter (fun y => decide (y ∉ (rowsOf x).map (dueN n))))) (hY2 : StrsAre y2 (F2.filter (fun y => decide (y ∉ rowsOf x))))
    (ok1 : Okk (rowsOf x)) (ok2 : Okk ((rowsOf x).map (dueN n))) (lt1 : ∀ y ∈ rowsOf x, Lt y (Str.ofString "~")) (lt2 : ∀ y ∈ (rowsOf x).map (dueN n), Lt y (Str.ofString "~"))
    (mon : m (Str.ofString "only") = some (.ref T0)) (msn : m (Str.ofString "sent") = some (.str (Nat.repeat quote n x) ts)) (hx : (Nat.repeat quote n x).length ≤ 300) (hl : (rowsOf x).length < 60)
    (hq : ∀ h' tk, LSt hg L cr cm cd Z h' m (some (.ref r)) vm vd news → Q .next { s with heap := h', toks := tk }) :
    wpAny (model PG w) A (exec (.If (.Compare (.Call (.Name (Str.ofString "sorted_list_difference") q1) [.BinOp (.Call (.Name (Str.ofString "sorted") q2) [.Name (Str.ofString "rows") q3] [] q4) .Add (.List [.Constant (.str (Str.ofString "~")) 0 q5] q6) q7,
      .BinOp (.Call (.Name (Str.ofString "sorted") q8) [.Call (.Name (Str.ofString "_law_rows") q9) [.Name (Str.ofString "sent") q10] [] q11] [] q12) .Add (.List [.Constant (.str (Str.ofString "~")) 0 q13] q14) q15] [] q16) [.NotEq] [.Name (Str.ofString "only") q17] q18) body [] q19) (LWE L cr cm cd fa)) Q E s := by
  obtain ⟨h, g, d, t, os⟩ := s
  dsimp only at *
  obtain ⟨o3, e3, -, -, -, -, -, -, -, -, G3, -⟩ := G.g
  refine if1 (eTst ?_)
  refine cN2 (wpAny_Name (ldG (by rfl) (by rfl) (by rfl) (S.F.keep _ _ e3) G3 ?_)) (by rfl)
  refine cwk2 (frK S.F X) (kF w).2.2.2.2.2.1 (by rfl) (by rfl) ?_
  refine wpAny_with_toks (n := 1) hpos (evEnd G S (by rfl) (wpAny_Name (wpAny_loadName_cell (c := cr) (by rfl) (by rfl) (by rfl) S.r ?_)))
  refine ⟨r, vs, _, k1, rfl, (S.N _ hr).1, hS, hl, fun Da h3 tk3 ya A1 ka nDa ea hA pA sA hp3 => ?_⟩
  dsimp only at ka nDa hp3 ⊢
  have S1 := (S.keep ka).add S.F nDa ea .seq
  refine evEnd G S1 (by rfl) (evRows (s := ⟨h3, g, d, tk3, os⟩) X Tp G hd hp3 S1 msn hx fun h4 tk4 Db yb S2 hS2 _ nDb kb => ?_)
  rw [rows_rep] at hS2
  refine ⟨Db, yb, _, 0, rfl, (S2.N _ (.head _)).1, hS2, by rw [List.length_map]; exact hl, fun Dc h5 tk5 yc A2 kc nDc ec hC pC sC => ⟨?_, ?_⟩⟩
  · exact frK (S2.keep kc).F X
  dsimp only at kc nDc ⊢
  have S3 := (S2.keep kc).add S2.F nDc ec .seq
  obtain ⟨oL, esL, epL, hoL, hdL, -⟩ := id S3.F.ns
  have l1 : A1.length < 60 := by rw [pA.length_eq]; exact hl
  have l2 : A2.length < 60 := by rw [pC.length_eq, List.length_map]; exact hl
  refine sorted_diff (s := ⟨h5, g, d, tk5, os⟩) (oLo := oL) S3.F.keep X Tp S3.u.2.2 hh (by show A.depth < 1000; exact ar4 ‹_› (by decide)) hfr (show ScopeKind.function ≠ .module from by decide) rfl (S3.N _ (.tail _ (.tail _ (.head _)))).1 (S3.N _ (.head _)).1 hoL (by intro v q; rw [hdL] at q; cases q) (S3.N _ (.tail _ (.tail _ (.head _)))).2.1 (S3.N _ (.head _)).2.1 hA hC (srtd_of sA) (srtd_of sC)
    (fun y hy => hy.elim (fun q => lt1 y (pA.mem_iff.mp q)) (fun q => lt2 y (pC.mem_iff.mp q))) l1 l2 fun T Dm Du h6 tk6 w1 w2 c1 c2 sl mi un k6 e6 tT em eu hm hu' hI => ?_
  dsimp only at k6 ⊢
  have S4 := S3.slots hoL k6 e6
  refine wpAny_Name (wpAny_loadName_local (by rfl) (by rfl) S4.F.ns mon ?_)
  rw [(hI.fin pA pC o1 p1).1] at hm
  rw [(hI.fin pA pC o2 p2).2] at hu'
  have sub : ∀ q ∈ news, q ∈ (Dc, seqObj "list" yc.toArray 0) :: (Db, seqObj "list" yb.toArray 0) :: (Da, seqObj "list" ya.toArray 0) :: news := fun q hq' => List.Mem.tail (Dc, seqObj "list" yc.toArray 0) (.tail (Db, seqObj "list" yb.toArray 0) (.tail (Da, seqObj "list" ya.toArray 0) hq'))
  obtain ⟨as, R1⟩ := readsSS tT em eu hm hu'
  obtain ⟨bs, R2⟩ := readsSS ⟨_, (S4.N _ (sub _ hT)).1, rfl, _, rfl⟩ (S4.N _ (sub _ h1)).1 (S4.N _ (sub _ h2)).1 hY1 hY2
  have okF : ∀ F : List Str, F.Perm (fsts (rowsOf x ++ (rowsOf x).map (dueN n))) → ∀ f : Str → Bool, Okk (F.filter f) := fun F pF f y hy => by
    have := (mem_fsts y _).mp (pF.mem_iff.mp ((List.mem_filter.mp hy).1))
    exact (List.mem_append.mp this).elim (ok1 y) (ok2 y)
  refine neSame (.tuple [.list .str, .list .str]) rfl (hasSS _ _) R1 R2 (shpSS (okF F1 p1 _) (okF F2 p2 _)) (by show A.units + 64 < 9900; exact lc (lR1 _) (.h z0 (lN 80) (.g (lS (lA z0 (lN 64))) (lN 9900))) lT hu) (wpAny_truthy_bool ⟨rfl, hq h6 tk6 (S4.sub sub)⟩)
end

end
-- MC
section
open PySem PySem.W PyProof.Rows PySem.Calls PySem.Spec PySem.Builtin.Str
set_option maxRecDepth 100000
set_option maxHeartbeats 4000000
section
variable {w : World} {A : Around} {E : Value → Shared → Prop} {s : Shared} {hg : Heap} {L cr cm cd fa : Addr} {Z : List Addr} {m : Str → Option Value} {vr vm vd : Option Value} {news : List (Addr × Obj)} {p : Program} {loose : List Str} {mean : ExcName → Option Value} {mg mb : Str → Option Value}
theorem stCheck5 {r du : Addr} {vs ws : List Value} {k1 k2 n : Nat} {x : Str} {ts : Tok} {q1 q2 q3 q4 q5 q6 q7 q8 q9 q10 q11 q12 q13 q14 : Pos} {body : List Stmt} {Q : Flow → Shared → Prop} (X : (KF w).In hg) (Tp : Top p loose mean mg mb hg) (G : LG hg) (hh : A.handled = none) (hd : A.depth ≤ 350) (hu : A.units ≤ 80) (hfr : A.frames = some [LWE L cr cm cd fa]) (hpos : 0 < s.toks)
    (S : LSt hg L cr cm cd Z s.heap m (some (.ref r)) vm (some (.ref du)) news) (hr : (r, seqObj "list" vs.toArray k1) ∈ news) (hdu : (du, seqObj "list" ws.toArray k2) ∈ news) (hS : StrsAre vs (rowsOf x)) (hT : StrsAre ws ((rowsOf x).map (dueN n)))
    (ok1 : Okk (lessA (rowsOf x) ((rowsOf x).map (dueN n)))) (ok2 : Okk (lessB (rowsOf x) ((rowsOf x).map (dueN n)))) (msn : m (Str.ofString "sent") = some (.str (Nat.repeat quote n x) ts)) (hx : (Nat.repeat quote n x).length ≤ 300) (hl : (rowsOf x).length < 60)
    (hq : ∀ h' tk, LSt hg L cr cm cd Z h' m (some (.ref r)) vm (some (.ref du)) news → Q .next { s with heap := h', toks := tk }) :
    wpAny (model PG w) A (exec (.If (.Compare (.Call (.Name (Str.ofString "unorderable_list_difference") q1) [.Subscript (.Name (Str.ofString "rows") q2) (.Slice none none none q3) q4, .Call (.Name (Str.ofString "_law_rows") q5) [.Name (Str.ofString "sent") q6] [] q7] [] q8) [.NotEq]
      [.Call (.Name (Str.ofString "_law_less") q9) [.Name (Str.ofString "rows") q10, .Name (Str.ofString "due") q11] [] q12] q13) body [] q14) (LWE L cr cm cd fa)) Q E s := by
  obtain ⟨h, g, d, t, os⟩ := s
  dsimp only at *
  obtain ⟨o3, e3, -, -, -, -, -, -, -, -, -, G3, G4, -⟩ := G.g
  refine if1 (eTst ?_)
  refine cN2 (wpAny_Name (ldG (by rfl) (by rfl) (by rfl) (S.F.keep _ _ e3) G3 ?_)) (by rfl)
  refine cwk2 (frK S.F X) (kF w).2.2.2.2.2.2.1 (by rfl) (by rfl) ?_
  refine slc_l (wpAny_Name (wpAny_loadName_cell (c := cr) (by rfl) (by rfl) (by rfl) S.r ?_))
  rw [evalPart_none]
  refine wpAny_pure (wpAny_pure ?_)
  refine ⟨r, vs.toArray, none, none, rfl, ⟨_, (S.N _ hr).1, rfl, _, rfl⟩, by rw [sizeLine_eq, List.size_toArray, hS.length]; exact ar3 ‹_› (by decide), .none, .none, fun l1 h1 ka n1 e1 => ?_⟩
  rw [slicePick_all] at e1
  dsimp only at ka n1 ⊢
  have S1 := (S.keep ka).add S.F n1 e1 .seq
  refine evRows (s := ⟨h1, g, d, _, os⟩) X Tp G hd hpos S1 msn hx fun h2 tk2 l2 ys S2 hS2 _ n2 kb => ⟨frK S2.F X, ?_⟩
  rw [rows_rep] at hS2
  dsimp only at n2 kb ⊢
  obtain ⟨oL, esL, epL, hoL, hdL, zL, rL⟩ := id S2.F.ns
  have nl12 : l1 ≠ l2 := fresh_ne n2 e1
  refine unorderable (s := ⟨h2, g, d, tk2, os⟩) (oLo := oL) S2.F.keep X Tp (S2.N _ (.tail _ (.head _))).2.2 (S2.N _ (.head _)).2.2 S2.u.2.2 hh (by show A.depth < 1000; exact ar4 ‹_› (by decide)) hfr (show ScopeKind.function ≠ .module from by decide) rfl (S2.N _ (.tail _ (.head _))).1 (S2.N _ (.head _)).1 hoL (by intro v q; rw [hdL] at q; cases q) (Ne.symm (S2.N _ (.tail _ (.head _))).2.1) (Ne.symm (S2.N _ (.head _)).2.1) nl12 hS hS2 (by exact ar1 ‹_› (by decide)) (by rw [List.length_map]; exact ar1 ‹_› (by decide)) fun T D h3 tk3 w1 w2 c1 c2 sl k3 eL tT eD e2 hw1 hw2 => ?_
  rw [uno_less] at hw1 hw2
  dsimp only at k3 hw1 hw2 ⊢
  have S3 : LSt hg L cr cm cd Z h3 m (some (.ref r)) vm (some (.ref du)) news := by
    refine (S2.sub fun q hq' => .tail _ (.tail _ hq')).but [l1, l2, L] (fun b o q e => k3 b o (fun c => q (by simp [c])) (fun c => q (by simp [c])) (fun c => q (by simp [c])) e) ⟨_, esL, epL, eL, hdL, zL, rL⟩ fun b hb => ?_
    simp only [List.mem_cons, List.not_mem_nil, or_false] at hb
    rcases hb with rfl | rfl | rfl
    · have a := S2.N _ (.tail _ (.head _))
      exact ⟨a.2.2, fun o vs c d => (by rw [a.1] at c; cases c; cases d), fun o vs c d => (by rw [a.1] at c; cases c; cases d), fun q hq' => fresh_ne n1 (S.N q hq').1⟩
    · have a := S2.N _ (.head _)
      exact ⟨a.2.2, fun o vs c d => (by rw [a.1] at c; cases c; cases d), fun o vs c d => (by rw [a.1] at c; cases c; cases d), fun q hq' => fresh_ne n2 (S1.N q (.tail _ hq')).1⟩
    · exact ⟨S2.u.2.2, fun o vs c d => (by rw [hoL] at c; cases c; rw [hdL] at d; cases d), fun o vs c d => (by rw [hoL] at c; cases c; rw [hdL] at d; cases d), fun q hq' => (S.N q hq').2.1⟩
  refine cN2 (wpAny_Name (ldG (by rfl) (by rfl) (by rfl) (S3.F.keep _ _ e3) G4 ?_)) (by rfl)
  refine cwk2 (frK S3.F X) (kF w).2.2.2.2.2.2.2 (by rfl) (by rfl) (wpAny_Name (wpAny_loadName_cell (c := cr) (by rfl) (by rfl) (by rfl) S3.r ?_))
  refine wpAny_Name (wpAny_loadName_cell (c := cd) (by rfl) (by rfl) (by rfl) S3.d ⟨frK S3.F X, ?_⟩)
  refine law_less (s := ⟨h3, g, d, tk3, os⟩) (frK S3.F X) (Tp.keeps S3.F.keep) hh (by show A.depth < 1000; exact ar4 ‹_› (by decide)) (S3.N _ hr).1 (S3.N _ hdu).1 hS hT (by exact ar1 ‹_› (by decide)) (by rw [List.length_map]; exact ar1 ‹_› (by decide)) fun T2 Da Db h4 tk4 u1 u2 d1 d2 k4 tT2 ea eb hu1 hu2 => ?_
  dsimp only at k4 ⊢
  obtain ⟨as, R1⟩ := readsSS (show h4.IsTuple T _ from let ⟨o, a, b⟩ := tT; ⟨o, k4 _ _ a, b⟩) (k4 _ _ eD) (k4 _ _ e2) hw1 hw2
  obtain ⟨bs, R2⟩ := readsSS tT2 ea eb hu1 hu2
  refine neSame (.tuple [.list .str, .list .str]) rfl (hasSS _ _) R1 R2 (shpSS ok1 ok2) (by show A.units + 64 < 9900; exact ar6 ‹_› (by decide)) (wpAny_truthy_bool ⟨rfl, hq h4 tk4 (S3.keep k4)⟩)
end

end
-- MD
section
open PySem PySem.W PyProof.Rows PySem.Calls PySem.Spec PySem.Builtin.Str
set_option maxRecDepth 100000
noncomputable def Kc (h h' : Heap) : Prop := ∀ b o, h.get? b = some o → (o.cls = .none ∨ o.cls = .type "code") → h'.get? b = some o
theorem Kc.ct {h h' : Heap} (k : Kc h h') {c P : Addr} {ps : Array Value} (x : CT h c P ps) : CT h' c P ps := by
  obtain ⟨⟨oc, vs, a, cc, d, -⟩, t⟩ := x.tab
  exact x.mono (fun o e => by rw [a] at e; cases e; exact k _ _ a (.inr cc)) (fun o e => by rw [t] at e; cases e; exact k _ _ t (.inl rfl))
theorem Kc.fc {h h' : Heap} (k : Kc h h') {q : Str} {c : Addr} (x : FC q h c) : FC q h' c := by
  obtain ⟨o', a, b⟩ := id x.2
  exact x.mono fun o e => by rw [a] at e; cases e; exact k _ _ a (.inr b)
theorem Kc.en {h h' : Heap} (k : Kc h h') {q : Str} {pos : Pos} {ps : Array Value} (x : Entry (FC q) h pos ps) : Entry (FC q) h' pos ps := by
  rcases x with a | ⟨c, a, b⟩
  · exact .inl a
  · exact .inr ⟨c, a, k.fc b⟩
theorem Kc.tabK {h h' : Heap} {Z : List Addr} {six : List (Pos × Str)} (k : Kc h h') (x : TabK six h Z) : TabK six h' Z := by
  obtain ⟨ps, hct, y⟩ := x
  refine ⟨ps, k.ct hct, ?_⟩
  rcases y with y | ⟨c, Pk, hc, ⟨a, b, psk, hp, hs⟩, e⟩
  · exact .inl y
  · exact .inr ⟨c, Pk, hc, ⟨k.fc a, b, psk, k.ct hp, fun x hx => k.en (hs x hx)⟩, e⟩
theorem Kc.tabsK {hg h h' : Heap} {Z : List Addr} (k : Kc h h') (x : TabsK hg h Z) : TabsK hg h' Z := by
  obtain ⟨a, ⟨ps, b, c⟩, d, e, f⟩ := x
  exact ⟨k.tabK a, ⟨ps, k.ct b, k.en c⟩, d, e, f⟩
section
variable {hg h h' : Heap} {L cr cm cd : Addr} {Z : List Addr} {m : Str → Option Value} {vr vm vd : Option Value} {news : List (Addr × Obj)}
theorem LSt.iter0 (s : LSt hg L cr cm cd Z h m vr vm vd news) {I : Addr} {oI : Obj} (e : h.get? I = some oI) (c1 : oI.cls ≠ .none) (c2 : oI.cls ≠ .type "code") (c3 : ∀ v, oI.data ≠ .cell v) (gI : hg.get? I = none) (nL : I ≠ L) (nw : ∀ p ∈ news, p.1 ≠ I) (k : ExtB I h h') :
    LSt hg L cr cm cd Z h' m vr vm vd news := by
  have kc : Kc h h' := fun b o x y => k b o (fun q => by rw [q, e] at x; cases x; exact y.elim c1 c2) x
  have kd : ∀ {a v}, h.IsCell a v → h'.IsCell a v := fun c => by
    obtain ⟨o, x, y⟩ := c
    exact ⟨o, k _ _ (fun q => by rw [q, e] at x; cases x; exact c3 _ y) x, y⟩
  obtain ⟨ps, u1, u2, u3⟩ := s.U
  exact ⟨⟨s.F.ns.at' fun o => k _ o (Ne.symm nL), fun b o x => k b o (fun q => by rw [q, gI] at x; cases x) (s.F.keep b o x), s.F.above⟩, kd s.r, kd s.m, kd s.d, s.ap, s.g, kc.tabsK s.T, ⟨ps, kc.ct u1, kc.en u2, kc.en u3⟩, s.u, fun p hp => ⟨k _ _ (nw p hp) (s.N p hp).1, (s.N p hp).2⟩, s.K⟩
theorem LSt.iter (s : LSt hg L cr cm cd Z h m vr vm vd news) {I : Addr} {oI oI' : Obj} (e : h.get? I = some oI) (c1 : oI.cls ≠ .none) (c2 : oI.cls ≠ .type "code") (c3 : ∀ v, oI.data ≠ .cell v) (gI : hg.get? I = none) (nL : I ≠ L) (nw : ∀ p ∈ news, p.1 ≠ I) (k : ExtB I h h') (e' : h'.get? I = some oI') (hp : Pln oI') :
    LSt hg L cr cm cd Z h' m vr vm vd ((I, oI') :: news) := by
  have t := s.iter0 e c1 c2 c3 gI nL nw k
  refine { t with N := fun p hp => ?_, K := fun p hp' => ?_ }
  · rcases List.mem_cons.mp hp with rfl | hp
    · exact ⟨e', nL, gI⟩
    · exact t.N p hp
  · rcases List.mem_cons.mp hp' with rfl | hp'
    · exact hp
    · exact s.K p hp'
end

end
-- ME
section
open PySem PySem.W PyProof.Rows PySem.Calls PySem.Spec PySem.Builtin.Str
set_option maxRecDepth 100000
set_option maxHeartbeats 4000000
section
variable {w : World} {A : Around} {E : Value → Shared → Prop} {s : Shared} {hg : Heap} {L cr cm cd fa : Addr} {Z : List Addr} {m : Str → Option Value} {vr vm vd : Option Value} {news : List (Addr × Obj)}
noncomputable abbrev RIt (x left : Int) : Obj := { cls := .type "range_iterator", data := .fields #[rawInt x, rawInt left, rawInt 1] }
theorem forMany {p1 p2 p3 p4 p5 p6 : Pos} {body : List Stmt} {Q : Flow → Shared → Prop} (G : LG hg) (hh : A.handled = none) (J : (Str → Option Value) → Prop) (hpos : 0 < s.toks)
    (S : LSt hg L cr cm cd Z s.heap m vr vm vd news) (hJ : J m)
    (step : ∀ (n : Nat) (s' : Shared) tn m' Z' vd' I oI (Q' : Flow → Shared → Prop) (E' : Value → Shared → Prop), 1 ≤ n → n ≤ 3 → J m' → LSt hg L cr cm cd Z' s'.heap m' vr (some (.int (n : Int) tn)) vd' ((I, oI) :: news) → 0 < s'.toks →
      (∀ h' tk Z'' m'' vd'', J m'' → LSt hg L cr cm cd Z'' h' m'' vr (some (.int (n : Int) tn)) vd'' ((I, oI) :: news) → Q' .next { s' with heap := h', toks := tk }) → wpAny (model PG w) A (execs body (LWE L cr cm cd fa)) Q' E' s')
    (hq : ∀ h' tk Z' m' vm' vd', 0 < tk → LSt hg L cr cm cd Z' h' m' vr vm' vd' news → Q .next { s with heap := h', toks := tk }) :
    wpAny (model PG w) A (exec (.For (.Name (Str.ofString "many") p1) (.Call (.Name (Str.ofString "range") p2) [.Constant (.int 1) 0 p3, .Constant (.int 4) 0 p4] [] p5) body [] p6) (LWE L cr cm cd fa)) Q E s := by
  obtain ⟨h, g, d, t, os⟩ := s
  dsimp only at *
  obtain ⟨o3, e3, -, -, G3, -⟩ := G.g
  obtain ⟨o0, e0, G0, -⟩ := G.b
  refine wpAny_For ?_ (by intro x; rfl)
  refine cN2 (wpAny_Name (ldB (by rfl) (by rfl) (by rfl) (by rfl) (S.F.keep _ _ e3) G3 (S.F.keep _ _ e0) G0 ?_)) (by rfl)
  refine cwt2 (wpAny_Constant_int (wpAny_Constant_int ?_))
  refine call_range_2 ?_
  dsimp only
  obtain ⟨ka, na, ea⟩ := newH (h := h) (o := { cls := .type "range", data := .fields #[.int 1 t, .int 4 (t + 1), .int 1 (t + 1 + 1)] }) rfl
  refine wpAny_pyIter_range (IsRange.new h 1 4 1 t (t + 1) (t + 1 + 1)) (by decide +kernel) ?_
  dsimp only
  generalize hH1 : h.push _ = h1 at ka ea ⊢
  have S1 := S.keep ka
  rw [show Builtin.Range.rangeSize 1 4 1 = 3 from by decide +kernel]
  obtain ⟨kb, nb, eb⟩ := newH (h := h1) (o := RIt 1 3) rfl
  generalize hH2 : h1.push _ = h2 at kb eb ⊢
  generalize h1.objs.size = I at nb eb ⊢
  have nw : ∀ p ∈ news, p.1 ≠ I := fun p hp => fresh_ne nb (S1.N p hp).1
  have S2 := (S1.keep kb).add S1.F nb eb ⟨.inr (by decide), fun _ h => (nomatch h)⟩
  refine codeAny_forLoop_any (R := fun r s' => match r with | .ok f => Q f s' | .error e => cameBackBy (model PG w) A (LWE L cr cm cd fa) E e s') (fun k s' => Ex7 fun h' tk m' Z' vm' vd' n => And6 (s' = (⟨h', g, d, tk, os⟩ : Shared)) (0 < tk) (J m') (LSt hg L cr cm cd Z' h' m' vr vm' vd' ((I, RIt (n + 1 : Nat) (3 - n : Nat)) :: news)) (n ≤ 3) (k = 3 - n)) ?_ 3
    ⟨h2, _, m, Z, vm, vd, 0, rfl, by exact Nat.succ_pos _, hJ, S2, by decide, rfl⟩
  rintro k s' ⟨h', tk, m', Z', vm', vd', n, rfl, htk, hJ', S', hn, rfl⟩
  obtain ⟨eI, nIL, gI⟩ := S'.N _ (.head _)
  dsimp only at eI nIL gI
  have hit : IsRangeIter h' I ((n + 1 : Nat) : Int) ((3 - n : Nat) : Int) 1 := eI
  by_cases h3 : n < 3
  · refine wpAny_pyNext_range_item hit (ip h3) fun h4 hit4 sb4 => ?_
    refine wpAny_pure (a := ()) ?_
    have e4 : h4.get? I = some (RIt ((n + 1 + 1 : Nat) : Int) ((3 - (n + 1) : Nat) : Int)) := by
      have := hit4
      rw [show ((n + 1 : Nat) : Int) + 1 = ((n + 1 + 1 : Nat) : Int) from rfl, show ((3 - n : Nat) : Int) - 1 = ((3 - (n + 1) : Nat) : Int) from im h3] at this
      exact this
    have S4 := (S'.sub (news' := news) fun p hp => .tail _ hp).iter eI (by intro q; cases q) (by intro q; injection q with q; exact absurd q (by decide)) (fun _ h => (nomatch h)) gI nIL nw (fun b o x y => (sb4.2 b x).trans y) e4 ⟨.inr (by intro q; cases q), fun _ h => (nomatch h)⟩
    refine wpAny_assign_Name (wpAny_storeName_cell (c := cm) (by rfl) (by rfl) (by rfl) S4.m fun h5 c5 sb5 => ?_)
    have S5 := S4.setM c5 sb5.2
    refine wpAny_with_toks (n := 1) (by show 1 ≤ tk + 1; exact lc (lR1 _) (.g (lN 1) (lS z0)) lT) (step (n + 1) ⟨h5, g, d, tk + 1, os⟩ _ m' Z' vd' I _ _ _ (by exact lc (lR1 _) (.g (lN 1) (lS z0)) lT) (by exact ar8 ‹_› (by decide)) hJ' S5 (by show 0 < tk + 1; exact Nat.succ_pos _) fun h6 tk6 Z6 m6 vd6 hJ6 S6 hp6 => ?_)
    exact ⟨3 - (n + 1), by exact lc (lR3 _ _ _) (.e (lA z0 (lS z1)) (lN 3) (.h (lN 3) (lA z2 z1) (.g (lS z0) z2))) lT (Nat.sub_add_cancel h3) (lU _ _), h6, tk6, m6, Z6, _, vd6, n + 1, rfl, hp6, hJ6, S6, by exact ar8 ‹_› (by decide), rfl⟩
  · have : n = 3 := by exact ar25 ‹_› ‹_›
    subst this
    refine wpAny_pyNext_range_end hh hit (by decide) fun h4 k4 => wpAny_execs_nil ?_
    exact hq h4 tk _ _ _ _ htk ((S'.sub (news' := news) fun p hp => .tail _ hp).iter0 eI (by intro q; cases q) (by intro q; injection q with q; exact absurd q (by decide)) (fun _ h => (nomatch h)) gI nIL nw fun b o x y => k4 b o x y)
end

end
-- MF
section
open PySem PySem.W PyProof.Rows PySem.Calls PySem.Spec PySem.Builtin.Str
set_option maxRecDepth 100000
set_option maxHeartbeats 4000000
section
variable {prog : Program} {w : World} {A : Around} {E : Value → Shared → Prop} {s : Shared} {env : Env}
theorem spS {env : Env} {Q : List Value → Shared → Prop} : ∀ {xs : List (Str × Pos)} {s : Shared}, (∀ ts tk, ts.length = xs.length → Q ((xs.zip ts).map fun p => Value.str p.1.1 p.2) { s with toks := tk }) →
    wpAny (model prog w) A (spliced (xs.map fun p => (false, eval (.Constant (.str p.1) 0 p.2) env))) Q E s
  | [], s, h => by
    have := h [] s.toks rfl
    exact spliced_nil this
  | x :: xs, s, h => by
    refine spliced_cons (Calls.Constant_str (spS fun ts tk hl => ?_))
    have := h (s.toks :: ts) tk (by simp [hl])
    simpa using this
noncomputable def sgnL : List Str := [Str.ofString "\n", Str.ofString "a", Str.ofString ".", Str.ofString "-", Str.ofString "\r\n", Str.ofString "\r"]
noncomputable def sgn (x : Int) : Str := sgnL.getD (x.fmod 6).toNat Str.empty
theorem fmod6 (x : Int) : 0 ≤ x.fmod 6 ∧ x.fmod 6 < 6 := ⟨Int.fmod_nonneg_of_pos x (by decide), Int.fmod_lt_of_pos x (by decide)⟩
theorem fm6 (x : Int) : (x.fmod 6).toNat < 6 := by obtain ⟨a, b⟩ := fmod6 x; lia
theorem evSign {xs : List (Str × Pos)} {x : Int} {t : Tok} {p1 p2 p3 p4 p5 : Pos} {Q : Value → Shared → Prop} (hx : xs.map (·.1) = sgnL) (hs : starEach (xs.map fun p => .Constant (.str p.1) 0 p.2) env = xs.map fun p => (false, eval (.Constant (.str p.1) 0 p.2) env)) (hb : backTo p1 (xs.map fun p => (false, eval (.Constant (.str p.1) 0 p.2) env)) = xs.map fun p => (false, eval (.Constant (.str p.1) 0 p.2) env))
    (hn : ∀ (s' : Shared) (Q' : Value → Shared → Prop), (Ext s.heap s'.heap) → Q' (.int x t) s' → wpAny (model prog w) A (eval (.Name (Str.ofString "x") p2) env) Q' E s')
    (hq : ∀ h' tk t', (Ext s.heap h') → Q (.str (sgn x) t') { s with heap := h', toks := tk }) :
    wpAny (model prog w) A (eval (.Subscript (.List (xs.map fun p => .Constant (.str p.1) 0 p.2) p1) (.BinOp (.Name (Str.ofString "x") p2) .Mod (.Constant (.int 6) 0 p3) p4) p5) env) Q E s := by
  refine eSub (wpAny_List_spliced ?_)
  rw [hs, hb]
  have h6 : xs.length = 6 := by have := congrArg List.length hx; rw [List.length_map] at this; exact this
  refine spS fun ts tk hl => ⟨by rw [List.length_map, List.length_zip, hl, Nat.min_self, h6, sizeLine_eq]; decide, ?_⟩
  obtain ⟨k1, n1, e1⟩ := newH (h := s.heap) (o := { cls := .type "list", data := .seq ((xs.zip ts).map fun p => Value.str p.1.1 p.2).toArray }) rfl
  dsimp only
  refine eBin (hn _ _ k1 (wpAny_Constant_int (PyProof.Rows.mod_int (by decide) ?_)))
  refine PySem.W.kba_turn (value' := PySem.Expr.Name (PySem.Str.ofString "_") ⟨0, 0, 0, 0⟩) (fun _ => rfl) ?_
  obtain ⟨f0, f6⟩ := fmod6 x
  have hlt := fm6 x
  have hg : ((xs.zip ts).map fun p => Value.str p.1.1 p.2)[(x.fmod 6).toNat]? = some (.str (xs[(x.fmod 6).toNat]'(by exact ar14 ‹_› ‹_›)).1 (ts[(x.fmod 6).toNat]'(by omega))) := by
    rw [List.getElem?_map, List.getElem?_eq_getElem (by rw [List.length_zip, hl, Nat.min_self, h6]; exact hlt), List.getElem_zip]
    rfl
  refine item_list (items := ((xs.zip ts).map fun p => Value.str p.1.1 p.2).toArray) ⟨_, e1, rfl, _, rfl⟩ f0 (by omega) (show (List.toArray _)[_]? = _ from (List.getElem?_toArray ..).trans hg) ?_ (by with_unfolding_all rfl) (fun _ => rfl)
  have hs' : (xs[(x.fmod 6).toNat]'(by exact ar14 ‹_› ‹_›)).1 = sgn x := by
    unfold sgn
    rw [← hx, List.getD_eq_getElem?_getD, List.getElem?_map, List.getElem?_eq_getElem (by exact ar14 ‹_› ‹_›)]
    rfl
  rw [hs']
  exact hq _ _ _ k1
end

end
-- MG
section
open PySem PySem.W PyProof.Rows PySem.Calls PySem.Spec PySem.Builtin.Str
set_option maxRecDepth 100000
set_option maxHeartbeats 4000000
section
variable {prog : Program} {w : World} {A : Around} {E : Value → Shared → Prop} {env : Env}
theorem spI {Q : List Value → Shared → Prop} : ∀ {xs : List (Int × Pos)} {s : Shared}, (∀ vs tk, IntsAre vs (xs.map (·.1)) → Q vs { s with toks := tk }) →
    wpAny (model prog w) A (spliced (xs.map fun p => (false, eval (.Constant (.int p.1) 0 p.2) env))) Q E s
  | [], s, h => by
    have := h [] s.toks .nil
    exact spliced_nil this
  | x :: xs, s, h => by
    refine spliced_cons (wpAny_Constant_int (spI fun vs tk hI => ?_))
    exact h (.int x.1 s.toks :: vs) tk (.cons x.1 s.toks hI)
end

end
-- P7
section
open PySem PySem.W PyProof.Rows PySem.Calls PySem.Spec PySem.Builtin.Str
theorem spl_sum : ∀ l, ((spl l).map fun p => p.length + 1).sum = l.length + 1
  | [] => rfl
  | k :: t => by
    have ih := spl_sum t
    obtain ⟨p, r, e⟩ := spl_ne t
    unfold spl
    split
    · simp only [List.map_cons, List.sum_cons, List.length_nil, List.length_cons, ih]; exact Nat.le_antisymm (lc (lR1 _) (.g (lA (lS (lN 0)) (lS z0)) (lS (lS z0))) lT) (lc (lR1 _) (.g (lS (lS z0)) (lA (lS (lN 0)) (lS z0))) lT)
    · rw [e] at ih ⊢
      simp only [ch, List.map_cons, List.sum_cons, List.length_cons] at ih ⊢
      exact Nat.le_antisymm (lc (lR3 _ _ _) (.e (lA (lS z0) z1) (lS z2) (.g (lA (lS (lS z0)) z1) (lS (lS z2)))) lT ih) (lc (lR3 _ _ _) (.d (lA (lS z0) z1) (lS z2) (.g (lS (lS z2)) (lA (lS (lS z0)) z1))) lT ih)
theorem repl2_len (l : List Nat) : (repl2 l).length ≤ l.length := by
  fun_induction repl2 l with
  | case1 => exact Nat.le_refl _
  | case2 t ih => simp only [List.length_cons]; exact lc (lR2 _ _) (.h z0 z1 (.g (lS z0) (lS (lS z1)))) lT ih
  | case3 k t _ ih => simp only [List.length_cons]; exact ar42 ‹_›
theorem rows_sum (x : Str) : ((rowsOf x).map fun r => r.length + 1).sum ≤ x.length + 1 := by
  have h := spl_sum (norm x.cps.toList)
  rw [← rows_spl, List.map_map] at h
  have h2 : (norm x.cps.toList).length ≤ x.length := by
    unfold norm m13
    rw [List.length_map]
    exact Nat.le_trans (repl2_len _) (Nat.le_of_eq (Array.length_toList))
  have e : ((rowsOf x).map fun r => r.length + 1) = (rowsOf x).map ((fun p : List Nat => p.length + 1) ∘ fun r : Str => r.cps.toList) := List.map_congr_left fun r _ => (congrArg (· + 1) (Array.length_toList (xs := r.cps))).symm
  rw [e, h]; exact ar42 ‹_›
theorem sum_ge1 : ∀ (l : List Str), l.length ≤ (l.map fun r => r.length + 1).sum
  | [] => Nat.zero_le _
  | a :: l => by have := sum_ge1 l; simp only [List.map_cons, List.sum_cons, List.length_cons]; exact lc (lR3 _ _ _) (.h z0 z1 (.g (lS z0) (lA (lS z2) z1))) lT this
theorem sum_mem : ∀ {l : List Str} {r : Str}, r ∈ l → r.length + 1 ≤ (l.map fun r => r.length + 1).sum
  | a :: l, r, h => by
    simp only [List.map_cons, List.sum_cons]
    rcases List.mem_cons.mp h with rfl | h
    · exact lc (lR2 _ _) (.g (lS z0) (lA (lS z0) z1)) lT
    · have := sum_mem h; exact lc (lR3 _ _ _) (.h (lS z0) z1 (.g (lS z0) (lA (lS z2) z1))) lT this
theorem rows_count (x : Str) : (rowsOf x).length ≤ x.length + 1 := Nat.le_trans (sum_ge1 _) (rows_sum x)
theorem row_len {x r : Str} (h : r ∈ rowsOf x) : r.length ≤ x.length := by have := Nat.le_trans (sum_mem h) (rows_sum x); exact lc (lR2 _ _) (.h (lS z0) (lS z1) (.g z0 z1)) lT this
theorem dueN_len (n : Nat) (x : Str) : (dueN n x).length ≤ n + x.length := by
  have : (dueN n x).cps.toList.length ≤ n + x.cps.toList.length := by
    rw [dueN_list, List.length_append]
    split
    · rw [List.length_replicate]; exact Nat.le_refl _
    · simp
  rw [Array.length_toList, Array.length_toList] at this
  exact this
theorem jn_len (s : List Nat) : ∀ ps : List (List Nat), (jn s ps).length ≤ (ps.map fun p => p.length + s.length).sum
  | [] => Nat.le_refl _
  | [p] => by simp [jn]
  | p :: q :: r => by
    have := jn_len s (q :: r)
    simp only [jn, List.length_append, List.map_cons, List.sum_cons] at this ⊢
    exact lc (lR5 _ _ _ _ _) (.h z0 (lA (lA z1 z2) z3) (.g (lA (lA z4 z2) z0) (lA (lA z4 z2) (lA (lA z1 z2) z3)))) lT this
theorem sum_le {f g : Str → Nat} {k : Nat} (h : ∀ x, f x ≤ k * g x) : ∀ l : List Str, (l.map f).sum ≤ k * (l.map g).sum
  | [] => by simp
  | a :: l => by
    simp only [List.map_cons, List.sum_cons, Nat.mul_add]; exact Nat.add_le_add (h a) (sum_le h l)
theorem rep_len (x : Str) (n : Nat) (hn : n ≤ 3) : (Nat.repeat quote n x).length ≤ 5 * (x.length + 1) := by
  rcases n with _ | n
  · show x.length ≤ _; exact lc (lR1 _) (.g z0 (lM 5 (lS z0))) lT
  · rw [rep_join]
    have h := jn_len [13, 10] (((rowsOf x).map (dueN (n + 1))).map (·.cps.toList))
    rw [← show (⟨#[13, 10]⟩ : Str).cps.toList = [13, 10] from rfl, ← jn_join, Array.length_toList] at h
    refine Nat.le_trans h ?_
    rw [List.map_map, List.map_map]
    refine Nat.le_trans (sum_le (g := fun r => r.length + 1) (k := 5) (fun r => ?_) _) (Nat.mul_le_mul_left 5 (rows_sum x))
    have := dueN_len (n + 1) r
    show (dueN (n + 1) r).cps.toList.length + 2 ≤ 5 * (r.length + 1)
    rw [Array.length_toList]
    show (dueN (n + 1) r).length + 2 ≤ _
    exact lc (lR3 _ _ _) (.h (lS z0) (lN 3) (.h z1 (lA (lS z0) z2) (.g (lA z1 (lN 2)) (lM 5 (lS z2))))) lT hn this
theorem dueN_mem {n : Nat} {x : Str} {c : Nat} (h : c ∈ (dueN n x).cps.toList) : c ∈ x.cps.toList := by
  rw [dueN_list, List.mem_append] at h
  rcases h with h | h
  · split at h
    · rename_i e
      rw [(List.mem_replicate.mp h).2]
      exact List.mem_of_mem_head? e
    · cases h
  · exact h
noncomputable def Sgns (x : Str) : Prop := ∀ c ∈ x.cps.toList, c ∈ [10, 97, 46, 45, 13]
theorem row_sgn {x r : Str} (hx : Sgns x) (h : r ∈ rowsOf x) : ∀ c ∈ r.cps.toList, c < 126 := by
  intro c hc
  obtain ⟨-, b⟩ := row_mem h
  have := hx c (b c hc)
  simp only [List.mem_cons, List.not_mem_nil, or_false] at this
  lia
theorem ok_of {r : Str} (h : ∀ c ∈ r.cps.toList, c < 126) : PyData.strOk r = true := by
  unfold PyData.strOk
  rw [Array.all_eq_true_iff_forall_mem]
  intro c hc
  have := h c (Array.mem_toList_iff.mpr hc)
  simp only [decide_eq_true_eq]; exact ar1 ‹_› (by decide)
theorem lt_of {r : Str} (h : ∀ c ∈ r.cps.toList, c < 126) : Lt r (Str.ofString "~") := by
  unfold Lt
  rw [show (Str.ofString "~").cps.toList = [126] from by decide]
  cases e : r.cps.toList with
  | nil => exact .nil
  | cons c t => exact .rel (h c (by rw [e]; exact .head _))
theorem less_ok {a b : List Str} (h : Okk a) : Okk (lessA a b) := fun x hx => by
  obtain ⟨k, hk, rfl⟩ := List.mem_map.mp hx
  have := List.mem_range.mp (List.mem_reverse.mp (List.mem_filter.mp hk).1)
  rw [List.getD_eq_getElem?_getD, List.getElem?_eq_getElem this]
  exact h _ (List.getElem_mem _)
theorem less_ok' {a b : List Str} (h : Okk b) : Okk (lessB a b) := fun x hx => by
  obtain ⟨k, hk, rfl⟩ := List.mem_map.mp hx
  have := List.mem_range.mp (List.mem_filter.mp hk).1
  rw [List.getD_eq_getElem?_getD, List.getElem?_eq_getElem this]
  exact h _ (List.getElem_mem _)
structure TextOk (x : Str) : Prop where
  l : x.length ≤ 50
  s : Sgns x
  r : (rowsOf x).length ≤ 26
theorem TextOk.rep {x : Str} (h : TextOk x) (n : Nat) (hn : n ≤ 3) : (Nat.repeat quote n x).length ≤ 300 := Nat.le_trans (rep_len x n hn) (Nat.le_trans (Nat.mul_le_mul_left 5 (Nat.succ_le_succ h.l)) (by decide))
theorem TextOk.rows {x : Str} (h : TextOk x) : (rowsOf x).length < 60 := by have := h.r; exact ar4 ‹_› (by decide)
theorem TextOk.ok1 {x : Str} (h : TextOk x) : Okk (rowsOf x) := fun _ hr => ok_of (row_sgn h.s hr)
theorem TextOk.sgn2 {x : Str} (h : TextOk x) (n : Nat) : ∀ y ∈ (rowsOf x).map (dueN n), ∀ c ∈ y.cps.toList, c < 126 := fun y hy c hc => by
  obtain ⟨r, hr, rfl⟩ := List.mem_map.mp hy
  exact row_sgn h.s hr c (dueN_mem hc)
theorem TextOk.ok2 {x : Str} (h : TextOk x) (n : Nat) : Okk ((rowsOf x).map (dueN n)) := fun y hy => ok_of (h.sgn2 n y hy)
theorem jn_mem {s : List Nat} {c : Nat} : ∀ {ps : List (List Nat)}, c ∈ jn s ps → c ∈ s ∨ ∃ p ∈ ps, c ∈ p
  | [p], h => .inr ⟨p, .head _, h⟩
  | p :: q :: r, h => by
    simp only [jn, List.mem_append] at h
    rcases h with (h | h) | h
    · exact .inr ⟨p, .head _, h⟩
    · exact .inl h
    · rcases jn_mem h with a | ⟨b, c, d⟩
      · exact .inl a
      · exact .inr ⟨b, .tail _ c, d⟩
theorem sgn_in (x : Int) : sgn x ∈ sgnL := by
  unfold sgn
  obtain ⟨a, b⟩ := fmod6 x
  have : (x.fmod 6).toNat < sgnL.length := fm6 x
  rw [List.getD_eq_getElem?_getD, List.getElem?_eq_getElem this]
  exact List.getElem_mem _
theorem sgnL_ok : ∀ y ∈ sgnL, y.length ≤ 2 ∧ Sgns y := by
  intro y hy
  have e : sgnL = [⟨#[10]⟩, ⟨#[97]⟩, ⟨#[46]⟩, ⟨#[45]⟩, ⟨#[13, 10]⟩, ⟨#[13]⟩] := by decide +kernel
  rw [e] at hy
  simp only [List.mem_cons, List.not_mem_nil, or_false] at hy
  rcases hy with rfl | rfl | rfl | rfl | rfl | rfl <;> exact ⟨by decide, fun c hc => by simp at hc ⊢; lia⟩
theorem spl_cnt : ∀ l, (spl l).length = l.count 10 + 1
  | [] => rfl
  | k :: t => by
    have ih := spl_cnt t
    obtain ⟨p, r, e⟩ := spl_ne t
    unfold spl
    by_cases h : k = 10
    · subst h; rw [if_pos rfl, List.count_cons_self, List.length_cons, ih]
    · rw [if_neg h, List.count_cons_of_ne h, ← ih, e]; rfl
theorem norm_le (c : Nat) (t : List Nat) (h : c = 13 ∨ c = 10) : (norm (c :: t)).count 10 ≤ (norm t).count 10 + 1 := by
  by_cases q : (c :: t).take 2 = [13, 10]
  · cases t with
    | nil => simp at q
    | cons d t =>
      simp only [List.take_succ_cons, List.take_zero, List.cons.injEq, and_true] at q
      obtain ⟨rfl, rfl⟩ := q
      rw [norm_crlf, norm_cons 10 t (by simp)]
      simp
  · rw [norm_cons c t q]
    rcases h with rfl | rfl <;> simp
theorem norm_lt (c : Nat) (t : List Nat) (h : c ≠ 13 ∧ c ≠ 10) : (norm (c :: t)).count 10 ≤ (norm t).count 10 + 1 := by
  rw [norm_cons c t (by intro q; have := congrArg List.head? q; simp at this; exact h.1 this), if_neg h.1, List.count_cons_of_ne h.2]
  exact Nat.le_succ _
theorem norm_sgn {y : Str} (h : y ∈ sgnL) (t : List Nat) : (norm (y.cps.toList ++ t)).count 10 ≤ (norm t).count 10 + 1 := by
  have e : sgnL = [⟨#[10]⟩, ⟨#[97]⟩, ⟨#[46]⟩, ⟨#[45]⟩, ⟨#[13, 10]⟩, ⟨#[13]⟩] := by decide +kernel
  rw [e] at h
  simp only [List.mem_cons, List.not_mem_nil, or_false] at h
  rcases h with rfl | rfl | rfl | rfl | rfl | rfl
  · exact norm_le 10 t (.inr rfl)
  · exact norm_lt 97 t (by decide)
  · exact norm_lt 46 t (by decide)
  · exact norm_lt 45 t (by decide)
  · show (norm (13 :: 10 :: t)).count 10 ≤ _
    rw [norm_crlf]; simp
  · exact norm_le 13 t (.inl rfl)
theorem jn_nil : ∀ ps, jn [] ps = ps.flatten
  | [] => rfl
  | [p] => by simp [jn]
  | p :: q :: r => by rw [jn, jn_nil (q :: r)]; simp
theorem cnt_text : ∀ xs : List Int, (norm ((xs.map sgn).map (·.cps.toList)).flatten).count 10 ≤ xs.length
  | [] => by decide
  | a :: xs => by
    rw [List.map_cons, List.map_cons, List.flatten_cons, List.length_cons]
    exact Nat.le_trans (norm_sgn (sgn_in a) ((xs.map sgn).map (·.cps.toList)).flatten) (Nat.succ_le_succ (cnt_text xs))
theorem text_ok {xs : List Int} (h : xs.length ≤ 25) : TextOk (Txt.join (Str.ofString "") (xs.map sgn)) := by
  have e0 : Str.ofString "" = ⟨#[]⟩ := by decide +kernel
  rw [show Txt.join (Str.ofString "") (xs.map sgn) = Str.join (Str.ofString "") (xs.map sgn) from StrLaws.glued_eq_join _ _, e0]
  constructor
  · show (Str.join _ _).cps.size ≤ 50
    rw [← Array.length_toList, jn_join]
    refine Nat.le_trans (jn_len _ _) ?_
    rw [List.map_map, List.map_map]
    have : ∀ l : List Int, (l.map ((fun p : List Nat => p.length + (⟨#[]⟩ : Str).cps.toList.length) ∘ (fun y : Str => y.cps.toList) ∘ sgn)).sum ≤ 2 * l.length := by
      intro l
      induction l with
      | nil => exact Nat.le_refl _
      | cons a l ih =>
        have := (sgnL_ok _ (sgn_in a)).1
        rw [List.map_cons, List.sum_cons, List.length_cons]
        show (sgn a).cps.toList.length + 0 + _ ≤ _
        rw [Array.length_toList]
        have : (sgn a).cps.size ≤ 2 := this
        exact lc (lR3 _ _ _) (.h z0 (lM 2 z1) (.h z2 (lN 2) (.g (lA (lA z2 (lN 0)) z0) (lM 2 (lS z1))))) lT ih this
    exact Nat.le_trans (this xs) (by exact lc (lR1 _) (.h z0 (lN 25) (.h z0 (lN 25) (.g (lM 2 z0) (lN 50)))) lT h h)
  · intro c hc
    rw [jn_join] at hc
    rcases jn_mem hc with a | ⟨p, hp, hcp⟩
    · cases a
    · obtain ⟨y, hy, rfl⟩ := List.mem_map.mp hp
      obtain ⟨z, -, rfl⟩ := List.mem_map.mp hy
      exact (sgnL_ok _ (sgn_in z)).2 c hcp
  · have h0 : (rowsOf (Str.join ⟨#[]⟩ (xs.map sgn))).length = (norm ((xs.map sgn).map (·.cps.toList)).flatten).count 10 + 1 := by
      rw [← jn_nil, ← show (⟨#[]⟩ : Str).cps.toList = [] from rfl, ← jn_join, ← spl_cnt, ← rows_spl, List.length_map]
    have := cnt_text xs
    exact lc (lR3 _ _ _) (.h z0 (lN 25) (.e z1 (lS z2) (.h z2 z0 (.g z1 (lN 26))))) lT h h0 this

end
-- MH
section
open PySem PySem.W PyProof.Rows PySem.Calls PySem.Spec PySem.Builtin.Str
set_option maxRecDepth 100000
set_option maxHeartbeats 4000000
noncomputable abbrev STX : Scope := { kind := .function, names := [(Str.ofString ".0", .local), (Str.ofString "x", .local)], isGenerator := false, isCoroutine := false }
section
variable {w : World} {A : Around} {E : Value → Shared → Prop} {s : Shared} {hg : Heap} {L cr cm cd fa : Addr} {Z : List Addr} {m : Str → Option Value} {vr vm vd : Option Value} {news : List (Addr × Obj)}
theorem stText {sc : Addr} {vs : List Value} {ns : List Int} {xs : List (Str × Pos)} {is : List (Int × Pos)} {q1 q2 p1 p2 p3 b1 b2 b3 b4 b5 c1 c2 c3 c4 c5 c6 c7 c8 : Pos} {Q : Flow → Shared → Prop} (hh : A.handled = none)
    (S : LSt hg L cr cm cd Z s.heap m vr vm vd news) (ms : m (Str.ofString "script") = some (.ref sc)) (hsc : hg.IsList sc vs.toArray) (hI : IntsAre vs ns) (hl : ns.length ≤ 63)
    (hx : xs.map (·.1) = sgnL) (hi : is.length = 16)
    (hs1 : ∀ env, starEach (xs.map fun p => .Constant (.str p.1) 0 p.2) env = xs.map fun p => (false, eval (.Constant (.str p.1) 0 p.2) env)) (hb1 : ∀ env, backTo b1 (xs.map fun p => (false, eval (.Constant (.str p.1) 0 p.2) env)) = xs.map fun p => (false, eval (.Constant (.str p.1) 0 p.2) env))
    (hs2 : ∀ env, starEach (is.map fun p => .Constant (.int p.1) 0 p.2) env = is.map fun p => (false, eval (.Constant (.int p.1) 0 p.2) env)) (hb2 : ∀ env, backTo c6 (is.map fun p => (false, eval (.Constant (.int p.1) 0 p.2) env)) = is.map fun p => (false, eval (.Constant (.int p.1) 0 p.2) env))
    (hlp : (p2.endLine == p3.line) = true)
    (hq : ∀ h' tk m' t', 0 < tk → LSt hg L cr cm cd Z h' m' vr vm vd news → m' (Str.ofString "text") = some (.str (Txt.join (Str.ofString "") ((ns.take 9 ++ is.map (·.1)).map sgn)) t') → (∀ y, y ≠ Str.ofString "text" → m' y = m y) → Q .next { s with heap := h', toks := tk }) :
    wpAny (model PG w) A (exec (.Assign [.Name (Str.ofString "text") q1] (.Call (.Attribute (.Constant (.str (Str.ofString "")) 0 p1) (Str.ofString "join") p2) [.ListComp (.Subscript (.List (xs.map fun p => .Constant (.str p.1) 0 p.2) b1) (.BinOp (.Name (Str.ofString "x") b2) .Mod (.Constant (.int 6) 0 b3) b4) b5)
      [⟨.Name (Str.ofString "x") c1, .BinOp (.Subscript (.Name (Str.ofString "script") c2) (.Slice none (some (.Constant (.int 9) 0 c3)) none c4) c5) .Add (.List (is.map fun p => .Constant (.int p.1) 0 p.2) c6) c7, [], 0⟩] STX c8] [] p3) q2) (LWE L cr cm cd fa)) Q E s := by
  obtain ⟨h, g, d, t, os⟩ := s
  dsimp only at *
  refine eAsg (joinC hlp (by rfl) (by decide) ?_)
  refine comp_list hh (closureFor_none (by decide)) (by decide) rfl (by decide) rfl ?_
  refine eBin (slc_l (wpAny_Name (wpAny_loadName_local (by rfl) (by rfl) S.F.ns ms ?_)))
  rw [evalPart_none, evalPart_some]
  refine wpAny_pure (wpAny_Constant_int ?_)
  have hvl := hI.length
  obtain ⟨osc, eo, hoc, noc, hod⟩ := id hsc
  refine ⟨sc, vs.toArray, none, some 9, rfl, ⟨osc, S.F.keep _ _ eo, hoc, noc, hod⟩, by rw [sizeLine_eq, List.size_toArray]; exact ar2 (ar11 ‹_› ‹_›) (by decide), .none, .int _ _, fun S1 h1 k1 n1 e1 => ?_⟩
  rw [show (9 : Int) = ((9 : Nat) : Int) from rfl, slicePick_upto'] at e1
  dsimp only at k1 n1 ⊢
  refine wpAny_List_spliced ?_
  rw [hs2, hb2]
  refine spI fun us tk hU => ?_
  have hul := hU.length
  rw [List.length_map] at hul
  refine ⟨by rw [sizeLine_eq]; exact lc (lR2 _ _) (.e z0 (lN 16) (.e z1 z0 (.g z1 (lN 16777216)))) lT hi hul, ?_⟩
  obtain ⟨k2, n2, e2⟩ := newH (h := h1) (o := { cls := .type "list", data := .seq us.toArray }) rfl
  dsimp only
  have hTk := hI.take 9
  have hA := hTk.append hU
  have hal : (vs.take 9 ++ us).length ≤ 25 := by rw [List.length_append, List.length_take]; exact lc (lR3 _ _ _) (.e z0 (lN 16) (.e z1 z0 (.h z2 (lN 9) (.g (lA z2 z1) (lN 25))))) lT hi hul (Nat.min_le_left _ _)
  refine add_l (vs := vs.take 9) ⟨_, k2 _ _ e1, rfl, _, rfl⟩ ⟨_, e2, rfl, _, rfl⟩ (by rw [← List.length_append, sizeLine_eq]; exact ar2 ‹_› (by decide)) fun S2 h2 k3 n3 e3 => ?_
  dsimp only at k3 n3 ⊢
  generalize hys : ns.take 9 ++ is.map (·.1) = zs at hA hq
  refine ⟨S2, vs.take 9 ++ us, fun i ys nw => nw = [] ∧ StrsAre ys ((zs.map sgn).take i), rfl, ⟨_, e3, rfl, _, rfl⟩, by rw [sizeLine_eq]; exact ar2 ‹_› (by decide), ⟨rfl, .nil⟩, ?_, ?_⟩
  · rintro C i v ys own nw h₃ tk₃ m₃ E' htk hv ⟨rfl, hJ⟩ F₃ hm N₃
    obtain ⟨x, tx, rfl, hx'⟩ := IntsAre.at hA i v hv
    have hb : (zs.map sgn).take (i + 1) = (zs.map sgn).take i ++ [sgn x] := take_snoc (by simp [hx'])
    dsimp only at htk F₃ N₃
    rw [List.forIn_nil]
    refine wpAny_pure ?_
    rw [if_pos rfl]
    refine evSign (x := x) (t := tx) hx (hs1 _) (hb1 _) (fun s' Q' k hq' => ?_) fun h₄ tk₄ t₄ k₄ => ?_
    · exact nmC (h₀ := h2) ⟨F₃.ns.at' fun o e => k _ o e, fun b o e => k _ _ (F₃.keep b o e), F₃.above⟩ hm hq' rfl (by rfl) (by decide)
    · refine EltEnd.plain (Fr_up F₃ k₄) (News_keep N₃ k₄) ⟨rfl, ?_⟩
      rw [hb]
      exact Mine.StrsAre.snoc hJ _ _
  · rintro D h' tk' ys nw k' ⟨rfl, hJ⟩ hD hget _ hk _
    rw [hA.length, List.take_of_length_le (by simp)] at hJ
    have S1 := S.keep fun b o e => hk _ _ (k3 _ _ (k2 _ _ (k1 _ _ e)))
    refine ⟨D, ys, _, k', rfl, hget, hJ, fun y hy => ?_, by rw [List.length_map, ← hA.length]; exact ar2 ‹_› (by decide), fun t' tk2 hp2 => ?_⟩
    · obtain ⟨z, -, rfl⟩ := List.mem_map.mp hy
      have e : ∀ y ∈ sgnL, y.length ≤ 1000 := by decide +kernel
      refine e _ ?_
      unfold sgn
      obtain ⟨a, b⟩ := fmod6 z
      have : (z.fmod 6).toNat < sgnL.length := fm6 z
      rw [List.getD_eq_getElem?_getD, List.getElem?_eq_getElem this]
      exact List.getElem_mem _
    · refine wpAny_storeName_local (by rfl) S1.F.ns (fun h4 ns' sb => ?_) (by rfl)
      exact hq h4 _ _ _ (Nat.succ_pos _) (S1.set ns' sb.2) (if_pos rfl) fun y hy => if_neg hy
end

end
-- MI
section
open PySem PySem.W PyProof.Rows PySem.Calls PySem.Spec PySem.Builtin.Str
set_option maxRecDepth 100000
set_option maxHeartbeats 4000000
noncomputable abbrev lawB : List Stmt := match PG.main.body.getLast? with
  | some (.FunctionDef _ _ b _ _ _ _ _ _ _) => b
  | _ => []
section
variable {w : World} {A : Around} {E : Value → Shared → Prop} {s : Shared} {hg : Heap} {L cr cm cd fa : Addr} {Z : List Addr} {m : Str → Option Value} {vr vm vd : Option Value} {news : List (Addr × Obj)} {p : Program} {loose : List Str} {mean : ExcName → Option Value} {mg mb : Str → Option Value}
theorem law_body {sc : Addr} {vs : List Value} {ns : List Int} {Q : Flow → Shared → Prop} (X : (KF w).In hg) (Tp : Top p loose mean mg mb hg) (hh : A.handled = none) (hd : A.depth ≤ 350) (hu : A.units ≤ 80) (hfr : A.frames = some [LWE L cr cm cd fa])
    (S : LSt hg L cr cm cd Z s.heap m none none none []) (ms : m (Str.ofString "script") = some (.ref sc)) (hsc : hg.IsList sc vs.toArray) (hI : IntsAre vs ns) (hl : ns.length ≤ 63)
    (hq : ∀ h' tk Z' m' vr' vm' vd' news', LSt hg L cr cm cd Z' h' m' vr' vm' vd' news' → Q (.ret (.bool true)) { s with heap := h', toks := tk }) :
    wpAny (model PG w) A (execs lawB (LWE L cr cm cd fa)) Q E s := by
  have G := LG.of X
  refine eCons (stText (xs := [(_, _), (_, _), (_, _), (_, _), (_, _), (_, _)]) (is := [(_, _), (_, _), (_, _), (_, _), (_, _), (_, _), (_, _), (_, _), (_, _), (_, _), (_, _), (_, _), (_, _), (_, _), (_, _), (_, _)]) hh S ms hsc hI hl (by rfl) (by rfl) (by intro _; rfl) (by intro _; rfl) (by intro _; rfl) (by intro _; rfl) (by rfl) fun h1 tk1 m1 t1 hp1 S1 e1 o1 => ?_)
  have ok := text_ok (xs := ns.take 9 ++ [2, 0, 2, 2, 5, 3, 4, 2, 1, 0, 0, 1, 5, 2, 2, 0]) (by rw [List.length_append, List.length_take]; simp; exact Nat.min_le_left _ _)
  generalize hx : Txt.join (Str.ofString "") ((ns.take 9 ++ [2, 0, 2, 2, 5, 3, 4, 2, 1, 0, 0, 1, 5, 2, 2, 0]).map sgn) = x at ok
  replace e1 := e1.trans (congrArg (fun y => some (Value.str y t1)) hx)
  have lx : x.length ≤ 300 := by have := ok.l; exact ar2 ‹_› (by decide)
  have lr := ok.rows
  refine eCons (wpAny_with_toks (n := 1) hp1 (stRows X Tp G hd hp1 S1 e1 lx fun h2 tk2 D2 vs2 k2 S2 hS2 hp2 => ?_))
  refine eCons (wpAny_with_toks (n := 1) hp2 (stOrder X Tp G hh hd S2 (.head _) hS2 (by exact ar1 ‹_› (by decide)) fun h3 tk3 D3 ws3 k3 m3 S3 hI3 mo o3 hp3 => ?_))
  refine eCons (wpAny_with_toks (n := 1) hp3 (forMany G hh (fun m' => m' (Str.ofString "text") = some (.str x t1) ∧ m' (Str.ofString "order") = some (.ref D3)) hp3 S3 ⟨(o3 _ (by decide)).trans e1, mo⟩ ?_ fun h4 tk4 Z4 m4 vm4 vd4 hp4 S4 hp4' => ?_))
  · rintro n s' tn m' Z' vd' I oI Q' E' hn1 hn3 ⟨jt, jo⟩ S5 hp5 hq'
    have okd := ok.ok2 n
    refine eCons (wpAny_with_toks (n := 1) hp5 (stSent X Tp G hh hd S5 jt hn3 (fun i hi => ok.rep i (by exact lc (lR2 _ _) (.h z0 (lN 3) (.h (lS z1) z0 (.g z1 (lN 3)))) lT hn3 hi)) fun h6 tk6 m6 t6 S6 e6 o6 hp6 => ?_))
    refine eCons (wpAny_with_toks (n := 1) hp6 (stDue hh hn3 S6 (.tail _ (.tail _ (.head _))) hS2 (by exact ar1 ‹_› (by decide)) (fun r hr => by have := row_len hr; exact ar37 ‹_› ‹_›) fun h7 tk7 D7 ws7 k7 S7 hS7 hp7 => ?_))
    refine eCons (wpAny_with_toks (n := 1) hp7 (stCheck1 X Tp G hh hd (by exact ar2 ‹_› (by decide)) hp7 hn1 hn3 S7 (.tail _ (.tail _ (.tail _ (.head _)))) (.head _) hS2 hS7 e6 (ok.rep n hn3) (by exact ar1 ‹_› (by decide)) ok.ok1 (by rfl) fun h8 tk8 S8 hp8 => ?_))
    refine eCons (wpAny_with_toks (n := 1) hp8 (stCheck2 X Tp G hh hd (by exact ar2 ‹_› (by decide)) hp8 S8 (.tail _ (.tail _ (.tail _ (.head _)))) (.tail _ (.tail _ (.head _))) hS2 hI3 ((o6 _ (by decide)).trans jo) e6 (ok.rep n hn3) (by exact ar1 ‹_› (by decide)) fun h9 tk9 Z9 S9 hp9 => ?_))
    refine eCons (wpAny_with_toks (n := 1) hp9 (stFirsts G hh (by exact ar2 ‹_› (by decide)) S9 (.tail _ (.tail _ (.tail _ (.head _)))) (.head _) hS2 hS7 (by exact ar1 ‹_› (by decide)) (by rw [List.length_map]; exact ar1 ‹_› (by decide)) ok.ok1 okd (by rfl) fun h10 tk10 D10 us k10 m10 S10 hU e10 o10 hp10 => ?_))
    have lf : (fsts (rowsOf x ++ (rowsOf x).map (dueN n))).length < 64 := by
      have a := fsts_len (rowsOf x ++ (rowsOf x).map (dueN n))
      rw [List.length_append, List.length_map] at a
      have := ok.r
      exact lc (lR2 _ _) (.h z0 (lA z1 z1) (.h z1 (lN 26) (.h z1 (lN 26) (.g (lS z0) (lN 64))))) lT a this this
    have okf : Okk (fsts (rowsOf x ++ (rowsOf x).map (dueN n))) := fun y hy => (List.mem_append.mp ((mem_fsts y _).mp hy)).elim (ok.ok1 y) (okd y)
    refine eCons (wpAny_with_toks (n := 1) hp10 (stCounts hh S10 (.tail _ (.tail _ (.tail _ (.tail _ (.head _))))) (.tail _ (.head _)) (.head _) hS2 hS7 hU (by exact ar1 ‹_› (by decide)) e10 (by rfl) (by rfl) (by rfl) (by rfl) (by rfl) fun h11 tk11 D11 ys11 k11 m11 ms11 S11 hC e11 o11 hp11 => ?_))
    refine eCons (wpAny_with_toks (n := 1) hp11 (stCheck3 X Tp G hh hd (by assumption) hp11 S11 (.tail _ (List.mem_append_right _ (.tail _ (.tail _ (.tail _ (.tail _ (.head _))))))) (.head _) (fun q hq => .tail _ (List.mem_append_left _ hq)) hS2 hC ok.ok1 okd e11 ((o11 _ (by decide)).trans ((o10 _ (by decide)).trans e6)) (ok.rep n hn3) (by exact ar1 ‹_› (by decide)) fun h12 tk12 S12 hp12 => ?_))
    have S12' := S12.sub (news' := (D10, seqObj "list" us.toArray k10) :: (D7, seqObj "list" ws7.toArray k7) :: (I, oI) :: (D3, seqObj "list" ws3.toArray k3) :: (D2, seqObj "list" vs2.toArray k2) :: []) fun q hq => .tail _ (List.mem_append_right _ hq)
    refine eCons (wpAny_with_toks (n := 1) hp12 (stOnly G hh hu S12' (.tail _ (.tail _ (.tail _ (.tail _ (.head _))))) (.tail _ (.head _)) (.head _) hS2 hS7 hU lf okf ok.ok1 okd ((o11 _ (by decide)).trans e10) fun h13 tk13 T13 Da Db ya yb na nb Fa Fb m13 S13 pa sa pb sb hya hyb e13 o13 hp13 => ?_))
    have esn : m13 (Str.ofString "sent") = some (.str (Nat.repeat quote n x) t6) := (o13 _ (by decide)).trans ((o11 _ (by decide)).trans ((o10 _ (by decide)).trans e6))
    refine eCons (wpAny_with_toks (n := 1) hp13 (stCheck4 X Tp G hh hd hu hfr hp13 S13 (.tail _ (.tail _ (.tail _ (.tail _ (.tail _ (.tail _ (.tail _ (.head _)))))))) (.head _) (.tail _ (.tail _ (.head _))) (.tail _ (.head _)) hS2 pa sa pb sb hya hyb ok.ok1 okd (fun y hy => lt_of (row_sgn ok.s hy)) (fun y hy => lt_of (ok.sgn2 n y hy)) e13 esn (ok.rep n hn3) lr fun h14 tk14 S14 hp14 => ?_))
    refine eCons (wpAny_with_toks (n := 1) hp14 (stCheck5 X Tp G hh hd hu hfr hp14 S14 (.tail _ (.tail _ (.tail _ (.tail _ (.tail _ (.tail _ (.tail _ (.head _)))))))) (.tail _ (.tail _ (.tail _ (.tail _ (.head _))))) hS2 hS7 (less_ok ok.ok1) (less_ok' okd) esn (ok.rep n hn3) lr fun h15 tk15 S15 hp15 => ?_))
    refine wpAny_execs_nil (hq' h15 tk15 _ m13 _ ⟨?_, ?_⟩ (S15.sub fun q hq => ?_))
    · exact (o13 _ (by decide)).trans ((o11 _ (by decide)).trans ((o10 _ (by decide)).trans ((o6 _ (by decide)).trans jt)))
    · exact (o13 _ (by decide)).trans ((o11 _ (by decide)).trans ((o10 _ (by decide)).trans ((o6 _ (by decide)).trans jo)))
    · exact .tail _ (.tail _ (.tail _ (.tail _ (.tail _ hq))))
  · exact eCons (eRet (wpAny_Constant_bool (hq h4 _ Z4 m4 _ vm4 vd4 _ S4)))
end

end
-- MJ
section
open PySem PySem.W PyProof.Rows PySem.Calls PySem.Spec PySem.Builtin.Str
set_option maxRecDepth 100000
set_option maxHeartbeats 8000000
theorem ct_of {hg h : Heap} {L c P : Addr} {m : Str → Option Value} {news : List (Addr × Obj)} (x : CodeHd hg c P) (F : Fr hg L h m) (N : News hg L h news) (hm : (P, tabObj #[]) ∈ news) : CT h c P #[] :=
  ⟨(x.keeps F.keep).code (N _ hm).1 trivial, (x.keeps F.keep).tab (N _ hm).1⟩
theorem LSt.start {hg h : Heap} {L : Addr} {m : Str → Option Value} {vr vm vd : Option Value} {o1 o2 o3 : Obj} (F : Fr hg L h m) (N : News hg L h [(L + 1 + 1 + 1, o3), (L + 1 + 1, o2), (L + 1, o1), (57, tabObj #[]), (230, tabObj #[]), (247, tabObj #[])]) (c1 : CodeHd hg 61 57) (c2 : CodeHd hg 234 230) (c3 : CodeHd hg 249 247)
    (d3 : o3.data = .cell vd) (d2 : o2.data = .cell vm) (d1 : o1.data = .cell vr) : LSt hg L (L + 1) (L + 1 + 1) (L + 1 + 1 + 1) [57] h m vr vm vd [] := by
  have n1 := N _ (.tail _ (.tail _ (.head _)))
  have n2 := N _ (.tail _ (.head _))
  have n3 := N _ (.head _)
  have t1 := N _ (.tail _ (.tail _ (.tail _ (.head _))))
  have t2 := N _ (.tail _ (.tail _ (.tail _ (.tail _ (.head _)))))
  have t3 := N _ (.tail _ (.tail _ (.tail _ (.tail _ (.tail _ (.head _))))))
  exact ⟨F, ⟨_, n1.1, d1⟩, ⟨_, n2.1, d2⟩, ⟨_, n3.1, d3⟩, ⟨Nat.ne_of_lt (Nat.lt_succ_self _), Nat.ne_of_lt (Nat.lt_succ_of_lt (Nat.lt_succ_self _)), Nat.ne_of_lt (Nat.lt_succ_self _)⟩, ⟨n1.2.2, n2.2.2, n3.2.2⟩,
    ⟨⟨_, ct_of c1 F N (.tail _ (.tail _ (.tail _ (.head _)))), .inl ⟨rfl, rfl⟩⟩, ⟨_, ct_of c2 F N (.tail _ (.tail _ (.tail _ (.tail _ (.head _))))), .inl rfl⟩, by decide, fun b hb => by rw [List.mem_singleton.mp hb]; exact t1.2.2, t2.2.2⟩,
    ⟨_, ct_of c3 F N (.tail _ (.tail _ (.tail _ (.tail _ (.tail _ (.head _)))))), .inl rfl, .inl rfl⟩, ⟨t3.2.2, by decide, Heap.get?_none_of_le F.above⟩, fun _ h => (nomatch h), fun _ h => (nomatch h)⟩
theorem LSt.grown {hg h : Heap} {L cr cm cd : Addr} {Z : List Addr} {m : Str → Option Value} {vr vm vd : Option Value} {news : List (Addr × Obj)} (S : LSt hg L cr cm cd Z h m vr vm vd news) : GrownAll [(61, 57), (234, 230), (249, 247)] h := by
  obtain ⟨⟨p1, c1, -⟩, ⟨p2, c2, -⟩, -⟩ := S.T
  obtain ⟨p3, c3, -⟩ := S.U
  exact ⟨⟨_, c1.table⟩, ⟨_, c2.table⟩, ⟨_, c3.table⟩, trivial⟩
theorem T : PySem.Challenge.rw_in0041_01.Holds := Mine.hd (by
  k_fill
  intro w s₀ s₁ mg mb G Y fa o pm cd doc dV kV ho hd hcd hD hmg hg args vals as hpre hlay hrd hwl hlo
  have KX := km_in_of Y
  km_tabs Y
  have X := (Ground.X G).1
  have V := (Ground.X G).2
  refine Ground.open G ?_
  intro T B D TE TW
  try (refine guard_noD D (by decide +kernel) ?_; clear D)
  have hT9 : TabsAt ([(61, 57), (234, 230), (249, 247)] : List (Addr × Addr)) _ := List.forall_mem_cons.mpr ⟨⟨codeHd_of_K (c := 61) (P := 57) KX (by kernel_rfl), hT8 57 (by k_mem)⟩, List.forall_mem_cons.mpr ⟨⟨codeHd_of_K (c := 234) (P := 230) KX (by kernel_rfl), hT8 230 (by k_mem)⟩, List.forall_mem_cons.mpr ⟨⟨codeHd_of_K (c := 249) (P := 247) KX (by kernel_rfl), hT8 247 (by k_mem)⟩, fun _ h => nomatch h⟩⟩⟩
  have he9 : cd = PySem.Value.ref 249 := law_code (x := PySem.Str.ofString "law") (c := 249) (P := 247) KX (Top.g T) (by kernel_rfl) hmg ho hd
  subst he9
  clear hmg
  wrow_args hpre hlay hrd hwl hlo
  first | refine callC_kw (enter_call ?_) | refine enter_call ?_
  w_top on
  kn_posts
  w_call any ho hd hcd hD T F
  clear hd
  kn_ghosts F T
  k_drop
  rename_i hI hr hlen hT1 h₁ tk₁ o3 o2 o1 d3 d2 d1 X0 X' T' K' F' c1 c2 N' l0
  refine law_body (w := w) (fa := fa) X' T' (by rfl) (show callerA.depth + 1 ≤ 350 from by decide +kernel) (show callerA.units + 3 ≤ 80 from by decide +kernel) (by rfl) (LSt.start F' N' c1 c2 codeHd d3 d2 d1) (by rfl) lifted hI (by lia) fun h' tk Z' m' vr' vm' vd' news' S' => ?_
  exact ⟨goodW_bool S'.F hg (fun _ => rfl) (by first | rfl | wrow_post), S'.grown⟩)

end
end Mine
theorem PySem.Challenge.cw_in0041_01_holds : PySem.Challenge.rw_in0041_01.Holds := by
  exact Mine.T
