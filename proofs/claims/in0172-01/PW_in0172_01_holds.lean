import PyProof.Rows.All
import Wide.All
import OpenK.AllK
import Wide.FinOn
import Lean
import PySem.Challenge.RW_in0172_01
open PySem PySem.W PySem.Calls PyProof.Rows
set_option Elab.async false
set_option maxRecDepth 100000
set_option maxHeartbeats 4000000
set_option pp.maxSteps 300
open PyData (keyHash)
namespace Mine
variable {prog : Program} {w : World}
section
noncomputable def S (l : List Nat) : Str := ⟨l.toArray⟩
theorem S_inj {a b : List Nat} (e : S a = S b) : a = b := by
 have := congrArg (fun x => x.cps.toList) e
 simpa [S] using this
noncomputable def vCodes : List (List Nat) := [[117, 110, 113, 117, 111, 116, 101], [115], [99, 104, 114], [105, 110, 116], [113, 117, 111, 116, 101], [99], [95, 81, 85, 79, 80, 82, 73, 95, 77, 65, 80], [111, 114, 100], [98, 111, 100, 121, 95, 101, 110, 99, 111, 100, 101], [98, 111, 100, 121], [109, 97, 120, 108, 105, 110, 101, 108, 101, 110], [101, 111, 108], [78, 76], [115, 111, 102, 116, 95, 98, 114, 101, 97, 107], [109, 97, 120, 108, 105, 110, 101, 108, 101, 110, 49], [101, 110, 99, 111, 100, 101, 100, 95, 98, 111, 100, 121], [97, 112, 112, 101, 110, 100], [108, 105, 110, 101], [95, 81, 85, 79, 80, 82, 73, 95, 66, 79, 68, 89, 95, 69, 78, 67, 79, 68, 69, 95, 77, 65, 80], [115, 116, 97, 114, 116], [108, 97, 115, 116, 115, 116, 97, 114, 116], [67, 82, 76, 70], [86, 97, 108, 117, 101, 69, 114, 114, 111, 114], [115, 116, 111, 112], [114, 111, 111, 109], [113], [108, 101, 110], [100, 101, 99, 111, 100, 101], [101, 110, 99, 111, 100, 101, 100], [100, 101, 99, 111, 100, 101, 100], [105], [110], [104, 101, 120, 100, 105, 103, 105, 116, 115], [116, 114, 97, 110, 115, 108, 97, 116, 101], [112, 97, 116], [83, 84, 65, 82], [112, 97, 114, 116, 115], [111, 98, 106, 101, 99, 116], [95, 116, 114, 97, 110, 115, 108, 97, 116, 101], [95, 106, 111, 105, 110, 95, 116, 114, 97, 110, 115, 108, 97, 116, 101, 100, 95, 112, 97, 114, 116, 115], [101, 115, 99, 97, 112, 101], [112, 97, 116, 116, 101, 114, 110], [105, 115, 105, 110, 115, 116, 97, 110, 99, 101], [115, 116, 114], [95, 115, 112, 101, 99, 105, 97, 108, 95, 99, 104, 97, 114, 115, 95, 109, 97, 112], [81, 85, 69, 83, 84, 73, 79, 78, 95, 77, 65, 82, 75], [114, 101, 115], [97, 100, 100], [106], [115, 116, 117, 102, 102], [99, 104, 117, 110, 107, 115], [107], [99, 104, 117, 110, 107], [114, 97, 110, 103, 101], [95, 116, 119, 105, 110, 95, 114, 101, 95, 49], [95, 109], [105, 110, 112], [102, 105, 120, 101, 100], [83, 95, 73, 70, 77, 84], [109, 111, 100, 101], [102, 105, 108, 101, 109, 111, 100, 101], [112, 101, 114, 109], [105, 110, 100, 101, 120], [116, 97, 98, 108, 101], [101, 110, 117, 109, 101, 114, 97, 116, 101], [95, 102, 105, 108, 101, 109, 111, 100, 101, 95, 116, 97, 98, 108, 101], [98, 105, 116], [99, 104, 97, 114], [95, 108, 97, 119, 95, 108, 105, 115, 116, 101, 100], [116, 111, 108, 100], [101, 110, 100, 115], [102, 105, 103, 117, 114, 101], [97, 98, 111, 118, 101], [95, 108, 97, 119, 95, 115, 101, 116], [105, 110, 115, 105, 100, 101], [98, 97, 114, 114, 101, 100], [114, 101, 115, 116], [115, 105, 103, 110, 115], [97, 116], [108, 111, 119], [104, 105, 103, 104], [99, 111, 100, 101], [95, 108, 97, 119, 95, 114, 101, 97, 100], [107, 105, 110, 100, 115], [115, 105, 103, 110], [97, 116, 111, 109, 115], [112, 97, 114, 116], [116, 111], [95, 108, 97, 119, 95, 102, 105, 116, 115], [110, 97, 109, 101], [95, 108, 97, 119, 95, 116, 97, 107, 101, 115], [107, 105, 110, 100], [95, 108, 97, 119, 95, 109, 101, 97, 110, 116], [105, 116, 101, 109, 115], [112, 108, 97, 99, 101, 115], [105, 116, 101, 109], [108, 105, 115, 116], [112], [95, 108, 97, 119, 95, 119, 114, 105, 116, 116, 101, 110], [102, 105, 103, 117, 114, 101, 115], [95, 108, 97, 119, 95, 108, 105, 110, 101, 115], [114, 111, 119], [108, 97, 115, 116], [108, 105, 110, 101, 115], [108, 101, 102, 116], [95, 108, 97, 119, 95, 116, 97, 105, 108], [120], [112, 111, 111, 108], [95, 108, 97, 119, 95, 112, 97, 116, 116, 101, 114, 110], [114, 111, 119, 115], [99, 111, 108, 117, 109, 110, 115], [113, 117, 111, 116, 101, 100], [119, 105, 115, 104, 101, 100], [108, 105, 115, 116, 101, 100], [100, 114, 101, 115, 115], [97, 110, 121, 95, 115, 105, 103, 110], [95, 108, 97, 119, 95, 103, 114, 111, 117, 112, 115], [103, 114, 111, 117, 112, 115], [115, 111, 102, 116], [103, 111, 105, 110, 103], [95, 108, 97, 119, 95, 114, 117, 110], [97, 115, 107, 101, 100], [101, 110, 100], [109, 97, 114, 107], [115, 101, 110, 116], [112, 105, 99, 107, 101, 100], [100, 117, 101], [119, 114, 105, 116, 105, 110, 103], [109, 101, 97, 110, 116], [108, 97, 119], [115, 99, 114, 105, 112, 116], [110, 117, 109, 98, 101, 114, 115], [100, 114, 97, 119, 110], [109, 111, 100, 101, 115], [108, 105, 115, 116, 105, 110, 103, 115], [46, 48]]
noncomputable def V (i : Nat) : Str := S (vCodes.getD i [2097152 + i])
theorem no_some {α : Type} {a : α} {P : Prop} (h : (none : Option α) = some a) : P := nomatch h
theorem no_tf {P : Prop} (h : false = true) : P := nomatch h
theorem no_ft {P : Prop} (h : true = false) : P := nomatch h
end
section
theorem hide {G : Prop} (k : ∀ P : Prop, (G → P) → P) : G := k G id
theorem ex8 {α β γ δ ε ζ η θ : Type} {P : α → β → γ → δ → ε → ζ → η → θ → Prop} (a : α) (b : β) (c : γ) (d : δ) (e : ε) (f : ζ) (g : η) (h : θ) (k : P a b c d e f g h) : ∃ a b c d e f g h, P a b c d e f g h := ⟨a, b, c, d, e, f, g, h, k⟩
theorem o_le {a b c : Nat} (h : a ≤ b) (k : b ≤ c) : a ≤ c := Nat.le_trans h k
theorem o_lelt {a b c : Nat} (h : a ≤ b) (k : b < c) : a < c := Nat.lt_of_le_of_lt h k
theorem o_dep {a k l n : Nat} (h : a + k ≤ n) (h2 : l ≤ k) : a + l ≤ n := Nat.le_trans (Nat.add_le_add_left h2 a) h
theorem o_cl {a b : Nat} (h : (a : Int) < (b : Int)) : a < b := Int.ofNat_lt.mp h
theorem o_ce {a b : Nat} (h : (a : Int) ≤ (b : Int)) : a ≤ b := Int.ofNat_le.mp h
theorem o_cn {a b : Nat} (h : ¬ (a : Int) < (b : Int)) : b ≤ a := Nat.le_of_not_lt fun g => h (Int.ofNat_lt.mpr g)
theorem o_lc {a b : Nat} (h : a < b) : (a : Int) < (b : Int) := Int.ofNat_lt.mpr h
theorem o_ec {a b : Nat} (h : a ≤ b) : (a : Int) ≤ (b : Int) := Int.ofNat_le.mpr h
theorem o_z (a : Nat) : (0 : Int) ≤ a := Int.natCast_nonneg a
theorem o_not {a b : Nat} (h : ¬ a < b) : b ≤ a := Nat.le_of_not_lt h
theorem o_not2 {a b : Nat} (h : ¬ a ≤ b) : b < a := Nat.lt_of_not_le h
end
section
/-! ## abstract values -/
inductive D where
 | none
 | bool (b : Bool)
 | int (i : Int)
 | str (s : List Nat)
 | tup (l : List D)
 | lst (l : List D)
 | mut (i : Nat)
 | val (v : Value)
 | rng (a b c : Int)
 | meth (i : Nat)
 | any
theorem S_cps (x : Str) : x = S x.cps.toList := by cases x; rfl
theorem ob_no {o : Obj} {a b : Data} (hd : o.data = a) (n : Nat.beq a.ctorIdx b.ctorIdx = false) : ¬ (o.data = b) := fun q => by
 rw [← hd, q, Nat.beq_refl] at n; cases n
noncomputable def appendOf (a : Addr) : Obj := { cls := .type "builtin_function_or_method", data := .fields #[.builtin "list.append", .ref a] }
mutual
noncomputable def Rp (h : Heap) (X : Addr → Prop) (as : List Addr) : D → Value → Prop
 | .none, v => v = .none
 | .bool b, v => v = .bool b
 | .int i, v => ∃ t, v = .int i t
 | .str s, v => (∃ t, v = .str (S s) t) ∧ s.length ≤ 1048576
 | .tup l, v => ∃ a vs, v = .ref a ∧ IsTup h a vs ∧ l.length ≤ 1048576 ∧ RpL h X as l vs.toList
 | .lst l, v => ∃ a vs, v = .ref a ∧ ¬ X a ∧ a ∉ as ∧ h.PlainList a vs ∧ l.length ≤ 1048576 ∧ RpL h X as l vs.toList
 | .mut i, v => ∃ a, as[i]? = some a ∧ v = .ref a
 | .val u, v => v = u
 | .rng a b c, v => ∃ r t t' t'', v = .ref r ∧ IsRange h r a b c t t' t''
 | .meth i, v => ∃ q a, v = .ref q ∧ as[i]? = some a ∧ h.get? q = some (appendOf a)
 | .any, _ => True
noncomputable def RpL (h : Heap) (X : Addr → Prop) (as : List Addr) : List D → List Value → Prop
 | [], [] => True
 | d :: ds, v :: vs => Rp h X as d v ∧ RpL h X as ds vs
 | [], _ :: _ => False
 | _ :: _, [] => False
end
theorem RpL.length {h X as} : ∀ {ds : List D} {vs : List Value}, RpL h X as ds vs → vs.length = ds.length := by
 intro ds
 induction ds with
 | nil => intro vs r; cases vs with
  | nil => rfl
  | cons => exact False.elim r
 | cons d ds ih => intro vs r; cases vs with
  | nil => exact False.elim r
  | cons => exact congrArg (· + 1) (ih r.2)
theorem RpL.get {h X as} : ∀ {ds : List D} {vs : List Value}, RpL h X as ds vs → ∀ {i : Nat} {d : D}, ds[i]? = some d → ∃ v, vs[i]? = some v ∧ Rp h X as d v := by
 intro ds
 induction ds with
 | nil => intro vs _ i d e; rw [List.getElem?_nil] at e; cases e
 | cons d ds ih => intro vs r i d e; cases vs with
  | nil => exact False.elim r
  | cons v vs => cases i with
   | zero => cases e; exact ⟨v, rfl, r.1⟩
   | succ i => exact ih r.2 e
theorem RpL.append {h X as} : ∀ {ds es : List D} {vs us : List Value}, RpL h X as ds vs → RpL h X as es us → RpL h X as (ds ++ es) (vs ++ us) := by
 intro ds es vs us r k
 induction ds generalizing vs with
 | nil => cases vs with
  | nil => exact k
  | cons => exact False.elim r
 | cons d ds ih => cases vs with
  | nil => exact False.elim r
  | cons => exact ⟨r.1, ih r.2⟩
theorem RpL.drop {h X as} : ∀ {ds : List D} {vs : List Value}, RpL h X as ds vs → ∀ n, RpL h X as (ds.drop n) (vs.drop n) := by
 intro ds vs r n
 induction n generalizing ds vs with
 | zero => exact r
 | succ n ih => cases ds with
  | nil => cases vs with
   | nil => exact r
   | cons => exact False.elim r
  | cons => cases vs with
   | nil => exact False.elim r
   | cons => exact ih r.2
theorem RpL.take {h X as} : ∀ {ds : List D} {vs : List Value}, RpL h X as ds vs → ∀ n, RpL h X as (ds.take n) (vs.take n) := by
 intro ds vs r n
 induction n generalizing ds vs with
 | zero => exact trivial
 | succ n ih => cases ds with
  | nil => cases vs with
   | nil => exact r
   | cons => exact False.elim r
  | cons => cases vs with
   | nil => exact False.elim r
   | cons => exact ⟨r.1, ih r.2⟩
noncomputable def fixO (o : Obj) : Prop := (∃ vs, o.data = .fields vs) ∧ (o.cls = .type "range" ∨ o.cls = .type "builtin_function_or_method")
structure Lean1 (h : Heap) (X : Addr → Prop) (as : List Addr) (h' : Heap) (X' : Addr → Prop) (as' : List Addr) : Prop where
 seq : ∀ a o xs n, h.get? a = some o → o.data = .seq xs n → (o.cls = .type "tuple" ∨ (¬ X a ∧ a ∉ as)) → h'.get? a = some o
 out : ∀ a xs, h.IsList a xs → ¬ X a → a ∉ as → ¬ X' a ∧ a ∉ as'
 idx : ∀ (i : Nat) (a : Addr), as[i]? = some a → as'[i]? = some a
 fix : ∀ a o, h.get? a = some o → fixO o → h'.get? a = some o
theorem lift_tup {h X as h' X' as'} (seq : ∀ a o xs n, h.get? a = some o → o.data = .seq xs n → (o.cls = .type "tuple" ∨ (¬ X a ∧ a ∉ as)) → h'.get? a = some o) {l l' : List D} {v : Value} (hl : l'.length ≤ l.length) (g : ∀ vs, RpL h X as l vs → RpL h' X' as' l' vs) : Rp h X as (.tup l) v → Rp h' X' as' (.tup l') v :=
 Exists.imp fun a q => q.imp fun vs q => ⟨q.1, q.2.1.imp fun o z => ⟨z.2.2.elim fun _ hd => seq a o _ _ z.1 hd (.inl z.2.1), z.2⟩, Nat.le_trans hl q.2.2.1, g _ q.2.2.2⟩
theorem lift_lst {h X as h' X' as'} (seq : ∀ a o xs n, h.get? a = some o → o.data = .seq xs n → (o.cls = .type "tuple" ∨ (¬ X a ∧ a ∉ as)) → h'.get? a = some o) (out : ∀ a xs, h.IsList a xs → ¬ X a → a ∉ as → ¬ X' a ∧ a ∉ as')
  {l l' : List D} {v : Value} (hl : l'.length ≤ l.length) (g : ∀ vs, RpL h X as l vs → RpL h' X' as' l' vs) : Rp h X as (.lst l) v → Rp h' X' as' (.lst l') v :=
 Exists.imp fun a q => q.imp fun vs q =>
  have z := out a vs (Heap.PlainList.isList q.2.2.2.1) q.2.1 q.2.2.1
  ⟨q.1, z.1, z.2, q.2.2.2.1.imp fun _ ho => seq a _ _ _ ho rfl (.inr ⟨q.2.1, q.2.2.1⟩), Nat.le_trans hl q.2.2.2.2.1, g _ q.2.2.2.2.2⟩
mutual
theorem Rp.lift {h X as h' X' as'} (K : Lean1 h X as h' X' as') : ∀ {d : D} {v : Value}, Rp h X as d v → Rp h' X' as' d v
 | .none, _, r => r
 | .bool _, _, r => r
 | .int _, _, r => r
 | .str _, _, r => r
 | .tup l, _, r => lift_tup K.seq (Nat.le_refl _) (fun _ r => RpL.lift K r) r
 | .lst l, _, r => lift_lst K.seq K.out (Nat.le_refl _) (fun _ r => RpL.lift K r) r
 | .mut i, _, r => Exists.imp (fun a q => ⟨K.idx i a q.1, q.2⟩) r
 | .val _, _, r => r
 | .rng _ _ _, _, r => Exists.imp (fun _ q => Exists.imp (fun _ q => Exists.imp (fun _ q => Exists.imp (fun _ q => ⟨q.1, K.fix _ _ q.2 ⟨⟨_, rfl⟩, .inl rfl⟩⟩) q) q) q) r
 | .meth i, _, r => Exists.imp (fun _ q => Exists.imp (fun a q => ⟨q.1, K.idx i a q.2.1, K.fix _ _ q.2.2 ⟨⟨_, rfl⟩, .inr rfl⟩⟩) q) r
 | .any, _, _ => trivial
theorem RpL.lift {h X as h' X' as'} (K : Lean1 h X as h' X' as') : ∀ {ds : List D} {vs : List Value}, RpL h X as ds vs → RpL h' X' as' ds vs
 | [], [], r => r
 | _ :: _, _ :: _, r => ⟨Rp.lift K r.1, RpL.lift K r.2⟩
 | [], _ :: _, r => r
 | _ :: _, [], r => r
end
/-! ## what stands outside a frame -/
set_option genInjectivity false in
structure Gl (prog : Program) (w : World) where
 P : Addr
 mg : Str → Option Value
 mb : Str → Option Value
 ok : Heap → Prop
 okg : ∀ h, ok h → h.Ns mainGlobals mg
 okb : ∀ h, ok h → h.Ns builtinsNs mb
 oklim : ∀ h, ok h → h.NoLimit
 okmono : ∀ h h', ok h → (∀ a o, h.get? a = some o → a ≠ P → h'.get? a = some o) → ok h'
 Ex : Addr → Prop
 J : List (Addr × Obj) → Prop
 nv : Str → Option Value
 oknv : ∀ x v, nv x = some v → mg x = some v ∨ (mg x = none ∧ mb x = some v)
 G : Addr → Prop
 okG : ∀ h a, ok h → G a → (h.get? a).isSome
 gd : Str → Option D
 okgd : ∀ x d h X as, gd x = some d → ok h → (∀ a, G a → ¬ X a ∧ a ∉ as) → ∃ v, nv x = some v ∧ Rp h X as d v
 fn : Addr → Option FuncData
 okfn : ∀ h f fd, ok h → fn f = some fd → ∃ o, h.get? f = some o ∧ o.data = .func fd ∧ h.CodeRec fd.code fd.qualname ∧ fd.globals = mainGlobals ∧ fd.builtins = builtinsNs
set_option genInjectivity false in
structure Cx where
 env : Env
 A : Around
 X : Addr → Prop
 Ex : Addr → Prop
 h₀ : Heap
 own : List Addr     -- the cells that are the frame's own
 kn : List (Str × NameKind)
 J : List (Addr × Obj) → Prop
structure St where
 m : List (Str × D)
 mu : List (List D) := []
inductive VarIs (h : Heap) (env : Env) (x : Str) (v : Value) : Prop
 | loc (m : Str → Option Value) : env.kindOf x = some .local → h.Ns env.locals m → m x = some v → VarIs h env x v
 | cell (c : Addr) (k : NameKind) : env.kindOf x = some k → (k = .cell ∨ k = .free) → env.cells.lookup x = some c → (∃ o, h.get? c = some o ∧ o.data = .cell (some v)) → VarIs h env x v
inductive MuIs (h : Heap) (X : Addr → Prop) (as : List Addr) : List Addr → List (List D) → Prop
 | nil : MuIs h X as [] []
 | cons {a ds l r} (vs : Array Value) : h.PlainList a vs → ds.length ≤ 1048576 → RpL h X as ds vs.toList → MuIs h X as l r → MuIs h X as (a :: l) (ds :: r)
structure CxOk (Γ : Gl prog w) (C : Cx) : Prop where
 ok : Γ.ok C.h₀
 exE : C.Ex = Γ.Ex
 jE : C.J = Γ.J
 exP : ∀ a, C.Ex a → a = Γ.P ∧ ∃ o vs, C.h₀.get? a = some o ∧ o.data = .fields vs ∧ o.cls = .none
 xin : ∀ a, C.X a → (C.h₀.get? a).isSome ∧ ¬ C.Ex a
 xg : ∀ a, C.X a → ¬ Γ.G a
 fun_ : C.env.scope.kind = .function
 glo : C.env.globals = mainGlobals
 blt : C.env.builtins = builtinsNs
 nsNew : C.h₀.get? C.env.locals = Option.none
 cellNew : ∀ c ∈ C.own, C.h₀.get? c = Option.none
 cellIn : ∀ x c, C.kn.lookup x = some .cell → C.env.cells.lookup x = some c → c ∈ C.own
 cellHas : ∀ x, C.kn.lookup x = some .cell → ∃ c, C.env.cells.lookup x = some c
 inj : ∀ x y c, C.env.cells.lookup x = some c → C.env.cells.lookup y = some c → x = y
 kns : ∀ x k, C.kn.lookup x = some k → C.env.kindOf x = some k
 hand : C.A.handled = Option.none
 deep : C.A.depth ≤ 600
 unit : C.A.units ≤ 5000
noncomputable def note (o : Obj) : Prop := (o.cls = .none ∨ o.cls = .type "code") ∧ ∃ vs, o.data = .fields vs
structure Rel (Γ : Gl prog w) (C : Cx) (h : Heap) (as : List Addr) (st : St) : Prop where
 c : CxOk Γ C
 base : ∀ a o, C.h₀.get? a = some o → ¬ C.Ex a → h.get? a = some o
 exA : ∀ a, C.Ex a → ∃ o vs, h.get? a = some o ∧ o.data = .fields vs ∧ o.cls = .none
 ns : ∃ m, h.Ns C.env.locals m
 cells : ∀ c ∈ C.own, ∃ o v, h.get? c = some o ∧ o.data = .cell v
 vars : ∀ x d, st.m.lookup x = some d → ∃ v, VarIs h C.env x v ∧ Rp h C.X as d v
 mus : MuIs h C.X as as st.mu
 muNew : ∀ a ∈ as, C.h₀.get? a = Option.none
 nodup : as.Nodup
 inv : ∃ F, C.J F ∧ ∀ p ∈ F, h.get? p.1 = some p.2 ∧ note p.2
structure Ext (C : Cx) (h : Heap) (as : List Addr) (h' : Heap) (as' : List Addr) : Prop where
 keep : ∀ a o, h.get? a = some o → a ∉ as → a ≠ C.env.locals → a ∉ C.own → ¬ C.Ex a → h'.get? a = some o
 pre : ∃ e, as' = as ++ e
 fresh : ∀ a ∈ as', a ∈ as ∨ h.get? a = Option.none
structure Sm (s s' : Shared) : Prop where
 os : s'.os = s.os
 gens : AllBare s.gens → AllBare s'.gens
theorem Sm.refl (s : Shared) : Sm s s := ⟨rfl, id⟩
theorem Sm.trans {a b c : Shared} (x : Sm a b) (y : Sm b c) : Sm a c := ⟨y.os.trans x.os, fun z => y.gens (x.gens z)⟩
theorem Sm.of {s : Shared} {h : Heap} {t : Nat} : Sm s { s with heap := h, toks := t } := ⟨rfl, id⟩
section
variable {Γ : Gl prog w} {C : Cx} {h h' h'' : Heap} {as as' as'' : List Addr} {st st' : St}
theorem MuIs.alive {h X as} {l : List Addr} {r : List (List D)} (m : MuIs h X as l r) : ∀ a ∈ l, ∃ xs, h.IsList a xs := by
 induction m with
 | nil => exact fun a h => nomatch h
 | cons vs hl _ _ _ ih => exact fun a ha => (List.mem_cons.mp ha).elim (fun e => ⟨vs, e ▸ hl.isList⟩) (ih a)
theorem MuIs.get {h X as} {l : List Addr} {r : List (List D)} (m : MuIs h X as l r) : ∀ {i : Nat} {ds : List D}, r[i]? = some ds → ∃ a vs, l[i]? = some a ∧ h.PlainList a vs ∧ ds.length ≤ 1048576 ∧ RpL h X as ds vs.toList := by
 induction m with
 | nil => intro i ds e; rw [List.getElem?_nil] at e; cases e
 | cons vs hl b hr _ ih =>
  intro i ds e
  cases i with
  | zero => cases e; exact ⟨_, vs, rfl, hl, b, hr⟩
  | succ i => exact ih e
theorem MuIs.length {h X as} {l : List Addr} {r : List (List D)} (m : MuIs h X as l r) : l.length = r.length := by
 induction m with
 | nil => rfl
 | cons _ _ _ _ _ ih => exact congrArg (· + 1) ih
theorem Rel.notL (R : Rel Γ C h as st) {a : Addr} {o : Obj} (e : h.get? a = some o) (hd : ∀ es n, o.data ≠ .dict es n) : a ≠ C.env.locals := by
 rintro rfl
 obtain ⟨m, o', es, ep, ho, hd', _⟩ := R.ns
 rw [ho] at e; cases e; exact hd _ _ hd'
theorem Rel.notOwn (R : Rel Γ C h as st) {a : Addr} {o : Obj} (e : h.get? a = some o) (hd : ∀ v, o.data ≠ .cell v) : a ∉ C.own := by
 intro hc
 obtain ⟨o', v, ho, hd'⟩ := R.cells a hc
 rw [ho] at e; cases e; exact hd _ hd'
theorem Rel.alive (R : Rel Γ C h as st) {a : Addr} (ha : a ∈ as) : ∃ o xs n, h.get? a = some o ∧ o.cls = .type "list" ∧ o.data = .seq xs n := by
 obtain ⟨xs, o, ho, hc, n, hd⟩ := MuIs.alive R.mus a ha
 exact ⟨o, xs, n, ho, hc, hd⟩
theorem Rel.notMu (R : Rel Γ C h as st) {a : Addr} {o : Obj} (e : h.get? a = some o) (hd : o.cls ≠ .type "list" ∨ ∀ xs n, o.data ≠ .seq xs n) : a ∉ as := by
 intro ha
 obtain ⟨o', xs, n, ho, hc, hd'⟩ := R.alive ha
 rw [ho] at e; cases e
 rcases hd with q | q
 ·exact q hc
 ·exact q _ _ hd'
theorem Rel.notEx (R : Rel Γ C h as st) {a : Addr} {o : Obj} (e : h.get? a = some o) (hd : (∀ vs, o.data ≠ .fields vs) ∨ o.cls ≠ .none) : ¬ C.Ex a := by
 intro hx
 obtain ⟨o', vs, ho, hd', hc'⟩ := R.exA a hx
 rw [ho] at e; cases e
 rcases hd with q | q
 ·exact q _ hd'
 ·exact q hc'
theorem Ext.refl (C : Cx) (h : Heap) (as : List Addr) : Ext C h as h as := ⟨fun _ _ e _ _ _ _ => e, ⟨[], by simp⟩, fun _ ha => .inl ha⟩
theorem Ext.sub (k : ∀ a o, h.get? a = some o → h'.get? a = some o) : Ext C h as h' as := ⟨fun a o e _ _ _ _ => k a o e, ⟨[], by simp⟩, fun _ ha => .inl ha⟩
theorem Ext.trans (x : Ext C h as h' as') (R : Rel Γ C h' as' st') (y : Ext C h' as' h'' as'') : Ext C h as h'' as'' := by
 have go : ∀ a o, h.get? a = some o → a ∉ as → a ∉ as' := fun a o e n ha => by
  rcases x.fresh a ha with q | q
  ·exact n q
  ·rw [q] at e; cases e
 refine ⟨fun a o e n1 n2 n3 n4 => y.keep a o (x.keep a o e n1 n2 n3 n4) (go a o e n1) n2 n3 n4, ?_, fun a ha => ?_⟩
 ·obtain ⟨e, rfl⟩ := x.pre
  obtain ⟨e', rfl⟩ := y.pre
  exact ⟨e ++ e', by simp⟩
 ·rcases y.fresh a ha with q | q
  ·exact x.fresh a q
  ·refine (Decidable.em (a ∈ as)).imp id fun ha' => Option.eq_none_iff_forall_ne_some.mpr fun o e => no_some (q.symm.trans (x.keep a o e ha' (fun n2 => ?_) (fun n3 => ?_) fun n4 => ?_))
   ·obtain ⟨m, o', _, _, ho, _⟩ := R.ns
    exact no_some (q.symm.trans (n2 ▸ ho))
   ·obtain ⟨o', v, ho, _⟩ := R.cells a n3
    exact no_some (q.symm.trans ho)
   ·obtain ⟨o', v, ho, _⟩ := R.exA a n4
    exact no_some (q.symm.trans ho)
theorem Rel.lean (R : Rel Γ C h as st) (x : Ext C h as h' as') : Lean1 h C.X as h' C.X as' := by
 refine ⟨fun a o xs n e hd hc => ?_, fun a xs hl n1 n2 => ⟨n1, fun ha => ?_⟩, fun i a e => ?_, fun a o e ⟨⟨vs, hd⟩, hc⟩ => ?_⟩
 ·refine x.keep a o e ?_ (R.notL e fun _ _ => ob_no hd rfl) (R.notOwn e fun _ => ob_no hd rfl) (R.notEx e (.inl fun _ => ob_no hd rfl))
  rcases hc with hc | hc
  ·exact R.notMu e (.inl (by rw [hc]; decide))
  ·exact hc.2
 ·obtain ⟨o, ho, _⟩ := hl
  rcases x.fresh a ha with q | q
  ·exact n2 q
  ·rw [q] at ho; cases ho
 ·obtain ⟨e', rfl⟩ := x.pre
  exact (List.getElem?_append_left (List.getElem?_eq_some_iff.mp e).1).trans e
 ·refine x.keep a o e (R.notMu e (.inr fun _ _ => ob_no hd rfl)) (R.notL e fun _ _ => ob_no hd rfl) (R.notOwn e fun _ => ob_no hd rfl) (R.notEx e (.inr ?_))
  rcases hc with hc | hc <;> rw [hc] <;> decide
theorem Rp.ext {d : D} {v : Value} (r : Rp h C.X as d v) (R : Rel Γ C h as st) (x : Ext C h as h' as') : Rp h' C.X as' d v := r.lift (R.lean x)
theorem RpL.ext {d : List D} {v : List Value} (r : RpL h C.X as d v) (R : Rel Γ C h as st) (x : Ext C h as h' as') : RpL h' C.X as' d v := r.lift (R.lean x)
theorem MuIs.lift {h X as h' as'} (K : Lean1 h X as h' X as') {l : List Addr} {r : List (List D)} (g : ∀ a ∈ l, ∀ xs, h.PlainList a xs → h'.PlainList a xs) (m : MuIs h X as l r) : MuIs h' X as' l r := by
 induction m with
 | nil => exact .nil
 | cons vs hl b hr _ ih => exact .cons vs (g _ (.head _) _ hl) b (hr.lift K) (ih fun a ha => g a (.tail _ ha))
theorem VarIs.sub {h h' : Heap} {env : Env} {x : Str} {v : Value} (r : VarIs h env x v) (k : ∀ a o, h.get? a = some o → (∀ xs n, o.data ≠ .seq xs n) → (∀ vs, o.data ≠ .fields vs) → h'.get? a = some o) : VarIs h' env x v := by
 cases r with
 | loc m h1 h2 h3 =>
  obtain ⟨o, es, ep, ho, hd, r⟩ := h2
  exact .loc m h1 ⟨o, es, ep, k _ o ho (fun _ _ => ob_no hd rfl) (fun _ => ob_no hd rfl), hd, r⟩ h3
 | cell c kk h1 h2 h3 h4 =>
  obtain ⟨o, ho, hd⟩ := h4
  exact .cell c kk h1 h2 h3 ⟨o, k _ o ho (fun _ _ => ob_no hd rfl) (fun _ => ob_no hd rfl), hd⟩
noncomputable def itO (o : Obj) : Prop := (∃ vs, o.data = .fields vs) ∧ o.cls ≠ .none ∧ o.cls ≠ .type "code" ∧ o.cls ≠ .type "range" ∧ o.cls ≠ .type "builtin_function_or_method"
theorem Rel.subBut (R : Rel Γ C h as st) (it : Addr → Prop) (hit : ∀ a, it a → C.h₀.get? a = Option.none ∧ ∃ o, h.get? a = some o ∧ itO o)
  (k : ∀ a o, h.get? a = some o → ¬ it a → h'.get? a = some o) : Rel Γ C h' as st ∧ (∀ d v, Rp h C.X as d v → Rp h' C.X as d v) := by
 have k1 : ∀ a o, h.get? a = some o → (∀ vs, o.data ≠ .fields vs) → h'.get? a = some o := fun a o e q => k a o e fun z => by
  obtain ⟨_, o', e', ⟨⟨vs, hv⟩, _⟩⟩ := hit a z
  rw [e] at e'; cases e'; exact q _ hv
 have K : Lean1 h C.X as h' C.X as := ⟨fun a o xs n e hd _ => k1 a o e fun _ => ob_no hd rfl, fun a xs hl n1 n2 => ⟨n1, n2⟩, fun i a e => e, fun a o e hf => k a o e fun z => by
  obtain ⟨_, o', e', _, _, _, n1, n2⟩ := hit a z
  rw [e] at e'; cases e'
  rcases hf.2 with q | q
  ·exact n1 q
  ·exact n2 q⟩
 exact ⟨⟨R.c, fun a o e n => k a o (R.base a o e n) fun z => no_some ((hit a z).1.symm.trans e), fun a hx => (R.exA a hx).imp fun o q => q.imp fun vs q => ⟨k a o q.1 fun z => (R.c.exP a hx).2.elim fun o' q' => q'.elim fun _ q' => no_some ((hit a z).1.symm.trans q'.1), q.2⟩,
  R.ns.imp fun m => Exists.imp fun o => Exists.imp fun es => Exists.imp fun ep q => ⟨k1 _ o q.1 fun _ => ob_no q.2.1 rfl, q.2⟩, fun c hc => (R.cells c hc).imp fun o => Exists.imp fun v q => ⟨k1 _ o q.1 fun _ => ob_no q.2 rfl, q.2⟩,
  fun x d e => (R.vars x d e).imp fun v q => ⟨q.1.sub fun a o e _ q => k1 a o e q, q.2.lift K⟩, R.mus.lift K fun a _ xs => Exists.imp fun n ho => k1 _ _ ho fun _ => ob_no rfl rfl, R.muNew, R.nodup,
  R.inv.imp fun F q => ⟨q.1, fun p hp => ⟨k _ _ (q.2 p hp).1 fun z => (hit _ z).2.elim fun o y => (q.2 p hp).2.1.elim (fun u => y.2.2.1 (Option.some.inj (y.1.symm.trans (q.2 p hp).1) ▸ u)) (fun u => y.2.2.2.1 (Option.some.inj (y.1.symm.trans (q.2 p hp).1) ▸ u)), (q.2 p hp).2⟩⟩⟩, fun d v r => r.lift K⟩
theorem Rel.sub (R : Rel Γ C h as st) (k : ∀ a o, h.get? a = some o → h'.get? a = some o) : Rel Γ C h' as st :=
 (R.subBut (fun _ => False) (fun _ z => z.elim) fun a o e _ => k a o e).1
theorem Rel.jump (R : Rel Γ C h as st) (k : ∀ a o, h.get? a = some o → ¬ C.Ex a → h'.get? a = some o) (ex : ∀ a, C.Ex a → ∃ o vs, h'.get? a = some o ∧ o.data = .fields vs ∧ o.cls = .none)
  (inv : ∃ F, C.J F ∧ ∀ p ∈ F, h'.get? p.1 = some p.2 ∧ note p.2) : Rel Γ C h' as st ∧ (∀ d v, Rp h C.X as d v → Rp h' C.X as d v) ∧ Ext C h as h' as := by
 have k1 : ∀ a o, h.get? a = some o → (∀ vs, o.data ≠ .fields vs) → h'.get? a = some o := fun a o e q => k a o e (R.notEx e (.inl q))
 have K : Lean1 h C.X as h' C.X as := ⟨fun a o xs n e hd _ => k1 a o e fun _ => ob_no hd rfl, fun a xs hl n1 n2 => ⟨n1, n2⟩, fun i a e => e, fun a o e hf => k a o e (R.notEx e (.inr (by
  rcases hf.2 with q | q <;> rw [q] <;> decide)))⟩
 exact ⟨⟨R.c, fun a o e n => k a o (R.base a o e n) n, ex, R.ns.imp fun m => Exists.imp fun o => Exists.imp fun es => Exists.imp fun ep q => ⟨k1 _ o q.1 fun _ => ob_no q.2.1 rfl, q.2⟩,
  fun c hc => (R.cells c hc).imp fun o => Exists.imp fun v q => ⟨k1 _ o q.1 fun _ => ob_no q.2 rfl, q.2⟩, fun x d e => (R.vars x d e).imp fun v q => ⟨q.1.sub fun a o e _ q => k1 a o e q, q.2.lift K⟩,
  R.mus.lift K fun a _ xs => Exists.imp fun n ho => k1 _ _ ho fun _ => ob_no rfl rfl, R.muNew, R.nodup, inv⟩, fun d v r => r.lift K, ⟨fun a o e _ _ _ n => k a o e n, ⟨[], by simp⟩, fun a ha => .inl ha⟩⟩
theorem ns_same {L : Addr} {m m' : Str → Option Value} (x : h.Ns L m) (y : h.Ns L m') : ∀ n, m n = m' n := by
 obtain ⟨o, es, ep, ho, hd, _, hf⟩ := x
 obtain ⟨o', es', ep', ho', hd', _, hf'⟩ := y
 rw [ho] at ho'; cases ho'
 rw [hd] at hd'; cases hd'
 intro n
 rw [← hf, ← hf']
noncomputable def upd : List (Str × D) → Str → D → List (Str × D)
 | [], i, d => [(i, d)]
 | (j, e) :: r, i, d => if j == i then (i, d) :: r else (j, e) :: upd r i d
theorem upd_self (i : Str) (d : D) (m : List (Str × D)) : (upd m i d).lookup i = some d := by
 induction m with
 | nil => simp [upd, List.lookup]
 | cons p r ih =>
  unfold upd
  by_cases h : p.1 = i
  ·simp [h, List.lookup]
  ·have : (i == p.1) = false := beq_eq_false_iff_ne.mpr fun q => h q.symm
   simp [h, List.lookup, this, ih]
theorem upd_other {i x : Str} (d : D) (hx : x ≠ i) (m : List (Str × D)) : (upd m i d).lookup x = m.lookup x := by
 have e := beq_eq_false_iff_ne.mpr hx
 induction m with
 | nil => simp only [upd, List.lookup, e]
 | cons p r ih =>
  unfold upd
  by_cases h : p.1 = i
  ·simp only [h, List.lookup, e, beq_self_eq_true, if_true]
  ·simp only [beq_eq_false_iff_ne.mpr h, Bool.false_eq_true, if_false, List.lookup, ih]
theorem Rel.lean_but (R : Rel Γ C h as st) {L : Addr} (hs : Heap.SameBut L h h') (hL : ∀ o, h.get? L = some o → (∀ xs n, o.data ≠ .seq xs n) ∧ ∀ vs, o.data ≠ .fields vs) : Lean1 h C.X as h' C.X as := by
 refine ⟨fun a o xs n e hd _ => (hs.2 a ?_).trans e, fun a xs hl n1 n2 => ⟨n1, n2⟩, fun i a e => e, fun a o e hf => (hs.2 a ?_).trans e⟩
 ·rintro rfl
  exact (hL o e).1 _ _ hd
 ·rintro rfl
  obtain ⟨⟨vs, hv⟩, _⟩ := hf
  exact (hL o e).2 _ hv
theorem Rel.put (R : Rel Γ C h as st) {i : Str} {d : D} {L : Addr} (hs : Heap.SameBut L h h') (hL : ∀ o, h.get? L = some o → (∀ xs n, o.data ≠ .seq xs n) ∧ ∀ vs, o.data ≠ .fields vs) (hb : C.h₀.get? L = Option.none) (hn : ∃ m, h'.Ns C.env.locals m)
  (hc : ∀ c ∈ C.own, ∃ o v, h'.get? c = some o ∧ o.data = .cell v) (hv : ∃ v, VarIs h' C.env i v ∧ Rp h C.X as d v) (ho : ∀ x, x ≠ i → ∀ v, VarIs h C.env x v → VarIs h' C.env x v) (own : ¬ (L ≠ C.env.locals ∧ L ∉ C.own)) : Rel Γ C h' as { st with m := upd st.m i d } ∧ Ext C h as h' as :=
 have K := R.lean_but hs hL
 have kp : ∀ a o, h.get? a = some o → ((∃ xs n, o.data = .seq xs n) ∨ ∃ vs, o.data = .fields vs) → h'.get? a = some o := fun a o e q => (hs.2 a fun z => q.elim (fun ⟨_, _, y⟩ => (hL o (z ▸ e)).1 _ _ y) (fun ⟨_, y⟩ => (hL o (z ▸ e)).2 _ y)).trans e
 ⟨⟨R.c, fun a o e n => (hs.2 a fun z => no_some ((z ▸ hb).symm.trans e)).trans (R.base a o e n), fun a hx => (R.exA a hx).imp fun o => Exists.imp fun vs q => ⟨kp a o q.1 (.inr ⟨_, q.2.1⟩), q.2⟩, hn, hc,
  fun x d' e => by
   by_cases hxi : x = i
   ·rw [hxi, upd_self] at e; cases e; rw [hxi]; exact hv.imp fun _ q => ⟨q.1, q.2.lift K⟩
   ·rw [upd_other d hxi] at e
    exact (R.vars x d' e).imp fun v q => ⟨ho x hxi v q.1, q.2.lift K⟩,
  R.mus.lift K fun a _ xs => Exists.imp fun n q => kp _ _ q (.inl ⟨_, _, rfl⟩), R.muNew, R.nodup, R.inv.imp fun F q => ⟨q.1, fun p hp => ⟨kp _ _ (q.2 p hp).1 (.inr (q.2 p hp).2.2), (q.2 p hp).2⟩⟩⟩,
  ⟨fun a o e _ n1 n2 _ => (hs.2 a fun z => own (z ▸ ⟨n1, n2⟩)).trans e, ⟨[], by simp⟩, fun a ha => .inl ha⟩⟩
theorem Rel.store_loc (R : Rel Γ C h as st) {i : Str} {d : D} {v : Value} {m : Str → Option Value} (hk : C.env.kindOf i = some .local) (hm : h.Ns C.env.locals m)
  (hn : h'.Ns C.env.locals (fun x => if x = i then some v else m x)) (hs : Heap.SameBut C.env.locals h h') (hv : Rp h C.X as d v) : Rel Γ C h' as { st with m := upd st.m i d } ∧ Ext C h as h' as := by
 have kc : ∀ c o v, h.get? c = some o → o.data = .cell v → h'.get? c = some o := fun c o v e q => (hs.2 c (R.notL e fun _ _ => ob_no q rfl)).trans e
 refine R.put hs ?_ R.c.nsNew ⟨_, hn⟩ (fun c hc => (R.cells c hc).imp fun o => Exists.imp fun v q => ⟨kc _ _ _ q.1 q.2, q.2⟩) ⟨v, .loc _ hk hn (if_pos rfl), hv⟩ (fun x hxi v' h1 => ?_) fun z => z.1 rfl
 ·obtain ⟨o, es, ep, ho, hd, _⟩ := hm
  intro o' e
  rw [Option.some.inj (e.symm.trans ho)]
  exact ⟨fun _ _ => ob_no hd rfl, fun _ => ob_no hd rfl⟩
 ·cases h1 with
  | loc m' q1 q2 q3 => exact .loc _ q1 hn ((if_neg hxi).trans ((ns_same hm q2 _).trans q3))
  | cell c k q1 q2 q3 q4 => exact .cell c k q1 q2 q3 (q4.imp fun o q => ⟨kc _ _ _ q.1 q.2, q.2⟩)
theorem Rel.store_cell (R : Rel Γ C h as st) {i : Str} {d : D} {v : Value} {c : Addr} {o' : Obj} (hk : C.env.kindOf i = some .cell) (hkn : C.kn.lookup i = some .cell) (hc : C.env.cells.lookup i = some c)
  (ho' : h'.get? c = some o') (hd' : o'.data = .cell (some v)) (hs : Heap.SameBut c h h') (hv : Rp h C.X as d v) : Rel Γ C h' as { st with m := upd st.m i d } ∧ Ext C h as h' as := by
 have hown := R.c.cellIn _ _ hkn hc
 have hns : ∃ m, h.Ns C.env.locals m ∧ h'.Ns C.env.locals m := R.ns.imp fun m q => ⟨q, q.imp fun o => Exists.imp fun es => Exists.imp fun ep r => ⟨(hs.2 _ fun z => (R.cells c hown).elim fun o2 q2 => q2.elim fun v2 q2 => ob_no r.2.1 rfl (Option.some.inj ((z ▸ r.1).symm.trans q2.1) ▸ q2.2)).trans r.1, r.2⟩⟩
 refine R.put hs (fun o e => ?_) (R.c.cellNew _ hown) (hns.imp fun _ q => q.2) (fun c' hc' => ?_) ⟨v, .cell c .cell hk (.inl rfl) hc ⟨o', ho', hd'⟩, hv⟩ (fun x hxi v' h1 => ?_) fun z => z.2 hown
 ·obtain ⟨oc, vc, hoc, hdc⟩ := R.cells c hown
  rw [Option.some.inj (e.symm.trans hoc)]
  exact ⟨fun _ _ => ob_no hdc rfl, fun _ => ob_no hdc rfl⟩
 ·by_cases q : c' = c
  ·exact ⟨o', _, q ▸ ho', hd'⟩
  ·exact (R.cells c' hc').imp fun o => Exists.imp fun v z => ⟨(hs.2 c' q).trans z.1, z.2⟩
 ·cases h1 with
  | loc m' q1 q2 q3 => exact hns.elim fun m n => .loc _ q1 n.2 ((ns_same n.1 q2 _).trans q3)
  | cell c' k q1 q2 q3 q4 => exact .cell c' k q1 q2 q3 (q4.imp fun o z => ⟨(hs.2 c' fun y => hxi (R.c.inj _ _ _ (y ▸ q3) hc)).trans z.1, z.2⟩)
end
/-! ## the judgements -/
noncomputable def AW {α β : Type} (Γ : Gl prog w) (C : Cx) (t : Sem α) (rel : Heap → List Addr → β → α → Prop) (st : St) (Φ : β → St → Prop) : Prop :=
 ∀ (s : Shared) (as : List Addr) (Q : α → Shared → Prop) (E : Value → Shared → Prop), Rel Γ C s.heap as st →
  (∀ x b st' as' s', Φ b st' → Rel Γ C s'.heap as' st' → rel s'.heap as' b x → Ext C s.heap as s'.heap as' → Sm s s' → Q x s') →
  wpAny (model prog w) C.A t Q E s
inductive Fl where
 | next | brk | cont
 | ret (d : D)
noncomputable def relV (C : Cx) (h : Heap) (as : List Addr) (d : D) (v : Value) : Prop := Rp h C.X as d v
noncomputable def relB (_ : Heap) (_ : List Addr) (b : Bool) (c : Bool) : Prop := c = b
noncomputable def relF (C : Cx) (h : Heap) (as : List Addr) : Fl → Flow → Prop
 | .next, f => f = .next
 | .brk, f => f = .brk
 | .cont, f => f = .cont
 | .ret d, f => ∃ v, f = .ret v ∧ Rp h C.X as d v
noncomputable abbrev AE (Γ : Gl prog w) (C : Cx) (e : Expr) (st : St) (Φ : D → St → Prop) : Prop := AW Γ C (eval e C.env) (relV C) st Φ
noncomputable abbrev AT (Γ : Gl prog w) (C : Cx) (e : Expr) (st : St) (Φ : Bool → St → Prop) : Prop := AW Γ C (isTrue e C.env (eval e C.env)) relB st Φ
noncomputable abbrev AS (Γ : Gl prog w) (C : Cx) (t : Stmt) (st : St) (Φ : Fl → St → Prop) : Prop := AW Γ C (exec t C.env) (relF C) st Φ
noncomputable abbrev AB (Γ : Gl prog w) (C : Cx) (t : List Stmt) (st : St) (Φ : Fl → St → Prop) : Prop := AW Γ C (execs t C.env) (relF C) st Φ
noncomputable def AK {α γ β δ : Type} (Γ : Gl prog w) (C : Cx) (k : α → Sem γ) (rel1 : Heap → List Addr → β → α → Prop) (b : β) (rel2 : Heap → List Addr → δ → γ → Prop) (st : St) (Φ : δ → St → Prop) : Prop :=
 ∀ (s : Shared) (as : List Addr) (x : α) (Q : γ → Shared → Prop) (E : Value → Shared → Prop), Rel Γ C s.heap as st → rel1 s.heap as b x →
  (∀ y c st' as' s', Φ c st' → Rel Γ C s'.heap as' st' → rel2 s'.heap as' c y → Ext C s.heap as s'.heap as' → Sm s s' → Q y s') →
  wpAny (model prog w) C.A (k x) Q E s
noncomputable def relV2 (C : Cx) (h : Heap) (as : List Addr) (d : D × D) (v : Value × Value) : Prop := Rp h C.X as d.1 v.1 ∧ Rp h C.X as d.2 v.2
noncomputable def relL (C : Cx) (h : Heap) (as : List Addr) (d : List D) (v : List Value) : Prop := RpL h C.X as d v
noncomputable abbrev AV2 (Γ : Gl prog w) (C : Cx) (k : Value → Value → Sem Value) (d e : D) (st : St) (Φ : D → St → Prop) : Prop := AK Γ C (fun p : Value × Value => k p.1 p.2) (relV2 C) (d, e) (relV C) st Φ
section
variable {Γ : Gl prog w} {C : Cx} {st : St}
theorem AW.mono {α β : Type} {t : Sem α} {rel : Heap → List Addr → β → α → Prop} {Φ Ψ : β → St → Prop} (h : AW Γ C t rel st Φ) (k : ∀ b st', Φ b st' → Ψ b st') : AW Γ C t rel st Ψ :=
 fun s as Q E R q => h s as Q E R fun x b st' as' s' f => q x b st' as' s' (k b st' f)
theorem AK.pure {α γ β δ : Type} {k : α → Sem γ} {rel1 : Heap → List Addr → β → α → Prop} {b : β} {rel2 : Heap → List Addr → δ → γ → Prop} {Φ : δ → St → Prop} {c : δ} (f : Φ c st)
  (h : ∀ (s : Shared) (as : List Addr) (x : α) (Q : γ → Shared → Prop) (E : Value → Shared → Prop), Rel Γ C s.heap as st → rel1 s.heap as b x → (∀ y t, rel2 s.heap as c y → Q y { s with toks := t }) → wpAny (model prog w) C.A (k x) Q E s) :
  AK Γ C k rel1 b rel2 st Φ := fun s as x Q E R r q =>
 h s as x Q E R r fun y t ry => q y c st as { s with toks := t } f R ry (Ext.refl C s.heap as) ⟨rfl, id⟩
theorem AW.pure {α β : Type} {t : Sem α} {rel : Heap → List Addr → β → α → Prop} {Φ : β → St → Prop} {b : β} (f : Φ b st)
  (h : ∀ (s : Shared) (as : List Addr) (Q : α → Shared → Prop) (E : Value → Shared → Prop), Rel Γ C s.heap as st → (∀ y t, rel s.heap as b y → Q y { s with toks := t }) → wpAny (model prog w) C.A t Q E s) :
  AW Γ C t rel st Φ := fun s as Q E R q =>
 h s as Q E R fun y t ry => q y b st as { s with toks := t } f R ry (Ext.refl C s.heap as) ⟨rfl, id⟩
end
end
section
section
variable {Γ : Gl prog w} {C : Cx} {st : St} {Φ : D → St → Prop}
noncomputable def nmOk (x : Str) : Bool := !(x == ("__debug__" : Str)) && !(x == ("__classdict__" : Str)) && !(x == ("__name__" : Str))
theorem nmOk_d {x : Str} (h : nmOk x = true) : (x == ("__debug__" : Str)) = false := by simp only [nmOk, Bool.and_eq_true, Bool.not_eq_true'] at h; exact h.1.1
theorem nmOk_c {x : Str} (h : nmOk x = true) : (x == ("__classdict__" : Str)) = false := by simp only [nmOk, Bool.and_eq_true, Bool.not_eq_true'] at h; exact h.1.2
theorem load_var {A : Around} {E : Value → Shared → Prop} {s : Shared} {env : Env} {i : Str} {v : Value} {Q : Value → Shared → Prop} (hk : env.scope.kind = .function) (hv : VarIs s.heap env i v) (h : Q v s) (cdi : (i == ("__classdict__" : Str)) = false) :
  wpAny (model prog w) A (loadName env i) Q E s := by
 cases hv with
 | loc m h1 h2 h3 => exact wpAny_loadName_local hk h1 h2 h3 h
 | cell c k h1 h2 h3 h4 =>
  rcases h2 with rfl | rfl
  ·exact wpAny_loadName_cell hk h1 h3 h4 h
  ·exact wpAny_loadName_free hk h1 h3 h4 h cdi
theorem AE_int {i k pos} (h : Φ (.int i) st) : AE Γ C (.Constant (.int i) k pos) st Φ := AW.pure h fun _ _ _ _ _ q => wpAny_Constant_int (q _ _ ⟨_, rfl⟩)
theorem AE_str {l k pos} (h : Φ (.str l) st) (hb : l.length ≤ 1048576) : AE Γ C (.Constant (.str (S l)) k pos) st Φ := AW.pure h fun _ _ _ _ _ q => Constant_str (q _ _ ⟨⟨_, rfl⟩, hb⟩)
theorem AE_bool {b k pos} (h : Φ (.bool b) st) : AE Γ C (.Constant (.bool b) k pos) st Φ := AW.pure h fun _ _ _ _ _ q => Constant_bool (q _ _ rfl)
theorem AE_none {k pos} (h : Φ .none st) : AE Γ C (.Constant .none k pos) st Φ := AW.pure h fun _ _ _ _ _ q => Constant_none (q _ _ rfl)
theorem AE_Name {i : Str} {pos d} (hn : nmOk i = true) (e : st.m.lookup i = some d) (h : Φ d st) : AE Γ C (.Name i pos) st Φ := AW.pure h fun s as Q E R q => by
 obtain ⟨v, hv, hr⟩ := R.vars i d e
 exact wpAny_Name (load_var R.c.fun_ hv (q v s.toks hr) (nmOk_c hn)) (nmOk_d hn)
/-! two operands -/
theorem AE_BinOp {l op r pos} (h : AE Γ C l st fun d1 st1 => AE Γ C r st1 fun d2 st2 => AV2 Γ C (binaryOp op) d1 d2 st2 Φ) : AE Γ C (.BinOp l op r pos) st Φ := by
 intro s as Q E R k
 refine wpAny_BinOp (h s as _ E R ?_)
 intro v1 d1 st1 as1 s1 h1 R1 p1 x1 m1
 refine h1 s1 as1 _ E R1 ?_
 intro v2 d2 st2 as2 s2 h2 R2 p2 x2 m2
 exact h2 s2 as2 (v1, v2) _ E R2 ⟨p1.ext R1 x2, p2⟩ fun v d st3 as3 s3 f R3 p3 x3 m3 => k v d st3 as3 s3 f R3 p3 ((x1.trans R1 x2).trans R2 x3) (m1.trans (m2.trans m3))
theorem AE_Cmp {l op r pos} (h : AE Γ C l st fun d1 st1 => AE Γ C r st1 fun d2 st2 => AV2 Γ C (compareOp op) d1 d2 st2 Φ) (hm : behindInMarks op r = false) : AE Γ C (.Compare l [op] [r] pos) st Φ := by
 intro s as Q E R k
 refine wpAny_Compare1 (h s as _ E R ?_) hm
 intro v1 d1 st1 as1 s1 h1 R1 p1 x1 m1
 refine h1 s1 as1 _ E R1 ?_
 intro v2 d2 st2 as2 s2 h2 R2 p2 x2 m2
 exact h2 s2 as2 (v1, v2) _ E R2 ⟨p1.ext R1 x2, p2⟩ fun v d st3 as3 s3 f R3 p3 x3 m3 => k v d st3 as3 s3 f R3 p3 ((x1.trans R1 x2).trans R2 x3) (m1.trans (m2.trans m3))
/-! operators -/
section
variable {a b : Int} {x y : List Nat}
theorem AV2.pure {k : Value → Value → Sem Value} {d e c : D} (f : Φ c st)
  (h : ∀ (s : Shared) (as : List Addr) (v1 v2 : Value) (Q : Value → Shared → Prop) (E : Value → Shared → Prop), Rel Γ C s.heap as st → Rp s.heap C.X as d v1 → Rp s.heap C.X as e v2 → (∀ y t, Rp s.heap C.X as c y → Q y { s with toks := t }) → wpAny (model prog w) C.A (k v1 v2) Q E s) :
  AV2 Γ C k d e st Φ := AK.pure f fun s as v Q E R r q => h s as v.1 v.2 Q E R r.1 r.2 q
theorem op_add_int (h : Φ (.int (a + b)) st) : AV2 Γ C (binaryOp .Add) (.int a) (.int b) st Φ := by
 refine AV2.pure h fun s as v1 v2 Q E R r1 r2 q => ?_; obtain ⟨_, rfl⟩ := r1; obtain ⟨_, rfl⟩ := r2; exact add_int (q _ _ ⟨_, rfl⟩)
theorem op_sub_int (h : Φ (.int (a - b)) st) : AV2 Γ C (binaryOp .Sub) (.int a) (.int b) st Φ := by
 refine AV2.pure h fun s as v1 v2 Q E R r1 r2 q => ?_; obtain ⟨_, rfl⟩ := r1; obtain ⟨_, rfl⟩ := r2; exact sub_int (q _ _ ⟨_, rfl⟩)
theorem op_div_int (h : Φ (.int (a.fdiv b)) st) (hb : b ≠ 0) (hp : Builtin.divisionGoesByPylong a b = false) : AV2 Γ C (binaryOp .FloorDiv) (.int a) (.int b) st Φ := by
 refine AV2.pure h fun s as v1 v2 Q E R r1 r2 q => ?_; obtain ⟨_, rfl⟩ := r1; obtain ⟨_, rfl⟩ := r2; exact floordiv_int hb (q _ _ ⟨_, rfl⟩) (.inl hp)
theorem op_mod_int (h : Φ (.int (a.fmod b)) st) (hb : b ≠ 0) : AV2 Γ C (binaryOp .Mod) (.int a) (.int b) st Φ := by
 refine AV2.pure h fun s as v1 v2 Q E R r1 r2 q => ?_; obtain ⟨_, rfl⟩ := r1; obtain ⟨_, rfl⟩ := r2; exact mod_int hb (q _ _ ⟨_, rfl⟩)
theorem op_and_int (h : Φ (.int (Builtin.bitAnd a b)) st) : AV2 Γ C (binaryOp .BitAnd) (.int a) (.int b) st Φ := by
 refine AV2.pure h fun s as v1 v2 Q E R r1 r2 q => ?_; obtain ⟨_, rfl⟩ := r1; obtain ⟨_, rfl⟩ := r2; exact and_int (q _ _ ⟨_, rfl⟩)
theorem S_append (x y : List Nat) : S x ++ S y = S (x ++ y) := by
 show Str.append (S x) (S y) = _
 simp [S, Str.append]
theorem S_len (x : List Nat) : (S x).length = x.length := by simp [S, Str.length]
theorem S_beq (x y : List Nat) : (S x == S y) = (x == y) := by
 rw [Bool.eq_iff_iff]; simp only [beq_iff_eq]
 exact ⟨fun e => S_inj e, fun e => by rw [e]⟩
theorem sl_is : sizeLine = 16777216 := by decide
theorem op_add_str (h : Φ (.str (x ++ y)) st) (hb : (x ++ y).length ≤ 1048576) : AV2 Γ C (binaryOp .Add) (.str x) (.str y) st Φ := by
 refine AV2.pure h fun s as v1 v2 Q E R r1 r2 q => ?_; obtain ⟨⟨_, rfl⟩, b1⟩ := r1; obtain ⟨⟨_, rfl⟩, b2⟩ := r2
 refine add_str (fun t tk => ?_) (by rw [S_len, S_len, sl_is]; omega)
 rw [S_append]; exact q _ _ ⟨⟨_, rfl⟩, hb⟩
theorem op_iadd_str (h : Φ (.str (x ++ y)) st) (hb : (x ++ y).length ≤ 1048576) : AV2 Γ C (inplaceOp .Add) (.str x) (.str y) st Φ := by
 refine AV2.pure h fun s as v1 v2 Q E R r1 r2 q => ?_; obtain ⟨⟨_, rfl⟩, b1⟩ := r1; obtain ⟨⟨_, rfl⟩, b2⟩ := r2
 refine iadd_str (fun t tk => ?_) (by rw [S_len, S_len, sl_is]; omega)
 rw [S_append]; exact q _ _ ⟨⟨_, rfl⟩, hb⟩
theorem op_iadd_int (h : Φ (.int (a + b)) st) : AV2 Γ C (inplaceOp .Add) (.int a) (.int b) st Φ := by
 refine AV2.pure h fun s as v1 v2 Q E R r1 r2 q => ?_; obtain ⟨_, rfl⟩ := r1; obtain ⟨_, rfl⟩ := r2; exact iadd_int (q _ _ ⟨_, rfl⟩)
/- comparisons -/
theorem cmp_lt_int (h : Φ (.bool (decide (a < b))) st) : AV2 Γ C (compareOp .Lt) (.int a) (.int b) st Φ := by
 refine AV2.pure h fun s as v1 v2 Q E R r1 r2 q => ?_; obtain ⟨_, rfl⟩ := r1; obtain ⟨_, rfl⟩ := r2; exact lt_int (q _ _ rfl)
theorem cmp_gt_int (h : Φ (.bool (decide (b < a))) st) : AV2 Γ C (compareOp .Gt) (.int a) (.int b) st Φ := by
 refine AV2.pure h fun s as v1 v2 Q E R r1 r2 q => ?_; obtain ⟨_, rfl⟩ := r1; obtain ⟨_, rfl⟩ := r2; exact gt_int (q _ _ rfl)
theorem cmp_le_int (h : Φ (.bool (decide (a ≤ b))) st) : AV2 Γ C (compareOp .LtE) (.int a) (.int b) st Φ := by
 refine AV2.pure h fun s as v1 v2 Q E R r1 r2 q => ?_; obtain ⟨_, rfl⟩ := r1; obtain ⟨_, rfl⟩ := r2; exact le_int (q _ _ rfl)
theorem cmp_ge_int (h : Φ (.bool (decide (b ≤ a))) st) : AV2 Γ C (compareOp .GtE) (.int a) (.int b) st Φ := by
 refine AV2.pure h fun s as v1 v2 Q E R r1 r2 q => ?_; obtain ⟨_, rfl⟩ := r1; obtain ⟨_, rfl⟩ := r2; exact ge_int (q _ _ rfl)
theorem cmp_eq_int (h : Φ (.bool (decide (a = b))) st) : AV2 Γ C (compareOp .Eq) (.int a) (.int b) st Φ := by
 refine AV2.pure h fun s as v1 v2 Q E R r1 r2 q => ?_; obtain ⟨_, rfl⟩ := r1; obtain ⟨_, rfl⟩ := r2; exact eq_int (q _ _ (by rw [show (a == b) = decide (a = b) from rfl]; rfl))
theorem cmp_ne_int (h : Φ (.bool (!decide (a = b))) st) : AV2 Γ C (compareOp .NotEq) (.int a) (.int b) st Φ := by
 refine AV2.pure h fun s as v1 v2 Q E R r1 r2 q => ?_; obtain ⟨_, rfl⟩ := r1; obtain ⟨_, rfl⟩ := r2; exact ne_int (q _ _ rfl)
theorem l_beq {x y : List Nat} : (x == y) = decide (x = y) := Bool.eq_iff_iff.mpr (beq_iff_eq.trans decide_eq_true_iff.symm)
theorem cmp_eq_str (h : Φ (.bool (decide (x = y))) st) : AV2 Γ C (compareOp .Eq) (.str x) (.str y) st Φ := by
 refine AV2.pure h fun s as v1 v2 Q E R r1 r2 q => ?_; obtain ⟨⟨_, rfl⟩, b1⟩ := r1; obtain ⟨⟨_, rfl⟩, b2⟩ := r2
 refine eq_str (q _ _ ?_)
 exact congrArg Value.bool ((S_beq _ _).trans l_beq)
theorem cmp_ne_str (h : Φ (.bool (!decide (x = y))) st) : AV2 Γ C (compareOp .NotEq) (.str x) (.str y) st Φ := by
 refine AV2.pure h fun s as v1 v2 Q E R r1 r2 q => ?_; obtain ⟨⟨_, rfl⟩, b1⟩ := r1; obtain ⟨⟨_, rfl⟩, b2⟩ := r2
 refine ne_str (q _ _ ?_)
 exact congrArg (fun b => Value.bool (!b)) ((S_beq _ _).trans l_beq)
theorem cmp_lt_str (h : Φ (.bool (decide (x < y))) st) : AV2 Γ C (compareOp .Lt) (.str x) (.str y) st Φ := by
 refine AV2.pure h fun s as v1 v2 Q E R r1 r2 q => ?_; obtain ⟨⟨_, rfl⟩, b1⟩ := r1; obtain ⟨⟨_, rfl⟩, b2⟩ := r2
 exact lt_str (q _ _ (by show Value.bool _ = Value.bool _; simp [S]; try congr))
theorem cmp_gt_str (h : Φ (.bool (decide (y < x))) st) : AV2 Γ C (compareOp .Gt) (.str x) (.str y) st Φ := by
 refine AV2.pure h fun s as v1 v2 Q E R r1 r2 q => ?_; obtain ⟨⟨_, rfl⟩, b1⟩ := r1; obtain ⟨⟨_, rfl⟩, b2⟩ := r2
 exact PySem.P.gt_str (q _ _ (by show Value.bool _ = Value.bool _; simp [S]; try congr))
theorem cmp_le_str (h : Φ (.bool (!decide (y < x))) st) : AV2 Γ C (compareOp .LtE) (.str x) (.str y) st Φ := by
 refine AV2.pure h fun s as v1 v2 Q E R r1 r2 q => ?_; obtain ⟨⟨_, rfl⟩, b1⟩ := r1; obtain ⟨⟨_, rfl⟩, b2⟩ := r2
 exact PySem.P.le_str (q _ _ (by show Value.bool _ = Value.bool _; simp [S]; try congr))
theorem cmp_in_str {c : Nat} (h : Φ (.bool (decide (c ∈ x))) st) : AV2 Γ C (compareOp .In) (.str [c]) (.str x) st Φ := by
 refine AV2.pure h fun s as v1 v2 Q E R r1 r2 q => ?_; obtain ⟨⟨_, rfl⟩, b1⟩ := r1; obtain ⟨⟨_, rfl⟩, b2⟩ := r2
 refine in_str (q _ _ ?_)
 rw [show S [c] = ⟨#[c]⟩ from rfl, PySem.StrLaws.found_one]; show Value.bool _ = Value.bool _; simp [S]; try congr
theorem cmp_notin_str {c : Nat} (h : Φ (.bool (!decide (c ∈ x))) st) : AV2 Γ C (compareOp .NotIn) (.str [c]) (.str x) st Φ := by
 refine AV2.pure h fun s as v1 v2 Q E R r1 r2 q => ?_; obtain ⟨⟨_, rfl⟩, b1⟩ := r1; obtain ⟨⟨_, rfl⟩, b2⟩ := r2
 refine notIn_str (q _ _ ?_)
 rw [show S [c] = ⟨#[c]⟩ from rfl, PySem.StrLaws.found_one]; show Value.bool _ = Value.bool _; simp [S]; try congr
theorem cmp_is_none {d : D} (c : Bool) (h : Φ (.bool c) st) (hd : (match d with | .none => some true | .str _ | .int _ | .bool _ | .tup _ | .lst _ | .mut _ => some false | _ => none) = some c) : AV2 Γ C (compareOp .Is) d .none st Φ := by
 refine AV2.pure h fun s as v1 v2 Q E R r1 r2 q => ?_
 obtain rfl : v2 = .none := r2
 refine PyProof.Rows.is_none_gen (q _ _ (congrArg Value.bool ?_))
 cases d with
 | none => rw [show v1 = .none from r1]; exact Option.some.inj hd
 | bool b => rw [show v1 = .bool b from r1]; exact Option.some.inj hd
 | int => exact r1.elim fun _ e => e ▸ Option.some.inj hd
 | str => exact r1.1.elim fun _ e => e ▸ Option.some.inj hd
 | tup => exact r1.elim fun _ e => e.elim fun _ e => e.1 ▸ Option.some.inj hd
 | lst => exact r1.elim fun _ e => e.elim fun _ e => e.1 ▸ Option.some.inj hd
 | «mut» => exact r1.elim fun _ e => e.2 ▸ Option.some.inj hd
 | _ => exact no_some hd
theorem cmp_isnot_bool {c e : Bool} (h : Φ (.bool (!(c == e))) st) : AV2 Γ C (compareOp .IsNot) (.bool c) (.bool e) st Φ := by
 refine AV2.pure h fun s as v1 v2 Q E R r1 r2 q => ?_; cases r1; cases r2
 exact wpAny_isNot_plain (by cases c <;> cases e <;> rfl) (q _ _ (by cases c <;> cases e <;> rfl))
theorem cmp_eq_bool {c e : Bool} (h : Φ (.bool (c == e)) st) : AV2 Γ C (compareOp .Eq) (.bool c) (.bool e) st Φ := by
 refine AV2.pure h fun s as v1 v2 Q E R r1 r2 q => ?_; cases r1; cases r2
 exact eq_bool (q _ _ rfl)
theorem cmp_ne_bool {c e : Bool} (h : Φ (.bool (!(c == e))) st) : AV2 Γ C (compareOp .NotEq) (.bool c) (.bool e) st Φ := by
 refine AV2.pure h fun s as v1 v2 Q E R r1 r2 q => ?_; cases r1; cases r2
 exact ne_bool (q _ _ rfl)
end
end
end
section
noncomputable def clipI : Int → Nat → Nat
 | .ofNat a, _ => a
 | .negSucc a, n => n - (a + 1)
noncomputable def pySlice {α : Type} (l : List α) (lo hi : Option Int) : List α := (l.take (match hi with | some i => clipI i l.length | none => l.length)).drop (match lo with | some i => clipI i l.length | none => 0)
noncomputable def pyIdx {α : Type} (l : List α) : Int → Option α
 | .ofNat k => l[k]?
 | .negSucc k => if k + 1 ≤ l.length then l[l.length - (k + 1)]? else none
theorem pick_range {α : Type} (l : List α) : ∀ (k a : Nat), ((List.range k).map fun j => a + j).filterMap (l[·]?) = (l.drop a).take k
 | 0, a => by simp
 | k + 1, a => by
  rw [List.range_succ, List.map_append, List.filterMap_append, pick_range l k a, List.take_add_one]
  congr 1
  simp only [List.map_cons, List.map_nil, List.getElem?_drop]
  cases e : l[a + k]? with
  | none => simp [e]
  | some x => simp [e]
theorem sliceRange_one (a b : Nat) : sliceRange a b 1 = (List.range (b - a)).map fun j => a + j := by
 unfold sliceRange
 rw [if_pos (by decide), Int.add_sub_cancel, Int.ediv_one]
 have : (if (a : Int) < b then (b : Int) - a else 0).toNat = b - a := by
  split
  ·exact Int.toNat_sub b a
  ·exact (Nat.sub_eq_zero_of_le (o_cn (by assumption))).symm
 dsimp only
 rw [this]
 exact List.map_congr_left fun j _ => by rw [Int.one_mul]; rfl
theorem clip_is (i : Int) (n : Nat) : max 0 (min (if i < 0 then i + (n : Int) else i) n) = ((min (clipI i n) n : Nat) : Int) := by
 cases i with
 | ofNat a =>
  show max 0 (min (if (a : Int) < 0 then (a : Int) + n else (a : Int)) n) = _
  rw [if_neg (Int.not_lt.mpr (Int.natCast_nonneg a)), Int.max_eq_right (Int.le_min.mpr ⟨Int.natCast_nonneg a, Int.natCast_nonneg n⟩)]
  rw [Int.min_def, Nat.min_def]; split <;> split <;> first | rfl | (exact absurd (o_ce (by assumption)) (by assumption)) | (exact absurd (o_ec (by assumption)) (by assumption))
 | negSucc a =>
  rw [if_pos (Int.negSucc_lt_zero a), Int.min_eq_left (Int.add_le_of_le_sub_right (by rw [Int.sub_self]; exact Int.le_of_lt (Int.negSucc_lt_zero a))), show Int.negSucc a + (n : Int) = (n : Int) - ((a + 1 : Nat) : Int) by rw [Int.add_comm]; rfl, Int.max_comm, ← Int.toNat_eq_max, Int.toNat_sub]
  exact congrArg _ (Nat.min_eq_left (Nat.sub_le n (a + 1))).symm
theorem take_min {α : Type} (l : List α) (a b : Nat) : (l.take (min b l.length)).drop (min a l.length) = (l.take b).drop a := by
 rw [← List.take_eq_take_min]
 by_cases h : a ≤ l.length
 ·rw [Nat.min_eq_left h]
 ·have h := Nat.le_of_not_le h
  rw [Nat.min_eq_right h, List.drop_eq_nil_of_le (List.length_take_le' ..), List.drop_eq_nil_of_le (Nat.le_trans (List.length_take_le' ..) h)]
noncomputable def loI (lo : Option Int) (n : Nat) : Nat := match lo with | some i => clipI i n | none => 0
noncomputable def hiI (hi : Option Int) (n : Nat) : Nat := match hi with | some i => clipI i n | none => n
theorem pick_one {α : Type} (l : List α) (lo hi : Option Int) : (sliceRange ((min (loI lo l.length) l.length : Nat) : Int) ((min (hiI hi l.length) l.length : Nat) : Int) 1).filterMap (l[·]?) = pySlice l lo hi := by
 rw [sliceRange_one, pick_range, ← List.drop_take]
 exact take_min l (loI lo l.length) (hiI hi l.length)
theorem bounds_one (lo hi : Option Int) (n : Nat) : sliceBounds lo hi none n = (((min (loI lo n) n : Nat) : Int), ((min (hiI hi n) n : Nat) : Int), 1) := by
 unfold sliceBounds
 cases lo <;> cases hi <;> simp only [loI, hiI, Option.getD_none, show (1 : Int) > 0 from by decide, if_true, clip_is, Nat.zero_min, Nat.min_self] <;> rfl
theorem slicePick_one (items : Array Value) (lo hi : Option Int) : (slicePick items lo hi none).toList = pySlice items.toList lo hi := by
 unfold slicePick
 rw [bounds_one, ← pick_one]
 have : (fun i : Nat => items[i]?) = fun i => items.toList[i]? := by funext i; simp
 rw [this]
 rfl
theorem pySlice_length {α : Type} (l : List α) (lo hi : Option Int) : (pySlice l lo hi).length ≤ l.length := by
 unfold pySlice
 rw [List.length_drop]
 exact Nat.le_trans (Nat.sub_le _ _) (List.length_take_le' ..)
theorem RpL.slice {h X as} {ds : List D} {vs : List Value} (r : RpL h X as ds vs) (lo hi : Option Int) : RpL h X as (pySlice ds lo hi) (pySlice vs lo hi) := by
 unfold pySlice
 rw [r.length]
 exact (r.take _).drop _
theorem RpL.idx {h X as} {ds : List D} {vs : List Value} (r : RpL h X as ds vs) : ∀ {i : Int} {d : D}, pyIdx ds i = some d → ∃ v, pyIdx vs i = some v ∧ Rp h X as d v
 | .ofNat _, _, e => r.get e
 | .negSucc k, d, e => by
  change (if k + 1 ≤ ds.length then ds[ds.length - (k + 1)]? else none) = some d at e
  show ∃ v, (if k + 1 ≤ vs.length then vs[vs.length - (k + 1)]? else none) = some v ∧ _
  rw [r.length]
  split at e
  ·rw [if_pos (by assumption)]; exact r.get e
  ·cases e
theorem seqIndex_nat {k n : Nat} (h : k < n) : seqIndex? (k : Int) n = some k := by
 have h1 : (0 : Int) ≤ (k : Int) := Int.natCast_nonneg k
 unfold seqIndex?
 dsimp only
 rw [if_neg (Int.not_lt.mpr h1), if_pos (by rw [Bool.and_eq_true, decide_eq_true_eq, decide_eq_true_eq]; exact ⟨h1, Int.ofNat_lt.mpr h⟩)]
 rfl
theorem seqIndex_pyIdx {α : Type} {l : List α} : ∀ {i : Int} {x : α}, pyIdx l i = some x → ∃ j, seqIndex? i l.length = some j ∧ l[j]? = some x ∧ -(l.length : Int) ≤ i ∧ i < l.length
 | .ofNat k, x, e =>
  have hl := (List.getElem?_eq_some_iff.mp e).1
  ⟨k, seqIndex_nat hl, e, Int.le_trans (Int.neg_le_neg (Int.natCast_nonneg _)) (Int.natCast_nonneg k), Int.ofNat_lt.mpr hl⟩
 | .negSucc k, x, e => by
  change (if k + 1 ≤ l.length then l[l.length - (k + 1)]? else none) = some x at e
  split at e
  ·have hk : k + 1 ≤ l.length := by assumption
   have hz : Int.negSucc k + (l.length : Int) = ((l.length - (k + 1) : Nat) : Int) := by rw [Int.ofNat_sub hk, Int.add_comm]; rfl
   refine ⟨l.length - (k + 1), ?_, e, ?_, Int.lt_of_lt_of_le (Int.negSucc_lt_zero k) (Int.natCast_nonneg _)⟩
   ·unfold seqIndex?
    dsimp only
    rw [if_pos (Int.negSucc_lt_zero k), hz, if_pos (by rw [Bool.and_eq_true, decide_eq_true_eq, decide_eq_true_eq]; exact ⟨Int.natCast_nonneg _, Int.ofNat_lt.mpr (List.getElem?_eq_some_iff.mp e).1⟩)]
    rfl
   ·exact Int.neg_le_neg (Int.ofNat_le.mpr hk)
  ·cases e
end
section
section
variable {Γ : Gl prog w} {C : Cx} {st : St}
noncomputable def itemsD (mu : List (List D)) : D → Option (List D)
 | .lst l => some l
 | .mut i => mu[i]?
 | _ => none
theorem Rel.itemsP {h as} (R : Rel Γ C h as st) {d : D} {v : Value} {l : List D} (r : Rp h C.X as d v) (e : itemsD st.mu d = some l) :
  ∃ a vs, v = .ref a ∧ h.PlainList a vs ∧ l.length ≤ 1048576 ∧ RpL h C.X as l vs.toList := by
 cases d <;> first | exact no_some e | (replace e := Option.some.inj e) | simp only [itemsD] at e
 case lst l' => subst e; obtain ⟨a, vs, rfl, _, _, hl, b, q⟩ := r; exact ⟨a, vs, rfl, hl, b, q⟩
 case «mut» i =>
  obtain ⟨a, ha, rfl⟩ := r
  obtain ⟨a', vs, ha', hl, b, q⟩ := MuIs.get R.mus e
  rw [ha] at ha'; cases ha'
  exact ⟨a, vs, rfl, hl, b, q⟩
theorem Rel.items {h as} (R : Rel Γ C h as st) {d : D} {v : Value} {l : List D} (r : Rp h C.X as d v) (e : itemsD st.mu d = some l) :
  ∃ a vs, v = .ref a ∧ h.IsList a vs ∧ l.length ≤ 1048576 ∧ RpL h C.X as l vs.toList := by
 obtain ⟨a, vs, h1, h2, h3, h4⟩ := R.itemsP r e
 exact ⟨a, vs, h1, h2.isList, h3, h4⟩
theorem RpL.isEmpty {h X as} {ds : List D} {vs : Array Value} (r : RpL h X as ds vs.toList) : vs.isEmpty = ds.isEmpty := by
 have := r.length
 rw [Array.length_toList] at this
 rw [Array.isEmpty, this]
 cases ds <;> simp
theorem RpL.size {h X as} {ds : List D} {vs : Array Value} (r : RpL h X as ds vs.toList) : vs.size = ds.length := by
 have := r.length
 rwa [Array.length_toList] at this
noncomputable def truthyD (mu : List (List D)) : D → Option Bool
 | .none => some false
 | .bool b => some b
 | .int i => some (!decide (i = 0))
 | .str s => some (!s.isEmpty)
 | .tup l => some (!l.isEmpty)
 | .lst l => some (!l.isEmpty)
 | .mut i => (mu[i]?).map fun l => !l.isEmpty
 | _ => none
theorem truthy_is {s : Shared} {as : List Addr} {d : D} {v : Value} {b : Bool} {Q : Bool → Shared → Prop} {E : Value → Shared → Prop} (R : Rel Γ C s.heap as st) (r : Rp s.heap C.X as d v) (e : truthyD st.mu d = some b)
  (q : ∀ t, Q b { s with toks := t }) : wpAny (model prog w) C.A (truthy v) Q E s := by
 have lst : ∀ l, itemsD st.mu d = some l → b = (!l.isEmpty) → wpAny (model prog w) C.A (truthy v) Q E s := fun l e' eb => by
  obtain ⟨a, vs, rfl, hl, bl, ql⟩ := R.items r e'
  refine wpAny_truthy_list hl ?_ ?_
  ·rw [ql.size]; omega
  ·rw [ql.isEmpty, ← eb]; exact q _
 cases d <;> first | exact no_some e | (replace e := Option.some.inj e) | simp only [truthyD] at e
 case none => cases r; subst e; exact truthy_none (q _)
 case bool => cases r; subst e; exact wpAny_truthy_bool (q _)
 case int => obtain ⟨_, rfl⟩ := r; subst e; exact PyProof.Rows.truthy_int (by rw [show (_ != (0 : Int)) = !decide (_ = (0 : Int)) from rfl]; exact q _)
 case str l =>
  obtain ⟨⟨_, rfl⟩, bl⟩ := r
  refine PySem.P.truthy_str (by rw [S_len]; omega) ?_
  rw [S_len, show (((l.length : Nat) : Int) != 0) = b from ?_]
  ·exact q _
  ·subst e; cases l <;> simp; omega
 case tup l =>
  obtain ⟨a, vs, rfl, ht, bl, ql⟩ := r
  refine truthy_tuple ht ?_ ?_
  ·rw [ql.size]; omega
  ·rw [ql.isEmpty, e]; exact q _
 case lst l => exact lst l rfl e.symm
 case «mut» i =>
  cases e' : st.mu[i]? with
  | none => rw [e'] at e; simp at e
  | some l => rw [e'] at e; exact lst l e' (by simpa using e.symm)
noncomputable def plainT : Expr → Bool
 | .UnaryOp .Not _ _ => false
 | .BoolOp _ _ _ => false
 | .IfExp _ _ _ _ => false
 | .Compare _ _ _ _ => false
 | _ => true
theorem isTrue_of_plain {e : Expr} {env : Env} {whole : Sem Value} (h : plainT e = true) : isTrue e env whole = (do let v ← whole; standAt e.pos; holding [v] (truthy v)) := by
 cases e <;> first | rfl | exact no_tf h | skip
 case UnaryOp op x pos => cases op <;> first | rfl | exact no_tf h
theorem AT_plain {e : Expr} {Φ : Bool → St → Prop} (hp : plainT e = true) (h : AE Γ C e st fun d st' => ∃ b, truthyD st'.mu d = some b ∧ Φ b st') : AT Γ C e st Φ := by
 intro s as Q E R k
 refine isTrue_plain (h s as _ E R ?_) (isTrue_of_plain hp)
 intro v d st' as' s' ⟨b, e, f⟩ R' r x m
 exact truthy_is R' r e fun t => k b b st' as' { s' with toks := t } f R' rfl x (m.trans .of)
theorem AT_not {x pos} {Φ : Bool → St → Prop} (h : AT Γ C x st fun b st' => Φ (!b) st') : AT Γ C (.UnaryOp .Not x pos) st Φ := by
 intro s as Q E R k
 refine isTrue_not (h s as _ E R ?_)
 intro c b st' as' s' f R' r x m
 cases r
 exact k (!c) (!c) st' as' s' f R' rfl x m
noncomputable def ATs (Γ : Gl prog w) (C : Cx) (op : BoolOp) (es : List Expr) (st : St) (Φ : Bool → St → Prop) : Prop := ∀ pos whole, AW Γ C (isTrue (.BoolOp op es pos) C.env whole) relB st Φ
theorem ATs_and_nil {Φ : Bool → St → Prop} (h : Φ true st) : ATs Γ C .And [] st Φ := fun _ _ => AW.pure h fun _ _ _ _ _ q => isTrue_and_nil (q true _ rfl)
theorem ATs_or_nil {Φ : Bool → St → Prop} (h : Φ false st) : ATs Γ C .Or [] st Φ := fun _ _ => AW.pure h fun _ _ _ _ _ q => isTrue_or_nil (q false _ rfl)
theorem ATs_and {x rest} {Φ : Bool → St → Prop} (h : AT Γ C x st fun b st' => (b = true → ATs Γ C .And rest st' Φ) ∧ (b = false → Φ false st')) : ATs Γ C .And (x :: rest) st Φ := by
 intro pos whole s as Q E R k
 refine isTrue_and (h s as _ E R ?_)
 intro c b st' as' s' f R' r x m
 cases r
 cases c with
 | false => exact k false false st' as' s' (f.2 rfl) R' rfl x m
 | true => exact f.1 rfl pos whole s' as' _ E R' fun y b st2 as2 s2 f2 R2 r2 x2 m2 => k y b st2 as2 s2 f2 R2 r2 (x.trans R' x2) (m.trans m2)
theorem ATs_or {x rest} {Φ : Bool → St → Prop} (h : AT Γ C x st fun b st' => (b = true → Φ true st') ∧ (b = false → ATs Γ C .Or rest st' Φ)) : ATs Γ C .Or (x :: rest) st Φ := by
 intro pos whole s as Q E R k
 refine isTrue_or (h s as _ E R ?_)
 intro c b st' as' s' f R' r x m
 cases r
 cases c with
 | true => exact k true true st' as' s' (f.1 rfl) R' rfl x m
 | false => exact f.2 rfl pos whole s' as' _ E R' fun y b st2 as2 s2 f2 R2 r2 x2 m2 => k y b st2 as2 s2 f2 R2 r2 (x.trans R' x2) (m.trans m2)
theorem AT_BoolOp {op es pos} {Φ : Bool → St → Prop} (h : ATs Γ C op es st Φ) : AT Γ C (.BoolOp op es pos) st Φ := h pos _
theorem AE_IfExp {test body orelse pos} {Φ : D → St → Prop} (h : AT Γ C test st fun b st' => (b = true → AE Γ C body st' Φ) ∧ (b = false → AE Γ C orelse st' Φ)) : AE Γ C (.IfExp test body orelse pos) st Φ := by
 intro s as Q E R k
 refine wpAny_IfExp (h s as _ E R ?_)
 intro c b st' as' s' f R' r x m
 cases r
 have kk : ∀ (y : Value) (d : D) (st2 : St) (as2 : List Addr) (s2 : Shared), Φ d st2 → Rel Γ C s2.heap as2 st2 → relV C s2.heap as2 d y → Ext C s'.heap as' s2.heap as2 → Sm s' s2 → Q y s2 := fun y d st2 as2 s2 f2 R2 r2 x2 m2 => k y d st2 as2 s2 f2 R2 r2 (x.trans R' x2) (m.trans m2)
 cases c with
 | true => exact f.1 rfl s' as' _ E R' kk
 | false => exact f.2 rfl s' as' _ E R' kk
theorem AT_Cmp {l op r pos} {Φ : Bool → St → Prop} (h : AE Γ C l st fun d1 st1 => AE Γ C r st1 fun d2 st2 => AV2 Γ C (compareOp op) d1 d2 st2 fun d st3 => ∃ b, d = .bool b ∧ Φ b st3)
  (hm : behindInMarks op r = false := by rfl) : AT Γ C (.Compare l [op] [r] pos) st Φ := by
 intro s as Q E R k
 refine wpAny_isTrue_Compare1 (h s as _ E R ?_) hm
 intro v1 d1 st1 as1 s1 h1 R1 p1 x1 m1
 refine h1 s1 as1 _ E R1 ?_
 intro v2 d2 st2 as2 s2 h2 R2 p2 x2 m2
 refine h2 s2 as2 (v1, v2) _ E R2 ⟨p1.ext R1 x2, p2⟩ ?_
 rintro v d st3 as3 s3 ⟨b, rfl, f⟩ R3 p3 x3 m3
 cases p3
 exact wpAny_truthy_bool (k b b st3 as3 s3 f R3 rfl ((x1.trans R1 x2).trans R2 x3) (m1.trans (m2.trans m3)))
theorem AT_Cmp3 {l op op' r r' pos} {Φ : Bool → St → Prop} (h : AE Γ C l st fun d1 st1 => AE Γ C r st1 fun d2 st2 => AV2 Γ C (compareOp op) d1 d2 st2 fun d st3 => ∃ b, d = .bool b ∧
   (b = false → Φ false st3) ∧ (b = true → AE Γ C r' st3 fun d4 st4 => AV2 Γ C (compareOp op') d2 d4 st4 fun d st5 => ∃ b, d = .bool b ∧ Φ b st5))
  (hm : lastMarks [op, op'] [r, r'] = false := by rfl) : AT Γ C (.Compare l [op, op'] [r, r'] pos) st Φ := by
 intro s as Q E R k
 refine isTrue_chain (h s as _ E R ?_) hm
 intro v1 d1 st1 as1 s1 h1 R1 p1 x1 m1
 refine test_link (h1 s1 as1 _ E R1 ?_)
 intro v2 d2 st2 as2 s2 h2 R2 p2 x2 m2
 refine h2 s2 as2 (v1, v2) _ E R2 ⟨p1.ext R1 x2, p2⟩ ?_
 rintro v d st3 as3 s3 ⟨b, rfl, f1, f2⟩ R3 p3 x3 m3
 cases p3
 refine wpAny_truthy_bool ?_
 cases b with
 | false => exact k false false st3 as3 s3 (f1 rfl) R3 rfl ((x1.trans R1 x2).trans R2 x3) (m1.trans (m2.trans m3))
 | true =>
  refine test_last (f2 rfl s3 as3 _ E R3 ?_)
  intro v4 d4 st4 as4 s4 h4 R4 p4 x4 m4
  refine h4 s4 as4 (v2, v4) _ E R4 ⟨(p2.ext R2 x3).ext R3 x4, p4⟩ ?_
  rintro v d st5 as5 s5 ⟨b, rfl, f⟩ R5 p5 x5 m5
  cases p5
  exact wpAny_truthy_bool (k b b st5 as5 s5 f R5 rfl ((((x1.trans R1 x2).trans R2 x3).trans R3 x4).trans R4 x5) (m1.trans (m2.trans (m3.trans (m4.trans m5)))))
end
end
section
section
variable {Γ : Gl prog w} {C : Cx} {st : St}
theorem cps {G : Prop} (h : ∀ P : Prop, (G → P) → P) : G := h G id
/-! new objects -/
theorem none_end (h : Heap) : h.get? h.objs.size = Option.none := by
 cases e : h.get? h.objs.size with
 | none => rfl
 | some o => exact absurd (Heap.lt_size e) (Nat.lt_irrefl _)
theorem Rel.new_none {h as} (R : Rel Γ C h as st) {a : Addr} (e : h.get? a = Option.none) : C.h₀.get? a = Option.none :=
 Option.eq_none_iff_forall_ne_some.mpr fun o q => (Classical.em (C.Ex a)).elim (fun hx => (R.exA a hx).elim fun _ z => z.elim fun _ z => no_some (e.symm.trans z.1)) fun hx => no_some (e.symm.trans (R.base a o q hx))
theorem Rel.end_new {h as} (R : Rel Γ C h as st) : C.h₀.get? h.objs.size = Option.none ∧ h.objs.size ∉ as ∧ ¬ C.X h.objs.size := by
 have n := R.new_none (none_end h)
 refine ⟨n, fun ha => ?_, fun hx => ?_⟩
 ·obtain ⟨o, _, _, ho, _⟩ := R.alive ha
  exact no_some ((none_end h).symm.trans ho)
 ·exact no_tf ((congrArg Option.isSome n).symm.trans (R.c.xin _ hx).1)
theorem RpL.one {h X as d vs} (r : RpL h X as [d] vs) : ∃ v, vs = [v] ∧ Rp h X as d v := by
 cases vs with
 | nil => exact r.elim
 | cons v vs => cases vs with
  | nil => exact ⟨v, rfl, r.1⟩
  | cons => exact r.2.elim
theorem RpL.two {h X as d e vs} (r : RpL h X as [d, e] vs) : ∃ v u, vs = [v, u] ∧ Rp h X as d v ∧ Rp h X as e u := by
 cases vs with
 | nil => exact r.elim
 | cons v vs => exact (RpL.one r.2).elim fun u z => ⟨v, u, z.1 ▸ rfl, r.1, z.2⟩
theorem RpL.three {h X as d e f vs} (r : RpL h X as [d, e, f] vs) : ∃ v u x, vs = [v, u, x] ∧ Rp h X as d v ∧ Rp h X as e u ∧ Rp h X as f x := by
 cases vs with
 | nil => exact r.elim
 | cons v vs => exact (RpL.two r.2).elim fun u z => z.elim fun x z => ⟨v, u, x, z.1 ▸ rfl, r.1, z.2⟩
theorem RpL.four {h X as d e f g vs} (r : RpL h X as [d, e, f, g] vs) : ∃ v u x y, vs = [v, u, x, y] ∧ Rp h X as d v ∧ Rp h X as e u ∧ Rp h X as f x ∧ Rp h X as g y := by
 cases vs with
 | nil => exact r.elim
 | cons v vs => exact (RpL.three r.2).elim fun u z => z.elim fun x z => z.elim fun y z => ⟨v, u, x, y, z.1 ▸ rfl, r.1, z.2⟩
theorem Rel.push {h as} (R : Rel Γ C h as st) (o : Obj) : Rel Γ C (h.push o) as st ∧ Ext C h as (h.push o) as :=
 ⟨R.sub fun _ _ e => Heap.get?_push_of_some o e, Ext.sub fun _ _ e => Heap.get?_push_of_some o e⟩
theorem Lean1.addMu {h h' : Heap} {X as} {b : Addr} (k : ∀ a o, h.get? a = some o → h'.get? a = some o) (hb : h.get? b = Option.none) : Lean1 h X as h' X (as ++ [b]) := by
 refine ⟨fun a o xs n e _ _ => k a o e, fun a xs hl n1 n2 => ⟨n1, fun ha => ?_⟩, fun i a e => ?_, fun a o e _ => k a o e⟩
 ·exact (List.mem_append.mp ha).elim n2 fun q => hl.elim fun o z => no_some (hb.symm.trans (List.mem_singleton.mp q ▸ z.1))
 ·exact (List.getElem?_append_left (List.getElem?_eq_some_iff.mp e).1).trans e
theorem MuIs.snoc {h X as} {b : Addr} {ds : List D} {vs : Array Value} (hl : h.PlainList b vs) (hn : ds.length ≤ 1048576) (r : RpL h X as ds vs.toList) {l : List Addr} {m : List (List D)} (q : MuIs h X as l m) : MuIs h X as (l ++ [b]) (m ++ [ds]) := by
 induction q with
 | nil => exact .cons vs hl hn r .nil
 | cons vs' h1 h2 h3 _ ih => exact .cons vs' h1 h2 h3 ih
theorem Rel.newMu {h as} (R : Rel Γ C h as st) {ds : List D} {vs : List Value} (hn : ds.length ≤ 1048576) (r : RpL h C.X as ds vs) :
  Rel Γ C (h.push { cls := .type "list", data := .seq vs.toArray }) (as ++ [h.objs.size]) { st with mu := st.mu ++ [ds] } ∧
  Ext C h as (h.push { cls := .type "list", data := .seq vs.toArray }) (as ++ [h.objs.size]) := by
 have k : ∀ a o, h.get? a = some o → (h.push { cls := .type "list", data := .seq vs.toArray }).get? a = some o := fun _ _ e => Heap.get?_push_of_some _ e
 have K : Lean1 h C.X as (h.push { cls := .type "list", data := .seq vs.toArray }) C.X (as ++ [h.objs.size]) := Lean1.addMu k (none_end h)
 have E := R.end_new
 have in1 : ∀ {a b : Addr}, a ∈ as ++ [b] → a ∈ as ∨ a = b := fun ha => (List.mem_append.mp ha).imp id List.mem_singleton.mp
 exact ⟨⟨R.c, fun a o e n => k a o (R.base a o e n), fun a hx => (R.exA a hx).imp fun o => Exists.imp fun vs q => ⟨k a o q.1, q.2⟩, R.ns.imp fun m => Exists.imp fun o => Exists.imp fun es => Exists.imp fun ep q => ⟨k _ o q.1, q.2⟩,
  fun c hc => (R.cells c hc).imp fun o => Exists.imp fun v q => ⟨k _ o q.1, q.2⟩, fun x d e => (R.vars x d e).imp fun v q => ⟨q.1.sub fun a o e _ _ => k a o e, q.2.lift K⟩,
  MuIs.snoc (vs := vs.toArray) ⟨_, Heap.get?_push_size h rfl⟩ hn (r.lift K) (R.mus.lift K fun a _ xs => Exists.imp fun n ho => k a _ ho), fun a ha => (in1 ha).elim (R.muNew a) (fun q => q ▸ E.1),
  List.nodup_append.mpr ⟨R.nodup, List.Pairwise.cons (fun _ h => nomatch h) .nil, fun a ha b hb e => E.2.1 (List.mem_singleton.mp hb ▸ e ▸ ha)⟩, R.inv.imp fun F q => ⟨q.1, fun p hp => ⟨k _ _ (q.2 p hp).1, (q.2 p hp).2⟩⟩⟩, ⟨fun a o e _ _ _ _ => k a o e, ⟨_, rfl⟩, fun a ha => (in1 ha).imp id fun q : a = h.objs.size => q ▸ none_end h⟩⟩
theorem Rel.newLst {h as} (R : Rel Γ C h as st) {ds : List D} {vs : List Value} (hn : ds.length ≤ 1048576) (r : RpL h C.X as ds vs) :
  Rp (h.push { cls := .type "list", data := .seq vs.toArray }) C.X as (.lst ds) (.ref h.objs.size) := by
 have E := R.end_new
 exact ⟨_, vs.toArray, rfl, E.2.2, E.2.1, ⟨_, Heap.get?_push_size h rfl⟩, hn, r.ext R (R.push _).2⟩
theorem Rel.newTup {h as} (R : Rel Γ C h as st) {ds : List D} {vs : List Value} (hn : ds.length ≤ 1048576) (r : RpL h C.X as ds vs) :
  Rp (h.push { cls := .type "tuple", data := .seq vs.toArray }) C.X as (.tup ds) (.ref h.objs.size) := by
 exact ⟨_, vs.toArray, rfl, ⟨_, Heap.get?_push_size h rfl, rfl, _, rfl⟩, hn, r.ext R (R.push _).2⟩
/-! several expressions -/
noncomputable def AEs (Γ : Gl prog w) (C : Cx) : List Expr → St → (List D → St → Prop) → Prop
 | [], st, Φ => Φ [] st
 | e :: es, st, Φ => AE Γ C e st fun d st1 => AEs Γ C es st1 fun ds st2 => Φ (d :: ds) st2
theorem AEs.run : ∀ {es : List Expr} {st : St} {Φ : List D → St → Prop}, AEs Γ C es st Φ → AW Γ C (spliced (es.map fun e => (false, eval e C.env))) (relL C) st Φ
 | [], _, _, h => AW.pure h fun _ _ _ _ _ q => spliced_nil (q [] _ (by simp [relL, RpL]))
 | e :: es, st, Φ, h => by
  intro s as Q E R k
  refine spliced_cons (h s as _ E R ?_)
  intro v d st1 as1 s1 h1 R1 p1 x1 m1
  refine (AEs.run h1) s1 as1 _ E R1 ?_
  intro vs ds st2 as2 s2 f R2 p2 x2 m2
  exact k (v :: vs) (d :: ds) st2 as2 s2 f R2 (by simp only [relL, RpL]; exact ⟨p1.ext R1 x2, p2⟩) (x1.trans R1 x2) (m1.trans m2)
noncomputable def noStar : List Expr → Bool
 | [] => true
 | e :: r => !(Nat.beq e.ctorIdx 22) && noStar r
theorem star_plain {env : Env} : ∀ {es : List Expr}, noStar es = true → starEach es env = es.map fun e => (false, eval e env)
 | [], _ => rfl
 | e :: r, h => by
  cases e <;> first | exact congrArg (List.cons (false, eval _ env)) (star_plain (env := env) (es := r) h) | exact no_tf h
theorem back_plain {env : Env} {pos : Pos} {es : List Expr} (h : noStar es = true) : backTo pos (starEach es env) = es.map fun e => (false, eval e env) := by
 rw [star_plain h, backTo, List.map_map]
 rfl
theorem AE_Tuple {es k pos} {Φ : D → St → Prop} (hs : noStar es = true) (h : AEs Γ C es st fun ds st1 => ds.length ≤ 1048576 ∧ Φ (.tup ds) st1) : AE Γ C (.Tuple es k pos) st Φ := by
 intro s as Q E R kk
 refine wpAny_Tuple ?_
 rw [back_plain hs]
 refine h.run s as _ E R ?_
 intro vs ds st1 as1 s1 ⟨hn, f⟩ R1 p1 x1 m1
 refine ⟨by rw [p1.length, sl_is]; omega, ?_⟩
 exact kk _ (.tup ds) st1 as1 { s1 with heap := s1.heap.push _ } f (R1.push _).1 (R1.newTup hn p1) (x1.trans R1 (R1.push _).2) (m1.trans .of)
theorem AE_List {es pos} {Φ : D → St → Prop} (hs : noStar es = true) (h : AEs Γ C es st fun ds st1 => ds.length ≤ 1048576 ∧ Φ (.lst ds) st1) : AE Γ C (.List es pos) st Φ := by
 intro s as Q E R kk
 refine wpAny_List ?_
 rw [back_plain hs]
 refine h.run s as _ E R ?_
 intro vs ds st1 as1 s1 ⟨hn, f⟩ R1 p1 x1 m1
 refine ⟨by rw [p1.length, sl_is]; omega, ?_⟩
 exact kk _ (.lst ds) st1 as1 { s1 with heap := s1.heap.push _ } f (R1.push _).1 (R1.newLst hn p1) (x1.trans R1 (R1.push _).2) (m1.trans .of)
theorem AE_ListMut {es pos} {Φ : D → St → Prop} (hs : noStar es = true) (h : AEs Γ C es st fun ds st1 => ds.length ≤ 1048576 ∧ Φ (.mut st1.mu.length) { st1 with mu := st1.mu ++ [ds] }) : AE Γ C (.List es pos) st Φ := by
 intro s as Q E R kk
 refine wpAny_List ?_
 rw [back_plain hs]
 refine h.run s as _ E R ?_
 intro vs ds st1 as1 s1 ⟨hn, f⟩ R1 p1 x1 m1
 refine ⟨by rw [p1.length, sl_is]; omega, ?_⟩
 have N := R1.newMu hn p1
 refine kk _ (.mut st1.mu.length) _ (as1 ++ [s1.heap.objs.size]) { s1 with heap := s1.heap.push _ } f N.1 ?_ (x1.trans R1 N.2) (m1.trans .of)
 exact ⟨_, by rw [← R1.mus.length]; simp, rfl⟩
/-! powers -/
section
variable {a b : Int} {Φ : D → St → Prop}
theorem op_pow_int (h : Φ (.int (a ^ b.toNat)) st) (hb : 0 ≤ b) (hb2 : b ≤ 1000000) (ha : a.natAbs < 2 ^ 64) : AV2 Γ C (binaryOp .Pow) (.int a) (.int b) st Φ := by
 refine AV2.pure h fun s as v1 v2 Q E R r1 r2 q => ?_; obtain ⟨_, rfl⟩ := r1; obtain ⟨_, rfl⟩ := r2; exact pow_int_small hb hb2 ha (q _ _ ⟨_, rfl⟩)
end
/-! items and slices -/
noncomputable def subD (mu : List (List D)) : D → Int → Option D
 | .str s, k => (pyIdx s k).map fun c => .str [c]
 | .tup l, k => pyIdx l k
 | .lst l, k => pyIdx l k
 | .mut i, k => (mu[i]?).bind fun l => pyIdx l k
 | _, _ => none
noncomputable def noSl (e : Expr) : Bool := !(Nat.beq e.ctorIdx 26)
theorem subD_inv {mu d k r} (e : subD mu d k = some r) : (∃ l c, d = .str l ∧ pyIdx l k = some c ∧ r = .str [c]) ∨ (∃ l, d = .tup l ∧ pyIdx l k = some r) ∨ ∃ l, itemsD mu d = some l ∧ pyIdx l k = some r := by
 cases d with
 | str l => obtain ⟨c, e1, e2⟩ := Option.map_eq_some_iff.mp e; exact .inl ⟨l, c, rfl, e1, e2.symm⟩
 | tup l => exact .inr (.inl ⟨l, rfl, e⟩)
 | lst l => exact .inr (.inr ⟨l, rfl, e⟩)
 | «mut» i => obtain ⟨l, e1, e2⟩ := Option.bind_eq_some_iff.mp e; exact .inr (.inr ⟨l, e1, e2⟩)
 | _ => exact no_some e
theorem pyIdx_bounds {α : Type} {l : List α} {i : Int} {x : α} (e : pyIdx l i = some x) (hl : l.length ≤ 1048576) : -(2 ^ 63 : Int) ≤ i ∧ i < 2 ^ 63 := by
 obtain ⟨_, _, _, h1, h2⟩ := seqIndex_pyIdx e
 have hb : (l.length : Int) ≤ 1048576 := Int.ofNat_le.mpr hl
 exact ⟨Int.le_trans (Int.le_trans (by decide) (Int.neg_le_neg hb)) h1, Int.lt_of_lt_of_le h2 (Int.le_trans hb (by decide))⟩
theorem pyIdx_last {α : Type} (l : List α) : pyIdx l (-1) = l.getLast? := by
 show (if 0 + 1 ≤ l.length then l[l.length - (0 + 1)]? else none) = _
 rw [List.getLast?_eq_getElem?]
 split
 ·rfl
 ·have h : l = [] := List.eq_nil_of_length_eq_zero (Nat.lt_one_iff.mp (Nat.lt_of_not_le (by assumption)))
  rw [h]; rfl
theorem sub_map {α : Type} {f : α → D} {l : List α} {k : Nat} {x : α} {mu} (h : l[k]? = some x) : subD mu (.lst (l.map f)) (k : Int) = some (f x) :=
 (List.getElem?_map (f := f) (l := l) (i := k)).trans (congrArg _ h)
theorem sub_str {mu : List (List D)} {l : List Nat} {n c : Nat} (h : l[n]? = some c) : subD mu (.str l) (n : Int) = some (.str [c]) := congrArg (Option.map fun c => D.str [c]) h
theorem sub_lastS {mu : List (List D)} {l : List Nat} {c : Nat} (h : l.getLast? = some c) : subD mu (.str l) (-1) = some (.str [c]) := congrArg (Option.map fun c => D.str [c]) ((pyIdx_last l).trans h)
theorem sub_last {mu : List (List D)} {l : List D} {d : D} (h : l.getLast? = some d) : subD mu (.lst l) (-1) = some d := (pyIdx_last l).trans h
theorem slice_d {α : Type} (l : List α) (a b : Nat) : pySlice l (some (a : Int)) (some (b : Int)) = (l.drop a).take (b - a) := List.drop_take
theorem slice_n {α : Type} (l : List α) (a : Nat) : pySlice l (some (a : Int)) none = l.drop a := congrArg (List.drop a) List.take_length
theorem slice_1 {α : Type} (l : List α) : pySlice l (some 1) none = l.drop 1 := slice_n l 1
theorem slice_to {α : Type} (l : List α) (b : Nat) : pySlice l none (some (b : Int)) = l.take b := rfl
theorem slice_m1 {α : Type} (l : List α) : pySlice l none (some (-1)) = l.dropLast := List.dropLast_eq_take.symm
theorem slice_from {α : Type} {a b : List α} {k : Nat} (h : b.length = k + 1) : pySlice (a ++ b) (some (-((k + 1 : Nat) : Int))) none = b := by
 show ((a ++ b).take (a ++ b).length).drop ((a ++ b).length - (k + 1)) = b
 rw [List.take_length, List.length_append, h, Nat.add_sub_cancel, List.drop_left]
theorem slice_mid {α : Type} {a b c : List α} {j k : Nat} (hj : a.length = j) (h : c.length = k) (hk : k ≠ 0) : pySlice (a ++ b ++ c) (some (j : Int)) (some (-(k : Int))) = b := by
 subst hj
 cases k with
 | zero => exact absurd rfl hk
 | succ k =>
  show ((a ++ b ++ c).take ((a ++ b ++ c).length - (k + 1))).drop a.length = b
  rw [List.length_append, h, Nat.add_sub_cancel, List.take_left, List.drop_left]
theorem tail_item {value slice : Expr} {o i : Value} {T id : String} {s : Shared} {A : Around} {E : Value → Shared → Prop} {Q : Value → Shared → Prop} (hns : noSl slice = true) (hT : s.TypeIs o T)
  (hl : typeLookup (.type T) "__getitem__" = pure (some (.builtin id))) (hg : wpAny (model prog w) A (getItem o i) Q E s) : wpAny (model prog w) A (subscriptTail value slice o i) Q E s := by
 refine tail_any (ops := [o, i]) hT hl hg ?_
 cases slice <;> first | rfl | exact no_tf hns
theorem item_list {a : Addr} {vs : Array Value} {k : Int} {t2 : Tok} {x : Value} {s : Shared} {A : Around} {E : Value → Shared → Prop} {Q : Value → Shared → Prop} (hl : s.heap.IsList a vs) (hx : pyIdx vs.toList k = some x) (bb : -(2 ^ 63 : Int) ≤ k ∧ k < 2 ^ 63) (q : Q x s) :
  wpAny (model prog w) A (getItem (.ref a) (.int k t2)) Q E s := by
 cases k with
 | ofNat k => exact wpAny_getItem_list hl (Int.natCast_nonneg k) bb.2 (by rw [← Array.getElem?_toList]; exact hx) q
 | negSucc k =>
  change (if k + 1 ≤ vs.toList.length then vs.toList[vs.toList.length - (k + 1)]? else none) = some x at hx
  rw [Array.length_toList] at hx
  split at hx
  ·have hk : k + 1 ≤ vs.size := by assumption
   have hs : Int.negSucc k + (vs.size : Int) = ((vs.size - (k + 1) : Nat) : Int) := by rw [Int.ofNat_sub hk, Int.add_comm]; rfl
   exact wpAny_getItem_list_neg hl (Int.negSucc_lt_zero k) (Int.neg_le_neg (Int.ofNat_le.mpr hk)) bb.1 (by rw [hs, Int.toNat_natCast]; simpa using hx) q
  ·cases hx
theorem sub_item {value slice : Expr} {s : Shared} {as : List Addr} {d r : D} {v u : Value} {k : Int} {Q : Value → Shared → Prop} {E : Value → Shared → Prop} (hns : noSl slice = true)
  (R : Rel Γ C s.heap as st) (r1 : Rp s.heap C.X as d v) (r2 : Rp s.heap C.X as (.int k) u) (e : subD st.mu d k = some r)
  (q : ∀ y t, Rp s.heap C.X as r y → Q y { s with toks := t }) : wpAny (model prog w) C.A (subscriptTail value slice v u) Q E s := by
 obtain ⟨t2, rfl⟩ := r2
 refine hide fun P g => ?_
 rcases subD_inv e with ⟨l, c, rfl, e', rfl⟩ | ⟨l, rfl, e⟩ | ⟨l, e', e2⟩
 ·obtain ⟨⟨t, rfl⟩, bl⟩ := r1
  obtain ⟨j, hj, hx, _, _⟩ := seqIndex_pyIdx e'
  have bb := pyIdx_bounds e' bl
  refine g (tail_item hns (typeIs_str s _ t) PySem.F.slot_str_getitem.lookup (PySem.P.getItem_str (c := c) ?_ ?_ (q _ _ ⟨⟨_, rfl⟩, show 1 ≤ 1048576 by decide⟩)))
  ·rw [Bool.or_eq_false_iff]; exact ⟨decide_eq_false (Int.not_lt.mpr bb.1), decide_eq_false (Int.not_le.mpr bb.2)⟩
  ·rw [S_len, hj]; simpa [S] using hx
 ·obtain ⟨a, vs, rfl, ht, bl, ql⟩ := r1
  obtain ⟨x, hx, hr⟩ := ql.idx e
  obtain ⟨j, hj, hx', _, _⟩ := seqIndex_pyIdx hx
  have bb := pyIdx_bounds e bl
  exact g (tail_item hns ht.typeIs slot_tuple_getitem.lookup (PyProof.Rows.getItem_tuple ht bb.1 bb.2 (by rw [← Array.length_toList]; exact hj) (by rw [← Array.getElem?_toList]; exact hx') (q x s.toks hr)))
 ·obtain ⟨a, vs, rfl, hl, bl, ql⟩ := R.items r1 e'
  obtain ⟨x, hx, hr⟩ := ql.idx e2
  exact g (tail_item hns hl.typeIs slot_list_getitem.lookup (item_list hl hx (pyIdx_bounds e2 bl) (q x s.toks hr)))
theorem AE_Sub {value slice pos} {Φ : D → St → Prop} (hns : noSl slice = true)
  (h : AE Γ C value st fun d st1 => AE Γ C slice st1 fun i st2 => ∃ k r, i = .int k ∧ subD st2.mu d k = some r ∧ Φ r st2) : AE Γ C (.Subscript value slice pos) st Φ := by
 intro s as Q E R k
 refine Subscript_ (h s as _ E R ?_)
 intro v1 d1 st1 as1 s1 h1 R1 p1 x1 m1
 refine h1 s1 as1 _ E R1 ?_
 rintro v2 d2 st2 as2 s2 ⟨j, r, rfl, e, f⟩ R2 p2 x2 m2
 exact sub_item hns R2 (p1.ext R1 x2) p2 e fun y t hy => k y r st2 as2 { s2 with toks := t } f R2 hy (x1.trans R1 x2) (m1.trans (m2.trans .of))
/- slices -/
noncomputable def AO (Γ : Gl prog w) (C : Cx) (x : Option Expr) (st : St) (Φ : Option Int → St → Prop) : Prop :=
 match x with
 | none => Φ none st
 | some e => AE Γ C e st fun d st1 => ∃ k, d = .int k ∧ Φ (some k) st1
noncomputable def relO (_ : Heap) (_ : List Addr) (k : Option Int) (v : Value) : Prop := (∃ p : Option (Int × Tok), k = p.map (·.1) ∧ v = partValue p)
theorem AO.run {x : Option Expr} {Φ : Option Int → St → Prop} (h : AO Γ C x st Φ) : AW Γ C (evalPart x C.env) relO st Φ := by
 cases x with
 | none => exact AW.pure h fun _ _ _ _ _ q => evalPart_none_step (q _ _ ⟨none, rfl, rfl⟩)
 | some e =>
  intro s as Q E R k
  refine evalPart_some_step ((show AE Γ C e st _ from h) s as _ E R ?_)
  rintro v d st1 as1 s1 ⟨i, rfl, f⟩ R1 p1 x1 m1
  obtain ⟨t, rfl⟩ := p1
  exact k _ (some i) st1 as1 s1 f R1 ⟨some (i, t), rfl, rfl⟩ x1 m1
noncomputable def sliceD (mu : List (List D)) : D → Option Int → Option Int → Option D
 | .str s, a, b => some (.str (pySlice s a b))
 | .lst l, a, b => some (.lst (pySlice l a b))
 | .mut i, a, b => (mu[i]?).map fun l => .lst (pySlice l a b)
 | _, _, _ => none
theorem full_slice {α : Type} {l : List α} {A B : Nat} (hA : A ≤ l.length) (hB : B ≤ l.length) (h : B - A = l.length) : (l.take B).drop A = l := by
 have e : B = l.length := Nat.le_antisymm hB (h ▸ Nat.sub_le B A)
 subst e
 rw [List.take_length]
 cases A with
 | zero => rfl
 | succ A => exact absurd h (Nat.ne_of_lt (Nat.sub_lt_of_pos_le (Nat.succ_pos A) hA))
theorem strSlice_is (l : List Nat) (p q : Option Int) : (if ((1 : Int) == 1 && (Builtin.Str.strSliceIndices p q 1 l.length).length == l.length) = true then S l else ⟨((Builtin.Str.strSliceIndices p q 1 l.length).filterMap ((S l).cps[·]?)).toArray⟩) = S (pySlice l p q) := by
 have hi : Builtin.Str.strSliceIndices p q 1 l.length = sliceRange ((min (loI p l.length) l.length : Nat) : Int) ((min (hiI q l.length) l.length : Nat) : Int) 1 := congrArg (fun b : Int × Int × Int => sliceRange b.1 b.2.1 1) (bounds_one p q l.length)
 have e : (Builtin.Str.strSliceIndices p q 1 l.length).filterMap ((S l).cps[·]?) = pySlice l p q := by
  have h1 : (fun i : Nat => (S l).cps[i]?) = fun i => l[i]? := by funext i; simp [S]
  rw [h1, hi]
  exact pick_one l p q
 rw [e]
 split
 ·rename_i hc
  rw [hi, sliceRange_one, List.length_map, List.length_range] at hc
  exact congrArg S ((take_min l (loI p l.length) (hiI q l.length)).symm.trans (full_slice (Nat.min_le_right ..) (Nat.min_le_right ..) (beq_iff_eq.mp hc))).symm
 ·rfl
theorem sliceD_inv {mu d a b r} (e : sliceD mu d a b = some r) : (∃ l, d = .str l ∧ r = .str (pySlice l a b)) ∨ ∃ l, itemsD mu d = some l ∧ r = .lst (pySlice l a b) := by
 cases d with
 | str l => exact .inl ⟨l, rfl, (Option.some.inj e).symm⟩
 | lst l => exact .inr ⟨l, rfl, (Option.some.inj e).symm⟩
 | «mut» i => obtain ⟨l, e', e⟩ := Option.map_eq_some_iff.mp e; exact .inr ⟨l, e', e.symm⟩
 | _ => exact no_some e
theorem AE_Slice {value lo hi p pos} {Φ : D → St → Prop}
  (h : AE Γ C value st fun d st1 => AO Γ C lo st1 fun a st2 => AO Γ C hi st2 fun b st3 => ∃ r, sliceD st3.mu d a b = some r ∧ Φ r st3) : AE Γ C (.Subscript value (.Slice lo hi none p) pos) st Φ := by
 intro s as Q E R k
 have fin : ∀ {s : Shared} {o i : Value}, ItemOn (model prog w) C.A E o i Q s → wpAny (model prog w) C.A (subscriptTail value (.Slice lo hi none p) o i) Q E s := fun ⟨T, id, hl, hT, hg⟩ => tail_any (ops := [_, _]) hT hl hg rfl
 refine Subscript_ (h s as _ E R ?_)
 intro v1 d1 st1 as1 s1 h1 R1 p1 x1 m1
 refine wpAny_Slice (h1.run s1 as1 _ E R1 ?_)
 intro v2 a st2 as2 s2 h2 R2 z x2 m2
 refine cps fun P g => ?_
 obtain ⟨pa, rfl, rfl⟩ := z
 refine g ?_
 clear g P
 refine h2.run s2 as2 _ E R2 ?_
 intro v3 b st3 as3 s3 y R3 z x3 m3
 refine cps fun P g => ?_
 obtain ⟨r, e, f⟩ := y
 obtain ⟨pb, rfl, rfl⟩ := z
 refine g ?_
 clear g P
 refine evalPart_none_step ?_
 refine fin ?_
 have r1 := (p1.ext R1 x2).ext R2 x3
 have Rn := R3.push { cls := .type "slice", data := .fields #[partValue pa, partValue pb, .none] }
 have X3 := ((x1.trans R1 x2).trans R2 x3).trans R3 Rn.2
 have M3 := m1.trans (m2.trans m3)
 have prt : ∀ p : Option (Int × Tok), IsPart (partValue p) (p.map (·.1)) := fun p => by rcases p with _ | ⟨i, t⟩ <;> constructor
 rcases sliceD_inv e with ⟨l, rfl, rfl⟩ | ⟨l, e', rfl⟩
 ·obtain ⟨⟨t, rfl⟩, bl⟩ := r1
  refine ⟨"str", _, PySem.F.slot_str_getitem.lookup, typeIs_str _ _ _, wpAny_getItem_str_slice (l := pa) (u := pb) (st := none) ⟨_, Heap.get?_push_size _ rfl, rfl, rfl⟩ rfl (post_val_or_str ?_)⟩
  have hs := strSlice_is l (pa.map (·.1)) (pb.map (·.1))
  rw [← S_len l] at hs
  have hn : (pySlice l (pa.map (·.1)) (pb.map (·.1))).length ≤ 1048576 := Nat.le_trans (pySlice_length _ _ _) bl
  rw [show (if ((Option.map (fun x : Int × Tok => x.1) none).getD 1 == 1 && (slicePicked (S l) pa pb none).length == (S l).length) = true then S l else ⟨((slicePicked (S l) pa pb none).filterMap ((S l).cps[·]?)).toArray⟩) = S (pySlice l (pa.map (·.1)) (pb.map (·.1))) from hs]
  exact ⟨by rw [S_len, sl_is]; exact Nat.le_trans hn (by decide), fun t' kk => k _ _ st3 as3 { s3 with heap := s3.heap.push _, toks := kk } f Rn.1 ⟨⟨_, rfl⟩, hn⟩ X3 (M3.trans .of)⟩
 ·obtain ⟨ad, vs, rfl, hl, bl, ql⟩ := R3.items r1 e'
  refine ⟨"list", _, slot_list_getitem.lookup, (hl.push _).typeIs, wpAny_getItem_list_slice (hl.push _) (Heap.IsSliceOf.new ..) (prt pa) (prt pb) .none (by simp) ?_ (by rw [ql.size, sl_is]; exact Nat.le_trans bl (by decide))⟩
  have qs := (ql.ext R3 Rn.2).slice (pa.map (·.1)) (pb.map (·.1))
  rw [← slicePick_one] at qs
  have Rl := Rn.1.newLst (Nat.le_trans (pySlice_length l (pa.map (·.1)) (pb.map (·.1))) bl) qs
  rw [Array.toArray_toList] at Rl
  exact k _ _ st3 as3 { s3 with heap := (s3.heap.push _).push _ } f (Rn.1.push _).1 Rl (X3.trans Rn.1 (Rn.1.push _).2) (M3.trans .of)
end
end
section
section
variable {Γ : Gl prog w} {C : Cx} {st : St}
theorem blk (R : CxOk Γ C) : C.env.blockKind = .function := by
 unfold Env.blockKind; rw [R.fun_]; rfl
noncomputable def storable (kn : List (Str × NameKind)) (x : Str) : Bool := kn.lookup x == some .local || kn.lookup x == some .cell
theorem store_is {x : Str} (hk : storable C.kn x = true) {s : Shared} {as : List Addr} {d : D} {v : Value} {Q : Unit → Shared → Prop} {E : Value → Shared → Prop} (R : Rel Γ C s.heap as st) (r : Rp s.heap C.X as d v)
  (q : ∀ s', Rel Γ C s'.heap as { st with m := upd st.m x d } → Ext C s.heap as s'.heap as → Sm s s' → Q () s') : wpAny (model prog w) C.A (storeName C.env x v) Q E s := by
 unfold storable at hk
 rw [Bool.or_eq_true] at hk
 rcases hk with hk | hk
 ·have hk := R.c.kns x _ (beq_iff_eq.mp hk)
  obtain ⟨m, hm⟩ := R.ns
  refine wpAny_storeName_local hk hm (fun h' hn hs => ?_) (by rw [R.c.fun_]; rfl)
  have N := R.store_loc hk hm hn hs r
  exact q { s with heap := h', toks := _ } N.1 N.2 .of
 ·have hk' := beq_iff_eq.mp hk
  have hk := R.c.kns x _ hk'
  obtain ⟨c, hc⟩ := R.c.cellHas x hk'
  obtain ⟨o, v₀, ho, hd⟩ := R.cells c (R.c.cellIn _ _ hk' hc)
  refine wpAny_storeName_cell (v₀ := v₀) R.c.fun_ hk hc ⟨o, ho, hd⟩ (fun h' hn hs => ?_)
  obtain ⟨o', ho', hd'⟩ := hn
  have N := R.store_cell hk hk' hc ho' hd' hs r
  exact q { s with heap := h' } N.1 N.2 ⟨rfl, id⟩
theorem AB_nil {Φ : Fl → St → Prop} (h : Φ .next st) : AB Γ C [] st Φ := AW.pure h fun _ _ _ _ _ q => wpAny_execs_nil (q .next _ rfl)
theorem AB_cons {t rest} {Φ : Fl → St → Prop} (h : AS Γ C t st fun fl st1 => match fl with | .next => AB Γ C rest st1 Φ | fl => Φ fl st1) : AB Γ C (t :: rest) st Φ := by
 intro s as Q E R k
 refine wpAny_execs_cons (h s as _ E R ?_)
 intro f fl st1 as1 s1 f1 R1 r1 x1 m1
 cases fl with
 | next => simp only [relF] at r1; subst r1; exact f1 s1 as1 Q E R1 fun y fl2 st2 as2 s2 f2 R2 r2 x2 m2 => k y fl2 st2 as2 s2 f2 R2 r2 (x1.trans R1 x2) (m1.trans m2)
 | brk => have r1' := r1; simp only [relF] at r1; subst r1; exact k _ .brk st1 as1 s1 f1 R1 r1' x1 m1
 | cont => have r1' := r1; simp only [relF] at r1; subst r1; exact k _ .cont st1 as1 s1 f1 R1 r1' x1 m1
 | ret d => have r1' := r1; simp only [relF] at r1; obtain ⟨v, rfl, _⟩ := r1; exact k _ (.ret d) st1 as1 s1 f1 R1 r1' x1 m1
noncomputable def isComp : Expr → Bool
 | .ListComp _ _ _ _ => true
 | .SetComp _ _ _ _ => true
 | .DictComp _ _ _ _ _ => true
 | _ => false
theorem swaps_no {e : Expr} (h : isComp e = false) (t : Option Expr) (l : Nat) (env : Env) : swapsWith e t l env = pure false := by
 cases e <;> first | rfl | exact no_ft h
theorem AS_Assign {x p e pos} {Φ : Fl → St → Prop} (hc : isComp e = false) (hk : storable C.kn x = true) (h : AE Γ C e st fun d st1 => Φ .next { st1 with m := upd st1.m x d }) : AS Γ C (.Assign [.Name x p] e pos) st Φ := by
 intro s as Q E R k
 refine wpAny_Assign_Name (h s as _ E R ?_) (swaps_no hc _ _ _)
 intro v d st1 as1 s1 f1 R1 r1 x1 m1
 exact store_is hk R1 r1 fun s' R' x' m' => k .next .next _ as1 s' f1 R' rfl (x1.trans R1 x') (m1.trans m')
theorem AS_Aug {x p op e pos d₀} {Φ : Fl → St → Prop} (hk : storable C.kn x = true) (hn : nmOk x = true) (e₀ : st.m.lookup x = some d₀)
  (h : AE Γ C e st fun d st1 => AV2 Γ C (inplaceOp op) d₀ d st1 fun r st2 => Φ .next { st2 with m := upd st2.m x r }) : AS Γ C (.AugAssign (.Name x p) op e pos) st Φ := by
 intro s as Q E R k
 obtain ⟨v₀, hv, r₀⟩ := R.vars x d₀ e₀
 refine wpAny_AugAssign_Name (load_var R.c.fun_ hv (h s as _ E R ?_) (nmOk_c hn))
 intro v d st1 as1 s1 f1 R1 r1 x1 m1
 refine f1 s1 as1 (v₀, v) _ E R1 ⟨r₀.ext R x1, r1⟩ ?_
 intro u r st2 as2 s2 f2 R2 r2 x2 m2
 exact store_is hk R2 r2 fun s' R' x' m' => k .next .next _ as2 s' f2 R' rfl ((x1.trans R1 x2).trans R2 x') (m1.trans (m2.trans m'))
theorem AS_Expr {e pos} {Φ : Fl → St → Prop} (hc : isComp e = false) (h : AE Γ C e st fun _ st1 => Φ .next st1) : AS Γ C (.Expr e pos) st Φ := by
 intro s as Q E R k
 show wpAny _ _ (do
  standAt pos
  if interactive C.env then printExpr (eval e C.env)
  else if ← swapsWith e none pos.line C.env then do evalThenUse e C.env fun _ => point; pure .next
  else do dropValue e pos (← eval e C.env)) Q E s
 have hi : interactive C.env = false := by unfold interactive; rw [R.c.fun_]; rfl
 rw [hi, swaps_no hc]
 refine wpAny_bind (wpAny_standAt ?_)
 simp only [Bool.false_eq_true, if_false]
 refine wpAny_bind (wpAny_pure ?_)
 simp only [Bool.false_eq_true, if_false]
 refine wpAny_bind (h s as _ E R ?_)
 intro v d st1 as1 s1 f1 R1 r1 x1 m1
 exact wpAny_dropValue (k .next .next st1 as1 s1 f1 R1 rfl x1 m1)
theorem AS_If {test body orelse pos} {Φ : Fl → St → Prop} (h : AT Γ C test st fun b st1 => (b = true → AB Γ C body st1 Φ) ∧ (b = false → AB Γ C orelse st1 Φ)) : AS Γ C (.If test body orelse pos) st Φ := by
 intro s as Q E R k
 refine wpAny_If (h s as _ E R ?_)
 intro c b st1 as1 s1 f1 R1 r1 x1 m1
 cases r1
 have kk : ∀ (y : Flow) (fl : Fl) (st2 : St) (as2 : List Addr) (s2 : Shared), Φ fl st2 → Rel Γ C s2.heap as2 st2 → relF C s2.heap as2 fl y → Ext C s1.heap as1 s2.heap as2 → Sm s1 s2 → Q y s2 := fun y d st2 as2 s2 f2 R2 r2 x2 m2 => k y d st2 as2 s2 f2 R2 r2 (x1.trans R1 x2) (m1.trans m2)
 cases c with
 | true => exact f1.1 rfl s1 as1 _ E R1 kk
 | false => exact f1.2 rfl s1 as1 _ E R1 kk
theorem AS_Return {e pos} {Φ : Fl → St → Prop} (h : AE Γ C e st fun d st1 => Φ (.ret d) st1) : AS Γ C (.Return (some e) pos) st Φ := by
 intro s as Q E R k
 refine wpAny_Return_some (h s as _ E R ?_)
 intro v d st1 as1 s1 f1 R1 r1 x1 m1
 exact k (.ret v) (.ret d) st1 as1 s1 f1 R1 ⟨v, rfl, r1⟩ x1 m1
theorem AS_Break {pos} {Φ : Fl → St → Prop} (h : Φ .brk st) : AS Γ C (.Break pos) st Φ := AW.pure h fun _ _ _ _ _ q => wpAny_Break (q .brk _ rfl)
theorem AS_Continue {pos} {Φ : Fl → St → Prop} (h : Φ .cont st) : AS Γ C (.Continue pos) st Φ := AW.pure h fun _ _ _ _ _ q => wpAny_Continue (q .cont _ rfl)
theorem AS_Assert {test msg pos} {Φ : Fl → St → Prop} (h : AT Γ C test st fun b st1 => b = true ∧ Φ .next st1) : AS Γ C (.Assert test msg pos) st Φ := by
 intro s as Q E R k
 refine wpAny_Assert_holds (h s as _ E R ?_)
 rintro c b st1 as1 s1 ⟨rfl, f1⟩ R1 r1 x1 m1
 exact ⟨r1, k .next .next st1 as1 s1 f1 R1 rfl x1 m1⟩
/-! loops -/
noncomputable def AC (Γ : Gl prog w) (C : Cx) (c : Code) (st : St) (Φ : Fl → St → Prop) : Prop :=
 ∀ (s : Shared) (as : List Addr) (R' : Result → Shared → Prop), Rel Γ C s.heap as st →
  (∀ f fl st' as' s', Φ fl st' → Rel Γ C s'.heap as' st' → relF C s'.heap as' fl f → Ext C s.heap as s'.heap as' → Sm s s' → R' (.ok f) s') →
  codeAny (model prog w) C.A c R' s
theorem AC.mono {c : Code} {Φ Ψ : Fl → St → Prop} (h : AC Γ C c st Φ) (k : ∀ b st', Φ b st' → Ψ b st') : AC Γ C c st Ψ :=
 fun s as R' R q => h s as R' R fun x b st' as' s' f => q x b st' as' s' (k b st' f)
theorem AC_while {test body orelse} {Φ : Fl → St → Prop} (h : AT Γ C test st fun b st1 =>
   (b = true → AB Γ C body st1 fun fl st2 => match fl with | .next => AC Γ C (.whileLoop test body orelse C.env) st2 Φ | .cont => AC Γ C (.whileLoop test body orelse C.env) st2 Φ | .brk => Φ .next st2 | .ret d => Φ (.ret d) st2)
   ∧ (b = false → AB Γ C orelse st1 Φ)) : AC Γ C (.whileLoop test body orelse C.env) st Φ := by
 intro s as R' R k
 refine codeAny_of_tree ?_
 show wpAny _ C.A ((whileTurn test body orelse C.env).onRaise (fun x => do noteFrame x C.env; theTreesLotGoes x)) _ _ s
 refine wpAny_noted ?_
 simp only [whileTurn]
 refine wpAny_bind (h s as _ _ R ?_)
 intro c b st1 as1 s1 f1 R1 r1 x1 m1
 cases r1
 cases c with
 | false =>
  simp only [Bool.false_eq_true, if_false]
  refine wpAny_bind (f1.2 rfl s1 as1 _ _ R1 ?_)
  intro f fl st2 as2 s2 f2 R2 r2 x2 m2
  exact wpAny_pure (k f fl st2 as2 s2 f2 R2 r2 (x1.trans R1 x2) (m1.trans m2))
 | true =>
  simp only [if_true]
  refine wpAny_bind (f1.1 rfl s1 as1 _ _ R1 ?_)
  intro f fl st2 as2 s2 f2 R2 r2 x2 m2
  have go : AC Γ C (.whileLoop test body orelse C.env) st2 Φ → codeAny (model prog w) C.A (.whileLoop test body orelse C.env) R' s2 := fun q =>
   q s2 as2 R' R2 fun f fl st3 as3 s3 f3 R3 r3 x3 m3 => k f fl st3 as3 s3 f3 R3 r3 ((x1.trans R1 x2).trans R2 x3) ((m1.trans m2).trans m3)
  cases fl with
  | next => simp only [relF] at r2; subst r2; exact wpAny_pure ⟨rfl, go f2⟩
  | cont => simp only [relF] at r2; subst r2; exact wpAny_pure ⟨rfl, go f2⟩
  | brk => simp only [relF] at r2; subst r2; exact wpAny_pure (k _ .next st2 as2 s2 f2 R2 rfl (x1.trans R1 x2) (m1.trans m2))
  | ret d => obtain ⟨v, rfl, rv⟩ := r2; exact wpAny_pure (k _ (.ret d) st2 as2 s2 f2 R2 ⟨v, rfl, rv⟩ (x1.trans R1 x2) (m1.trans m2))
theorem runOwn_is {c : Code} {s : Shared} {as : List Addr} {Q : Flow → Shared → Prop} {E : Value → Shared → Prop} {Φ : Fl → St → Prop} (h : AC Γ C c st Φ) (R : Rel Γ C s.heap as st)
  (k : ∀ f fl st' as' s', Φ fl st' → Rel Γ C s'.heap as' st' → relF C s'.heap as' fl f → Ext C s.heap as s'.heap as' → Sm s s' → Q f s') : wpAny (model prog w) C.A (runOwn c C.env none) Q E s := by
 refine wpAny_runOwn ?_
 have hA : C.A.mark none = C.A := by
  cases C.A
  simp only [Around.mark, Option.none_or]
 rw [hA]
 exact h s as _ R fun f fl st' as' s' f' R' r' x' m' => k f fl st' as' s' f' R' r' x' m'
theorem AS_While {test body orelse pos} {Φ : Fl → St → Prop} (h : AC Γ C (.whileLoop test body orelse C.env) st Φ) : AS Γ C (.While test body orelse pos) st Φ := by
 intro s as Q E R k
 show wpAny _ _ (do standAt pos; runOwn (.whileLoop test body orelse C.env) C.env) Q E s
 exact wpAny_bind (wpAny_standAt (runOwn_is h R k))
end
end
section
section
variable {Γ : Gl prog w} {C : Cx} {st : St}
/-! iterators -/
noncomputable def okIt (o : Obj) : Prop := ∃ nm vs, o.cls = .type nm ∧ o.data = .fields vs ∧ nm ∈ ["list_iterator", "tuple_iterator", "str_ascii_iterator", "str_iterator", "range_iterator"]
theorem okIt.it {o : Obj} (h : okIt o) : itO o := by
 obtain ⟨nm, vs, hc, hd, hm⟩ := h
 refine ⟨⟨vs, hd⟩, ?_, ?_, ?_, ?_⟩ <;> rw [hc] <;> intro e <;> cases e <;> revert hm <;> decide
structure ItB (Γ : Gl prog w) (C : Cx) (h : Heap) (as : List Addr) (I : Addr) (fp wr : List Addr) (n i : Nat) (P : Nat → Value → Prop) (Sx : Nat → Heap → Prop) (ds : List D) : Prop where
 w : Walks prog w C.A I fp wr n P Sx
 here : Sx i h
 len : n = i + ds.length
 item : ∀ j v d, P (i + j) v → ds[j]? = some d → Rp h C.X as d v
 mem : I ∈ wr
 new : ∀ b ∈ wr, C.h₀.get? b = Option.none
 shape : ∀ k h, Sx k h → ∀ b ∈ wr, ∃ o, h.get? b = some o ∧ okIt o
 base : ∀ b ∈ fp, b ∉ wr → b ∉ as ∧ ∃ o xs k, h.get? b = some o ∧ o.data = .seq xs k
noncomputable def ItOk (Γ : Gl prog w) (C : Cx) (h : Heap) (as : List Addr) (I : Addr) (wr : List Addr) (ds : List D) : Prop := ∃ fp n i P Sx, ItB Γ C h as I fp wr n i P Sx ds
structure ExtX (W : List Addr) (C : Cx) (h : Heap) (as : List Addr) (h' : Heap) (as' : List Addr) : Prop where
 keep : ∀ a o, h.get? a = some o → a ∉ W → a ∉ as → a ≠ C.env.locals → a ∉ C.own → ¬ C.Ex a → h'.get? a = some o
 pre : ∃ e, as' = as ++ e
 fresh : ∀ a ∈ as', a ∈ as ∨ h.get? a = Option.none ∨ a ∈ W
theorem Ext.x {h h' : Heap} {as as' : List Addr} (e : Ext C h as h' as') (W : List Addr) : ExtX W C h as h' as' := ⟨fun a o x _ n1 n2 n3 n4 => e.keep a o x n1 n2 n3 n4, e.pre, fun a ha => (e.fresh a ha).imp id .inl⟩
theorem ExtX.ext {W : List Addr} {h₀ h h' : Heap} {as as' : List Addr} (e : ExtX W C h as h' as') (k : ∀ a o, h₀.get? a = some o → h.get? a = some o) (hW : ∀ b ∈ W, h₀.get? b = Option.none) : Ext C h₀ as h' as' := by
 refine ⟨fun a o x n1 n2 n3 n4 => e.keep a o (k a o x) (fun hw => ?_) n1 n2 n3 n4, e.pre, fun a ha => (e.fresh a ha).imp id fun z => ?_⟩
 ·rw [hW a hw] at x; cases x
 ·rcases z with z | z
  ·cases q : h₀.get? a with
   | none => rfl
   | some o => rw [k a o q] at z; cases z
  ·exact hW a z
theorem ExtX.trans {W : List Addr} {h h' h'' : Heap} {as as' as'' : List Addr} {st' : St} (x : ExtX W C h as h' as') (R : Rel Γ C h' as' st') (y : ExtX W C h' as' h'' as'') : ExtX W C h as h'' as'' := by
 have go : ∀ a o, h.get? a = some o → a ∉ W → a ∉ as → a ∉ as' := fun a o e w n ha => by
  rcases x.fresh a ha with q | q | q
  ·exact n q
  ·rw [q] at e; cases e
  ·exact w q
 refine ⟨fun a o e w n1 n2 n3 n4 => y.keep a o (x.keep a o e w n1 n2 n3 n4) w (go a o e w n1) n2 n3 n4, ?_, fun a ha => ?_⟩
 ·obtain ⟨e, rfl⟩ := x.pre
  obtain ⟨e', rfl⟩ := y.pre
  exact ⟨e ++ e', by simp⟩
 ·rcases y.fresh a ha with q | q | q
  ·exact x.fresh a q
  ·by_cases ha' : a ∈ as
   ·exact .inl ha'
   by_cases n0 : a ∈ W
   ·exact .inr (.inr n0)
   right; left
   cases e : h.get? a with
   | none => rfl
   | some o =>
    exfalso
    by_cases n2 : a = C.env.locals
    ·obtain ⟨m, o', _, _, ho, _⟩ := R.ns
     rw [← n2] at ho; rw [q] at ho; cases ho
    by_cases n3 : a ∈ C.own
    ·obtain ⟨o', v, ho, _⟩ := R.cells a n3
     rw [q] at ho; cases ho
    by_cases n4 : C.Ex a
    ·obtain ⟨o', v, ho, _⟩ := R.exA a n4
     rw [q] at ho; cases ho
    have := x.keep a o e n0 ha' n2 n3 n4
    rw [q] at this; cases this
  ·exact .inr (.inr q)
theorem ItOk.ext {h h' : Heap} {as as' : List Addr} {I : Addr} {wr : List Addr} {ds : List D} (x : ItOk Γ C h as I wr ds) (R : Rel Γ C h as st) (e : Ext C h as h' as') : ItOk Γ C h' as' I wr ds := by
 obtain ⟨fp, n, i, P, Sx, B⟩ := x
 have K := R.lean e
 have kw : ∀ b ∈ wr, ∀ o, h.get? b = some o → h'.get? b = some o := fun b hb o ho => by
  obtain ⟨o', ho', hk⟩ := B.shape _ _ B.here b hb
  rw [ho] at ho'; cases ho'
  obtain ⟨nm, vs, hc, hd, hm⟩ := hk
  exact e.keep b o ho (R.notMu ho (.inr fun _ _ => ob_no hd rfl)) (R.notL ho (fun _ _ => ob_no hd rfl)) (R.notOwn ho (fun _ => ob_no hd rfl)) (R.notEx ho (.inr fun q => Value.noConfusion (hc.symm.trans q)))
 have kb : ∀ b ∈ fp, b ∉ wr → ∀ o, h.get? b = some o → h'.get? b = some o := fun b hb hw o ho => by
  obtain ⟨hn, o', xs, k, ho', hd⟩ := B.base b hb hw
  rw [ho] at ho'; cases ho'
  exact e.keep b o ho hn (R.notL ho (fun _ _ => ob_no hd rfl)) (R.notOwn ho (fun _ => ob_no hd rfl)) (R.notEx ho (.inl fun _ => ob_no hd rfl))
 refine ⟨fp, n, i, P, Sx, B.w, B.w.frame _ _ _ B.here fun b hb o ho => ?_, B.len, fun j v d hp hd => (B.item j v d hp hd).lift K, B.mem, B.new, B.shape, fun b hb hn => ?_⟩
 ·by_cases hw : b ∈ wr
  ·exact kw b hw o ho
  ·exact kb b hb hw o ho
 ·obtain ⟨hm, o', xs, k, ho', hd⟩ := B.base b hb hn
  refine ⟨fun ha => ?_, o', xs, k, kb b hb hn o' ho', hd⟩
  rcases e.fresh b ha with z | z
  ·exact hm z
  ·rw [z] at ho'; cases ho'
theorem ItOk.alive {h : Heap} {as : List Addr} {I : Addr} {wr : List Addr} {ds : List D} (x : ItOk Γ C h as I wr ds) : ∀ b ∈ wr, ∃ o, h.get? b = some o := fun b hb => by
 obtain ⟨fp, n, i, P, Sx, B⟩ := x
 obtain ⟨o, ho, _⟩ := B.shape _ _ B.here b hb
 exact ⟨o, ho⟩
theorem ItOk.head {h : Heap} {as : List Addr} {I : Addr} {wr : List Addr} {ds : List D} (x : ItOk Γ C h as I wr ds) : ∃ o, h.get? I = some o ∧ okIt o :=
 x.elim fun _ z => z.elim fun _ z => z.elim fun _ z => z.elim fun _ z => z.elim fun _ B => B.shape _ _ B.here I B.mem
theorem next_item {s : Shared} {as : List Addr} {I : Addr} {wr : List Addr} {d : D} {ds : List D} {Q : Option Value → Shared → Prop} {E : Value → Shared → Prop} (R : Rel Γ C s.heap as st) (x : ItOk Γ C s.heap as I wr (d :: ds))
  (q : ∀ v s', Rp s'.heap C.X as d v → ItOk Γ C s'.heap as I wr ds → Rel Γ C s'.heap as st → ExtX wr C s.heap as s'.heap as → Sm s s' → Q (some v) s') : wpAny (model prog w) C.A (pyNext (.ref I)) Q E s := by
 obtain ⟨fp, n, i, P, Sx, B⟩ := x
 refine B.w.item i s Q E (by rw [B.len, List.length_cons]; omega) B.here fun v h' tk hp hs hk => ?_
 have hit : ∀ a, a ∈ wr → C.h₀.get? a = Option.none ∧ ∃ o, s.heap.get? a = some o ∧ itO o := fun a ha => by
  obtain ⟨o, ho, hq⟩ := B.shape _ _ B.here a ha
  exact ⟨B.new a ha, o, ho, hq.it⟩
 obtain ⟨R', lift⟩ := R.subBut (h' := h') (· ∈ wr) hit fun a o e n => hk a o n e
 refine q v { s with heap := h', toks := tk } (lift _ _ (B.item 0 v d hp rfl)) ⟨fp, n, i + 1, P, Sx, B.w, hs, by rw [B.len, List.length_cons]; omega, fun j v d' hp' hd' => lift _ _ (B.item (j + 1) v d' (by rw [show i + (j + 1) = i + 1 + j by omega]; exact hp') (by simpa using hd')), B.mem, B.new, B.shape, fun b hb hn => ?_⟩ R' ⟨fun a o e w _ _ _ _ => hk a o w e, ⟨[], by simp⟩, fun a ha => .inl ha⟩ ⟨rfl, id⟩
 obtain ⟨hm, o', xs, k, ho', hd⟩ := B.base b hb hn
 exact ⟨hm, o', xs, k, hk b o' hn ho', hd⟩
theorem next_end {s : Shared} {as : List Addr} {I : Addr} {wr : List Addr} {Q : Option Value → Shared → Prop} {E : Value → Shared → Prop} (R : Rel Γ C s.heap as st) (x : ItOk Γ C s.heap as I wr [])
  (q : ∀ s', Rel Γ C s'.heap as st → (∀ d v, Rp s.heap C.X as d v → Rp s'.heap C.X as d v) → ExtX wr C s.heap as s'.heap as → Sm s s' → Q none s') : wpAny (model prog w) C.A (pyNext (.ref I)) Q E s := by
 obtain ⟨fp, n, i, P, Sx, B⟩ := x
 have hl := B.len
 simp only [List.length_nil, Nat.add_zero] at hl
 refine B.w.done s Q E (by rw [hl]; exact B.here) fun h' tk hk => ?_
 have hit : ∀ a, a ∈ wr → C.h₀.get? a = Option.none ∧ ∃ o, s.heap.get? a = some o ∧ itO o := fun a ha => by
  obtain ⟨o, ho, hq⟩ := B.shape _ _ B.here a ha
  exact ⟨B.new a ha, o, ho, hq.it⟩
 obtain ⟨R', lift⟩ := R.subBut (h' := h') (· ∈ wr) hit fun a o e n => hk a o n e
 exact q { s with heap := h', toks := tk } R' lift ⟨fun a o e w _ _ _ _ => hk a o w e, ⟨[], by simp⟩, fun a ha => .inl ha⟩ ⟨rfl, id⟩
/-! how a walk starts -/
noncomputable def rngD (a b c : Int) : List D := (List.range (Builtin.Range.rangeSize a b c).toNat).map fun (i : Nat) => .int (a + (i : Int) * c)
noncomputable def iterD : D → Option (List D)
 | .lst l => some l
 | .tup l => some l
 | .str s => some (s.map fun c => .str [c])
 | .rng a b c => if Builtin.Range.small a b c then some (rngD a b c) else none
 | _ => none
theorem rangeSize_nn (a b c : Int) : 0 ≤ Builtin.Range.rangeSize a b c := by
 unfold Builtin.Range.rangeSize
 split
 ·split
  ·have := Int.ediv_nonneg (a := b - a - 1) (b := c) (by omega) (by omega); omega
  ·omega
 ·split
  ·have := Int.ediv_nonneg (a := a - b - 1) (b := -c) (by omega) (by omega); omega
  ·omega
noncomputable def iterH (mu : List (List D)) : D → Option (List D)
 | .mut i => mu[i]?
 | d => iterD d
noncomputable abbrev QIter (Γ : Gl prog w) (C : Cx) (st : St) (s : Shared) (as : List Addr) (d : D) (ds : List D) (Q : Value → Shared → Prop) : Prop :=
  ∀ I wr fp n P Sx s', Walks prog w C.A I fp wr n P Sx → Sx 0 s'.heap → n = ds.length → (∀ j v d, P j v → ds[j]? = some d → Rp s.heap C.X as d v) → I ∈ wr → (∀ k h, Sx k h → ∀ b ∈ wr, ∃ o, h.get? b = some o ∧ okIt o) →
   (∀ b ∈ fp, b ∉ wr → (b ∉ as ∨ ∃ i, d = .mut i) ∧ ∃ o xs k, s.heap.get? b = some o ∧ o.data = .seq xs k) → Rel Γ C s'.heap as st → (∀ a o, s.heap.get? a = some o → s'.heap.get? a = some o) → (∀ b ∈ wr, s.heap.get? b = Option.none) → Sm s s' → Q (.ref I) s'
theorem it_push {s : Shared} {as : List Addr} {d : D} {ds : List D} {Q : Value → Shared → Prop} {obj : Obj} {fp : List Addr} {n : Nat} {P : Nat → Value → Prop} {Sx : Nat → Heap → Prop} (R : Rel Γ C s.heap as st) (W : Walks prog w C.A s.heap.objs.size fp [s.heap.objs.size] n P Sx) (h0 : Sx 0 (s.heap.push obj)) (hn : n = ds.length)
  (hi : ∀ j v d', P j v → ds[j]? = some d' → Rp s.heap C.X as d' v) (hk : ∀ k h, Sx k h → ∃ o, h.get? s.heap.objs.size = some o ∧ okIt o) (hf : ∀ b ∈ fp, b ≠ s.heap.objs.size → (b ∉ as ∨ ∃ i, d = .mut i) ∧ ∃ o xs k, s.heap.get? b = some o ∧ o.data = .seq xs k) (q : QIter Γ C st s as d ds Q) : Q (.ref s.heap.objs.size) { s with heap := s.heap.push obj } :=
 q _ _ _ _ _ _ _ W h0 hn hi (List.mem_singleton.mpr rfl) (fun k h hs b hb => by rw [List.mem_singleton.mp hb]; exact hk k h hs) (fun b hb hn => hf b hb fun e => hn (List.mem_singleton.mpr e)) (R.push obj).1 (fun _ _ x => Heap.get?_push_of_some _ x) (fun b hb => by rw [List.mem_singleton.mp hb]; exact none_end _) .of
theorem ne_end {h : Heap} {a : Addr} {o : Obj} (ho : h.get? a = some o) : a ≠ h.objs.size := Nat.ne_of_lt (Heap.lt_size ho)
theorem two_mem {a b e : Addr} (hb : b ∈ [e, a]) (hn : b ≠ e) : b = a := (List.mem_cons.mp hb).elim (fun q => absurd q hn) List.mem_singleton.mp
theorem it_of {h : Heap} {X : Addr → Prop} {as : List Addr} {l : List D} {vs : Array Value} {j : Nat} {v : Value} {d : D} (ql : RpL h X as l vs.toList) (hp : vs[j]? = some v) (hd : l[j]? = some d) : Rp h X as d v := by
 obtain ⟨v', hv', hr⟩ := ql.get hd
 rw [Array.getElem?_toList, hp] at hv'
 exact Option.some.inj hv' ▸ hr
theorem iter_raw {s : Shared} {as : List Addr} {d : D} {v : Value} {ds : List D} {Q : Value → Shared → Prop} {E : Value → Shared → Prop} (R : Rel Γ C s.heap as st) (r : Rp s.heap C.X as d v) (e : iterH st.mu d = some ds)
  (q : QIter Γ C st s as d ds Q) : wpAny (model prog w) C.A (pyIter v) Q E s := by
 have hh := R.c.hand
 have lst : ∀ l, itemsD st.mu d = some l → l = ds → (∀ a, v = .ref a → a ∉ as ∨ ∃ i, d = .mut i) → wpAny (model prog w) C.A (pyIter v) Q E s := fun l e' el hna => by
  refine hide fun G hG => ?_
  obtain ⟨a, vs, ev, hl, bl, ql⟩ := R.items r e'
  refine hG (ev ▸ wpAny_pyIter_list hl (it_push R (Walks.list hh s.heap.objs.size a (hl.elim fun o z => ne_end z.1) vs) ⟨⟨_, Heap.get?_push_size _ rfl, rfl, rfl⟩, hl.push _⟩ (el ▸ ql.size) (fun j v d hp hd => ?_) (fun k h hs => hs.1.elim fun o z => ⟨o, z.1, _, _, z.2.1, z.2.2, by decide⟩) (fun b hb hn => two_mem hb hn ▸ ⟨hna _ ev, hl.elim fun o z => z.2.2.elim fun k hd => ⟨o, _, k, z.1, hd⟩⟩) q))
  exact it_of ql hp (el ▸ hd)
 cases d <;> first | exact no_some e | (replace e := Option.some.inj e) | simp only [iterH, iterD] at e
 case lst l => exact lst l rfl e fun a ea => .inl (r.elim fun a' z => z.elim fun vs z => Value.ref.inj (z.1.symm.trans ea) ▸ z.2.2.1)
 case «mut» i => exact lst ds e rfl fun a _ => .inr ⟨i, rfl⟩
 case tup l =>
  refine hide fun G hG => ?_
  obtain ⟨a, vs, ev, hl, bl, ql⟩ := r
  refine hG (ev ▸ wpAny_pyIter_tuple hl (it_push R (Walks.tuple hh s.heap.objs.size a (hl.elim fun o z => ne_end z.1) vs) ⟨⟨_, Heap.get?_push_size _ rfl, rfl, rfl⟩, IsTup.push hl _⟩ (e ▸ ql.size) (fun j v d hp hd => ?_) (fun k h hs => hs.1.elim fun o z => ⟨o, z.1, _, _, z.2.1, z.2.2, by decide⟩) (fun b hb hn => two_mem hb hn ▸ hl.elim fun o z => z.2.2.elim fun k hd => ⟨.inl (R.notMu z.1 (.inl (by rw [z.2.1]; decide))), o, _, k, z.1, hd⟩) q))
  exact it_of ql hp (e ▸ hd)
 case str l =>
  subst e
  obtain ⟨⟨t, rfl⟩, bl⟩ := r
  have it : ∀ j v d, SignAt (S l) j v → (l.map fun c => D.str [c])[j]? = some d → ∀ h, Rp h C.X as d v := fun j v d hp hd h => by
   obtain ⟨c, u, hc, rfl⟩ := hp
   simp only [S, List.getElem?_toArray] at hc
   rw [List.getElem?_map, hc] at hd
   cases hd
   exact ⟨⟨u, rfl⟩, by simp⟩
  cases ha : (S l).cps.all (· < 128)
  ·refine wpAny_pyIter_wide ha ?_
   refine it_push R (Walks.strWide hh s.heap.objs.size (S l) t) ⟨_, Heap.get?_push_size _ rfl, rfl, rfl⟩ (by simp [S]) (fun j v d hp hd => it j v d hp hd _) (fun k h hs => ?_) (fun b hb hn => absurd (List.mem_singleton.mp hb) hn) q
   exact hs.elim fun o z => ⟨o, z.1, _, _, z.2.1, z.2.2, by decide⟩
  ·refine wpAny_pyIter_ascii ha ?_
   refine it_push R (Walks.strAscii hh s.heap.objs.size (S l) t) ⟨_, Heap.get?_push_size _ rfl, rfl, rfl⟩ (by simp [S]) (fun j v d hp hd => it j v d hp hd _) (fun k h hs => ?_) (fun b hb hn => absurd (List.mem_singleton.mp hb) hn) q
   exact hs.elim fun o z => ⟨o, z.1, _, _, z.2.1, z.2.2, by decide⟩
 case rng a b c =>
  split at e
  ·rename_i hsm
   cases e
   obtain ⟨r, t, t', t'', rfl, hr⟩ := r
   refine wpAny_pyIter_range hr hsm ?_
   have nn := rangeSize_nn a b c
   refine it_push R (Walks.range hh s.heap.objs.size a c (Builtin.Range.rangeSize a b c).toNat) ?_ (by simp [rngD]) (fun j v d hp hd => ?_) (fun k h hs => ?_) (fun b hb hn => absurd (List.mem_singleton.mp hb) hn) q
   ·have h1 : a + ((0 : Nat) : Int) * c = a := by simp
    have h2 : (((Builtin.Range.rangeSize a b c).toNat : Nat) : Int) - ((0 : Nat) : Int) = Builtin.Range.rangeSize a b c := by omega
    show IsRangeIter _ _ _ _ _
    rw [h1, h2]
    exact Heap.get?_push_size _ rfl
   ·obtain ⟨u, rfl⟩ := hp
    simp only [rngD, List.getElem?_map] at hd
    cases hj : (List.range (Builtin.Range.rangeSize a b c).toNat)[j]? with
    | none => rw [hj] at hd; cases hd
    | some k =>
     rw [hj] at hd; cases hd
     obtain ⟨hlt, hk⟩ := List.getElem?_eq_some_iff.mp hj
     rw [List.getElem_range] at hk; subst hk
     exact ⟨_, rfl⟩
   ·exact ⟨_, hs, _, _, rfl, rfl, by decide⟩
  ·cases e
theorem iter_is {s : Shared} {as : List Addr} {d : D} {v : Value} {ds : List D} {Q : Value → Shared → Prop} {E : Value → Shared → Prop} (R : Rel Γ C s.heap as st) (r : Rp s.heap C.X as d v) (e : iterD d = some ds)
  (q : ∀ I wr s', ItOk Γ C s'.heap as I wr ds → Rel Γ C s'.heap as st → (∀ a o, s.heap.get? a = some o → s'.heap.get? a = some o) → (∀ b ∈ wr, s.heap.get? b = Option.none) → Sm s s' → Q (.ref I) s') : wpAny (model prog w) C.A (pyIter v) Q E s := by
 have hm : ∀ i, d ≠ .mut i := fun i x => by subst x; simp [iterD] at e
 have e' : iterH st.mu d = some ds := by
  cases d <;> first | exact e | skip
  case «mut» i => exact absurd rfl (hm i)
 refine iter_raw R r e' fun I wr fp n P Sx s' W h0 hn hi hI sh hb R' k nw m => ?_
 refine q I wr s' ⟨fp, n, 0, P, Sx, W, h0, by rw [hn, Nat.zero_add], fun j v d hp hd => (hi j v d (by rw [Nat.zero_add] at hp; exact hp) hd).ext R (Ext.sub k), hI, fun b hb' => ?_, sh, fun b hb' hw => ?_⟩ R' k nw m
 ·have z := nw b hb'
  cases q0 : C.h₀.get? b with
  | none => rfl
  | some o =>
   by_cases hx : C.Ex b
   ·obtain ⟨_, _, e'', _⟩ := R.exA b hx
    rw [z] at e''; cases e''
   ·rw [R.base b o q0 hx] at z; cases z
 ·obtain ⟨h1, o, xs, kk, ho, hd⟩ := hb b hb' hw
  exact ⟨h1.elim id fun ⟨i, x⟩ => absurd x (hm i), o, xs, kk, k b o ho, hd⟩
end
end
section
section
variable {Γ : Gl prog w} {C : Cx} {st : St}
/-! storing into a target -/
noncomputable def AAs (Γ : Gl prog w) (C : Cx) (t : Expr) (d : D) (st : St) (Φ : St → Prop) : Prop :=
 ∀ (s : Shared) (as : List Addr) (v : Value) (Q : Unit → Shared → Prop) (E : Value → Shared → Prop), Rel Γ C s.heap as st → Rp s.heap C.X as d v →
  (∀ st' s', Φ st' → Rel Γ C s'.heap as st' → Ext C s.heap as s'.heap as → Sm s s' → Q () s') → wpAny (model prog w) C.A (assign t C.env v) Q E s
theorem AAs_Name {x p d} {Φ : St → Prop} (hk : storable C.kn x = true) (h : Φ { st with m := upd st.m x d }) : AAs Γ C (.Name x p) d st Φ := by
 intro s as v Q E R r k
 exact wpAny_assign_Name (store_is hk R r fun s' R' x' m' => k _ s' h R' x' m')
noncomputable def AAsL (Γ : Gl prog w) (C : Cx) : List Expr → List D → St → (St → Prop) → Prop
 | [], [], st, Φ => Φ st
 | t :: ts, d :: ds, st, Φ => AAs Γ C t d st fun st1 => AAsL Γ C ts ds st1 Φ
 | [], _ :: _, _, _ => False
 | _ :: _, [], _, _ => False
theorem AAsL.run {Φ : St → Prop} : ∀ {ts : List Expr} {ds : List D} {st : St}, AAsL Γ C ts ds st Φ → ∀ (s : Shared) (as : List Addr) (vs : List Value) (Q : Unit → Shared → Prop) (E : Value → Shared → Prop), Rel Γ C s.heap as st → RpL s.heap C.X as ds vs →
  (∀ st' s', Φ st' → Rel Γ C s'.heap as st' → Ext C s.heap as s'.heap as → Sm s s' → Q () s') → wpAny (model prog w) C.A (assignInOrder (ts.map fun t => assign t C.env) vs) Q E s
 | [], [], st, h, s, as, vs, Q, E, R, r, k => by
  cases vs with
  | nil => exact assignInOrder_nil (k st s h R (Ext.refl ..) (Sm.refl s))
  | cons _ _ => simp [RpL] at r
 | t :: ts, d :: ds, st, h, s, as, vs, Q, E, R, r, k => by
  cases vs with
  | nil => simp [RpL] at r
  | cons v vs =>
   simp only [RpL] at r
   refine assignInOrder_cons (h s as v _ E R r.1 fun st1 s1 h1 R1 x1 m1 => ?_)
   exact h1.run s1 as vs Q E R1 (r.2.ext R x1) fun st2 s2 h2 R2 x2 m2 => k st2 s2 h2 R2 (x1.trans R1 x2) (m1.trans m2)
 | [], _ :: _, st, h, _, _, _, _, _, _, _, _ => h.elim
 | _ :: _, [], st, h, _, _, _, _, _, _, _, _ => h.elim
theorem assignEach_plain {env : Env} : ∀ {es : List Expr}, noStar es = true → assignEach es env = es.map fun e => (false, assign e env)
 | [], _ => rfl
 | e :: r, h => by
  cases e <;> first | exact congrArg (List.cons (false, assign _ env)) (assignEach_plain (env := env) (es := r) h) | exact no_tf h
theorem AAsL.len {Φ : St → Prop} : ∀ {ts : List Expr} {ds : List D} {st : St}, AAsL Γ C ts ds st Φ → ds.length = ts.length ∨ ∃ ts' ds' st', AAsL Γ C ts' ds' st' Φ := fun h => .inr ⟨_, _, _, h⟩
theorem AAs_Tuple {ts k p ds} {Φ : St → Prop} (hs : noStar ts = true) (hl : ds.length = ts.length) (h : AAsL Γ C ts ds st Φ) : AAs Γ C (.Tuple ts k p) (.tup ds) st Φ := by
 intro s as v Q E R r kk
 obtain ⟨a, vs, rfl, ht, bl, ql⟩ := r
 have es := assignEach_plain (env := C.env) hs
 refine assign_Tuple_tuple R.c.hand ht (by rw [es, ql.size]; simp [hl]) ?_ fun h' he => ?_
 ·rw [es, List.findIdx?_eq_none_iff]
  intro x hx
  obtain ⟨e, _, rfl⟩ := List.mem_map.mp hx
  rfl
 ·have keep : ∀ a o, s.heap.get? a = some o → h'.get? a = some o := fun a o e => he a o (by rintro rfl; rw [none_end] at e; cases e) e
  have R' : Rel Γ C h' as st := R.sub keep
  have X' : Ext C s.heap as h' as := Ext.sub keep
  rw [es, List.map_map]
  exact h.run { s with heap := h' } as _ Q E R' (ql.ext R X') fun st2 s2 h2 R2 x2 m2 => kk st2 s2 h2 R2 (X'.trans R' x2) ⟨m2.os, m2.gens⟩
/-! tuple assignments -/
noncomputable def lineOf : Expr → Option Nat
 | .Name _ p => some p.line
 | _ => none
noncomputable def nameOf : Expr → Option Str
 | .Name x _ => some x
 | _ => none
noncomputable def swapNames (kn : List (Str × NameKind)) (ts vs : List Expr) : Option (List Str) :=
 let names := ts.filterMap nameOf
 if (ts.length == 2 || ts.length == 3) && vs.length == ts.length && noStar vs && names.length == ts.length && names.all (fun x => kn.lookup x == some .local) && (ts.all fun t => lineOf t == ts.head?.bind lineOf)
  && names.eraseDups.length == names.length && !(vs.all (foldedForSure 8)) && !(vs.all (constantsAlone 8)) then some names else none
theorem noStar_any : ∀ {es : List Expr}, noStar es = true → (es.any fun | .Starred .. => true | _ => false) = false
 | [], _ => rfl
 | e :: r, h => by cases e <;> first | exact noStar_any (es := r) h | exact no_tf h
theorem nm_line {t : Expr} {l : Nat} (h : lineOf t = some l) : ∃ x p, t = .Name x p ∧ p.line = l := by
 cases t <;> first | exact no_some h | exact ⟨_, _, rfl, Option.some.inj h⟩
theorem nm_name {t : Expr} {x : Str} (h : nameOf t = some x) : ∃ p, t = .Name x p := by
 cases t <;> first | exact no_some h | exact ⟨_, congrArg (Expr.Name · _) (Option.some.inj h)⟩
theorem names_eq {env : Env} {kn : List (Str × NameKind)} (K : ∀ x k, kn.lookup x = some k → env.kindOf x = some k) {line : Nat} : ∀ {ts : List Expr}, (ts.filterMap nameOf).length = ts.length → (ts.filterMap nameOf).all (fun x => kn.lookup x == some .local) = true →
  (∀ t ∈ ts, lineOf t = some line) → (ts.filterMap fun | .Name id pos => if env.kindOf id == some .local && pos.line == line then some id else none | _ => none) = ts.filterMap nameOf
 | [], _, _, _ => rfl
 | t :: ts, hl, hk, hn => by
  have ht := hn t (.head _)
  obtain ⟨x, p, rfl, hpl⟩ := nm_line ht
  rw [List.filterMap_cons_some (f := nameOf) (b := x) rfl] at hl hk ⊢
  simp only [List.length_cons, List.all_cons, Bool.and_eq_true] at hl hk
  have q := K x .local (by simpa using hk.1)
  rw [List.filterMap_cons_some (b := x) (by simp [q, hpl]), names_eq K (Nat.succ.inj hl) hk.2 fun t ht => hn t (.tail _ ht)]
theorem swapped_is {ts vs : List Expr} {k k' p p'} {names : List Str} (R : CxOk Γ C) (h : swapNames C.kn ts vs = some names) : swappedStores [.Tuple ts k p] (.Tuple vs k' p') C.env = pure (some names) := by
 unfold swapNames at h
 dsimp only at h
 split at h
 ·rename_i hc
  cases h
  simp only [Bool.and_eq_true, Bool.not_eq_true', Bool.or_eq_true] at hc
  obtain ⟨⟨⟨⟨⟨⟨⟨⟨h1, h2⟩, h3⟩, h4⟩, h5⟩, h6⟩, h7⟩, h8⟩, h9⟩ := hc
  cases ts with
  | nil => simp at h1
  | cons t ts =>
   obtain ⟨x, pp, rfl⟩ : ∃ x pp, t = .Name x pp := by
    cases hn : nameOf t with
    | some x => exact ⟨x, nm_name hn⟩
    | none =>
     rw [List.filterMap_cons_none hn, beq_iff_eq, List.length_cons] at h4
     exact absurd (List.length_filterMap_le nameOf ts) (by rw [h4]; exact Nat.not_succ_le_self _)
   obtain ⟨l, hl⟩ : ∃ l, lineOf (.Name x pp) = some l := ⟨_, rfl⟩
   have h6' : ∀ u ∈ Expr.Name x pp :: ts, lineOf u = some l := fun u hu => by
    have := List.all_eq_true.mp h6 u hu
    simpa [hl] using this
   have hpos : (Expr.Name x pp).pos.line = l := Option.some.inj hl
   have ne := names_eq (env := C.env) (R.kns) (line := l) (ts := Expr.Name x pp :: ts) (by simpa using h4) h5 h6'
   unfold swappedStores
   have a1 : (!((Expr.Name x pp :: ts).length == 2 || (Expr.Name x pp :: ts).length == 3) || vs.length != (Expr.Name x pp :: ts).length || C.env.blockKind != .function) = false := by
    rw [blk R]
    have e1 : ((Expr.Name x pp :: ts).length == 2 || (Expr.Name x pp :: ts).length == 3) = true := by simpa using h1
    have e2 : (vs.length != (Expr.Name x pp :: ts).length) = false := by simpa [bne] using h2
    rw [e1, e2]; rfl
   have a2 : (((Expr.Name x pp :: ts).filterMap nameOf).length != (Expr.Name x pp :: ts).length || ((Expr.Name x pp :: ts).filterMap nameOf).eraseDups.length != ((Expr.Name x pp :: ts).filterMap nameOf).length) = false := by
    have e1 : (((Expr.Name x pp :: ts).filterMap nameOf).length != (Expr.Name x pp :: ts).length) = false := by simpa [bne] using h4
    have e2 : (((Expr.Name x pp :: ts).filterMap nameOf).eraseDups.length != ((Expr.Name x pp :: ts).filterMap nameOf).length) = false := by simpa [bne] using h7
    rw [e1, e2]; rfl
   have a3 := noStar_any h3
   simp only [a1, List.head?_cons, Option.map_some, Option.getD_some, hpos, ne, a2, h8, h9, Bool.false_eq_true, if_false]
   erw [a3]
   simp only [Bool.false_eq_true, if_false]
   erw [ne, a2]
   rfl
 ·cases h
theorem bind_is {x : Str} (hk : storable C.kn x = true) {s : Shared} {as : List Addr} {d : D} {v : Value} {Q : Unit → Shared → Prop} {E : Value → Shared → Prop} (R : Rel Γ C s.heap as st) (r : Rp s.heap C.X as d v)
  (q : ∀ s', Rel Γ C s'.heap as { st with m := upd st.m x d } → Ext C s.heap as s'.heap as → Sm s s' → Q () s') : wpAny (model prog w) C.A (bindName C.env x v) Q E s := bindName_ (store_is hk R r q)
theorem binds_run : ∀ {ns : List Str} {ds : List D} {st : St} {s : Shared} {as : List Addr} {vs : List Value} {Q : Unit → Shared → Prop} {E : Value → Shared → Prop}, ns.all (fun x => C.kn.lookup x == some .local) = true → ns.length = ds.length → Rel Γ C s.heap as st → RpL s.heap C.X as ds vs →
  (∀ s', Rel Γ C s'.heap as { st with m := (ns.zip ds).foldl (fun m p => upd m p.1 p.2) st.m } → Ext C s.heap as s'.heap as → Sm s s' → Q () s') → wpAny (model prog w) C.A (assignInOrder (ns.map fun n => bindName C.env n) vs) Q E s
 | [], [], st, s, as, vs, Q, E, _, _, R, r, k => by
  cases vs with
  | nil => exact assignInOrder_nil (k s R (Ext.refl ..) (Sm.refl s))
  | cons _ _ => simp [RpL] at r
 | n :: ns, d :: ds, st, s, as, vs, Q, E, hk, hl, R, r, k => by
  cases vs with
  | nil => simp [RpL] at r
  | cons v vs =>
   simp only [RpL] at r
   simp only [List.all_cons, Bool.and_eq_true] at hk
   refine assignInOrder_cons (bind_is (by unfold storable; rw [hk.1]; rfl) R r.1 fun s1 R1 x1 m1 => ?_)
   exact binds_run hk.2 (by simpa using hl) R1 (r.2.ext R x1) fun s2 R2 x2 m2 => k s2 R2 (x1.trans R1 x2) (m1.trans m2)
 | [], _ :: _, _, _, _, _, _, _, _, hl, _, _, _ => by simp at hl
 | _ :: _, [], _, _, _, _, _, _, _, hl, _, _, _ => by simp at hl
theorem RpL.reverse {h X as} : ∀ {ds : List D} {vs : List Value}, RpL h X as ds vs → RpL h X as ds.reverse vs.reverse
 | [], [], _ => by simp [RpL]
 | _ :: _, _ :: _, h => by simp only [RpL] at h; rw [List.reverse_cons, List.reverse_cons]; exact (RpL.reverse h.2).append ⟨h.1, by simp [RpL]⟩
 | [], _ :: _, h => by simp [RpL] at h
 | _ :: _, [], h => by simp [RpL] at h
theorem swapNames_facts {kn : List (Str × NameKind)} {ts vs : List Expr} {names : List Str} (h : swapNames kn ts vs = some names) : names.length = ts.length ∧ vs.length = ts.length ∧ names.all (fun x => kn.lookup x == some .local) = true := by
 unfold swapNames at h
 dsimp only at h
 split at h
 ·rename_i hc
  cases h
  simp only [Bool.and_eq_true] at hc
  obtain ⟨⟨⟨⟨⟨⟨⟨⟨h1, h2⟩, h3⟩, h4⟩, h5⟩, h6⟩, h7⟩, h8⟩, h9⟩ := hc
  exact ⟨by simpa using h4, by simpa using h2, h5⟩
 ·cases h
theorem AS_AssignTup {ts vs k p k' p' pos names} {Φ : Fl → St → Prop} (hw : swapNames C.kn ts vs = some names)
  (h : AE Γ C (.Tuple vs k' p') st fun d st1 => ∃ ds, d = .tup ds ∧ ds.length = names.length ∧ Φ .next { st1 with m := (names.reverse.zip ds.reverse).foldl (fun m p => upd m p.1 p.2) st1.m }) :
  AS Γ C (.Assign [.Tuple ts k p] (.Tuple vs k' p') pos) st Φ := by
 intro s as Q E R kk
 obtain ⟨f1, f2, f3⟩ := swapNames_facts hw
 refine Assign_Tuple_swapped (names := names) (h s as _ E R ?_) rfl (swapped_is R.c hw)
 rintro v d st1 as1 s1 ⟨ds, rfl, hl, f⟩ R1 r1 x1 m1
 obtain ⟨a, us, rfl, ht, bl, ql⟩ := r1
 rw [show names.length = us.size by rw [ql.size, hl]]
 refine PyProof.Rows.unpackItems_tuple R1.c.hand ht fun h' he => ?_
 have keep : ∀ a o, s1.heap.get? a = some o → h'.get? a = some o := fun a o e => he a o (by rintro rfl; rw [none_end] at e; cases e) e
 have R' : Rel Γ C h' as1 st1 := R1.sub keep
 have X' : Ext C s1.heap as1 h' as1 := Ext.sub keep
 refine binds_run (s := { s1 with heap := h' }) (by rw [List.all_reverse]; exact f3) (by simp [hl]) R' (ql.ext R1 X').reverse fun s2 R2 x2 m2 => ?_
 exact kk .next .next _ as1 s2 f R2 rfl ((x1.trans R1 X').trans R' x2) (m1.trans ⟨m2.os, m2.gens⟩)
theorem AS_AssignUn {ts e k p pos} {Φ : Fl → St → Prop} (hv : (match e with | .Tuple _ _ _ => false | .List _ _ => false | _ => true) = true) (hs : noStar ts = true)
  (h : AE Γ C e st fun d st1 => ∃ ds, d = .tup ds ∧ ds.length = ts.length ∧ AAsL Γ C ts ds st1 fun st2 => Φ .next st2) : AS Γ C (.Assign [.Tuple ts k p] e pos) st Φ := by
 intro s as Q E R kk
 refine Assign_Tuple (h s as _ E R ?_) ?_ ?_
 ·rintro v d st1 as1 s1 ⟨ds, rfl, hl, f⟩ R1 r1 x1 m1
  exact AAs_Tuple hs hl f s1 as1 v _ E R1 r1 fun st2 s2 h2 R2 x2 m2 => kk .next .next st2 as1 s2 h2 R2 rfl (x1.trans R1 x2) (m1.trans m2)
 ·cases e <;> rfl
 ·unfold swappedStores
  cases e <;> first | rfl | exact no_tf hv
/-! for loops -/
noncomputable def AFor (Γ : Gl prog w) (C : Cx) (I : Value) (ds : List D) (target : Expr) (body orelse : List Stmt) (st : St) (Φ : Fl → St → Prop) : Prop :=
 ∀ (s : Shared) (as : List Addr) (Ia : Addr) (wr : List Addr) (R' : Result → Shared → Prop), I = .ref Ia → Rel Γ C s.heap as st → ItOk Γ C s.heap as Ia wr ds →
  (∀ f fl st' as' s', Φ fl st' → Rel Γ C s'.heap as' st' → relF C s'.heap as' fl f → ExtX wr C s.heap as s'.heap as' → Sm s s' → R' (.ok f) s') →
  codeAny (model prog w) C.A (.forLoop target I body orelse C.env) R' s
theorem for_step {target body orelse} {I : Addr} {s : Shared} {R' : Result → Shared → Prop}
  (h : wpAny (model prog w) C.A (pyNext (.ref I)) (fun r s₁ => match r with
   | none => codeAny (model prog w) C.A (.block orelse C.env) R' s₁
   | some v => wpAny (model prog w) C.A (letOwnedTupleGo target (.ref I) v) (fun _ s₁' => wpAny (model prog w) C.A (assign target C.env v) (fun _ s₂ => wpAny (model prog w) C.A (execs body C.env) (fun f s₃ => match f with
     | .next | .cont => codeAny (model prog w) C.A (.forLoop target (.ref I) body orelse C.env) R' s₃
     | .brk => R' (.ok .next) s₃
     | .ret v => R' (.ok (.ret v)) s₃) (notedBy (model prog w) C.A C.env fun e s' => R' (.error e) s') s₂) (notedBy (model prog w) C.A C.env fun e s' => R' (.error e) s') s₁') (notedBy (model prog w) C.A C.env fun e s' => R' (.error e) s') s₁) (notedBy (model prog w) C.A C.env fun e s' => R' (.error e) s') s) :
  codeAny (model prog w) C.A (.forLoop target (.ref I) body orelse C.env) R' s := by
 refine codeAny_of_tree ?_
 show wpAny _ C.A ((forTurn target (.ref I) body orelse C.env).onRaise (fun x => do noteFrame x C.env; theTreesLotGoes x)) _ _ s
 refine wpAny_noted ?_
 simp only [forTurn]
 refine wpAny_bind (wpAny_standAt (wpAny_bind (wpAny_onRaise (wpAny_mono h (fun r s₁ h₁ => ?_) fun _ _ h' => wpAny_standAt h'))))
 cases r with
 | none => exact wpAny_pure ⟨rfl, h₁⟩
 | some v =>
  refine wpAny_bind (wpAny_mono h₁ (fun _ s₁' h₁' => ?_) fun _ _ h' => h')
  refine wpAny_bind (wpAny_mono h₁' (fun _ s₂ h₂ => wpAny_bind (wpAny_mono h₂ (fun f s₃ h₃ => ?_) fun _ _ h' => h')) fun _ _ h' => h')
  cases f with
  | next => exact wpAny_pure ⟨rfl, h₃⟩
  | cont => exact wpAny_pure ⟨rfl, h₃⟩
  | brk => exact wpAny_pure h₃
  | ret v => exact wpAny_pure h₃
theorem letGo_no {target : Expr} {I : Addr} {s : Shared} {v : Value} {Q : Unit → Shared → Prop} {E : Value → Shared → Prop} (hh : ∃ o, s.heap.get? I = some o ∧ okIt o) (h : Q () s) :
  wpAny (model prog w) C.A (letOwnedTupleGo target (.ref I) v) Q E s := by
 obtain ⟨o, ho, nm, vs, hc, hd, hm⟩ := hh
 unfold letOwnedTupleGo
 have main : wpAny (model prog w) C.A (do
   let (.ref r, .ref a) := ((Value.ref I, v) : Value × Value) | return
   let o ← load r
   match o.cls, o.data with
   | .type n, .fields vs =>
    if ["enumerate", "zip", "dict_itemiterator", "dict_reverseitemiterator", "odict_iterator", "itertools.zip_longest", "itertools.pairwise"].contains n && vs[0]? == some (rawInt a) then
     rule "for.unpacks-the-owned-tuple"
     updateField r 0 .none
   | _, _ => pure ()) Q E s := by
  cases v <;> first | exact wpAny_pure h | skip
  case ref a =>
   refine wpAny_bind (wpAny_load ho ?_)
   rw [hc, hd]
   have : (["enumerate", "zip", "dict_itemiterator", "dict_reverseitemiterator", "odict_iterator", "itertools.zip_longest", "itertools.pairwise"].contains nm) = false := by
    revert hm; intro hm
    simp only [List.mem_cons, List.not_mem_nil, or_false] at hm
    rcases hm with rfl | rfl | rfl | rfl | rfl <;> decide
   simp only [this, Bool.false_and, Bool.false_eq_true, if_false]
   exact wpAny_pure h
 cases target <;> first | exact wpAny_pure h | exact main
theorem AFor_nil {I target body orelse} {Φ : Fl → St → Prop} (h : AB Γ C orelse st Φ) : AFor Γ C I [] target body orelse st Φ := by
 intro s as Ia wr R' eI R x k
 subst eI
 refine for_step (next_end R x fun s1 R1 _ x1 m1 => ?_)
 refine codeAny_block (h s1 as _ _ R1 fun f fl st2 as2 s2 f2 R2 r2 x2 m2 => ?_)
 exact k f fl st2 as2 s2 f2 R2 r2 (x1.trans R1 (x2.x wr)) (m1.trans m2)
theorem AFor_cons {I d ds target body orelse} {Φ : Fl → St → Prop}
  (h : AAs Γ C target d st fun st1 => AB Γ C body st1 fun fl st2 => match fl with | .next => AFor Γ C I ds target body orelse st2 Φ | .cont => AFor Γ C I ds target body orelse st2 Φ | .brk => Φ .next st2 | .ret d => Φ (.ret d) st2) :
  AFor Γ C I (d :: ds) target body orelse st Φ := by
 intro s as Ia wr R' eI R x k
 subst eI
 refine for_step (next_item R x fun v s1 r1 it1 R1 x1 m1 => ?_)
 refine letGo_no it1.head ?_
 refine h s1 as v _ _ R1 r1 fun st2 s2 h2 R2 x2 m2 => ?_
 refine h2 s2 as _ _ R2 fun f fl st3 as3 s3 h3 R3 r3 x3 m3 => ?_
 have X := x1.trans R1 ((x2.trans R2 x3).x wr)
 have M := m1.trans (m2.trans m3)
 have go : AFor Γ C (.ref Ia) ds target body orelse st3 Φ → codeAny (model prog w) C.A (.forLoop target (.ref Ia) body orelse C.env) R' s3 := fun q =>
  q s3 as3 Ia wr R' rfl R3 (it1.ext R1 (x2.trans R2 x3)) fun f fl st4 as4 s4 f4 R4 r4 x4 m4 => k f fl st4 as4 s4 f4 R4 r4 (X.trans R3 x4) (M.trans m4)
 cases fl with
 | next => simp only [relF] at r3; subst r3; exact go h3
 | cont => simp only [relF] at r3; subst r3; exact go h3
 | brk => simp only [relF] at r3; subst r3; exact k _ .next st3 as3 s3 h3 R3 rfl X M
 | ret d => obtain ⟨v, rfl, rv⟩ := r3; exact k _ (.ret d) st3 as3 s3 h3 R3 ⟨v, rfl, rv⟩ X M
noncomputable def noSet (e : Expr) : Bool := !(Nat.beq e.ctorIdx 7)
theorem folded_no {e : Expr} {env : Env} (h : noSet e = true) (x : Value) : foldedSetIterable e env x = pure x := by
 cases e <;> first | rfl | exact no_tf h
theorem AS_For {target iter body orelse pos} {Φ : Fl → St → Prop} (hn : noSet iter = true) (h : AE Γ C iter st fun d st1 => ∃ ds, iterD d = some ds ∧ ∀ I, AFor Γ C I ds target body orelse st1 Φ) : AS Γ C (.For target iter body orelse pos) st Φ := by
 intro s as Q E R k
 show wpAny _ _ (do
  standAt pos
  let x ← foldedSetIterable iter C.env (← eval iter C.env)
  standAt iter.pos
  runOwn (.forLoop target (← holding [x] (pyIter x)) body orelse C.env) C.env) Q E s
 refine wpAny_bind (wpAny_standAt (wpAny_bind (h s as _ E R ?_)))
 rintro v d st1 as1 s1 ⟨ds, e, f⟩ R1 r1 x1 m1
 refine wpAny_bind (wpAny_of_eq (folded_no hn v) (wpAny_bind (wpAny_standAt (wpAny_bind (wpAny_holding (iter_is R1 r1 e fun I wr s2 it2 R2 k2 n2 m2 => ?_))))))
 refine wpAny_runOwn ?_
 have hA : C.A.mark none = C.A := by
  cases C.A
  simp only [Around.mark, Option.none_or]
 rw [hA]
 refine f (.ref I) s2 as1 I wr _ rfl R2 it2 fun fl' fl st3 as3 s3 f3 R3 r3 x3 m3 => ?_
 exact k fl' fl st3 as3 s3 f3 R3 r3 (x1.trans R1 (x3.ext k2 n2)) (m1.trans (m2.trans m3))
end
end
section
theorem int16_gives {a b : Nat} {n : Int} (hr : (int_private% "readNumeral") 0 16 [a, b] = (int_private% "Numeral.value") n) (h0 : a ≠ 0) (h1 : b ≠ 0) (h2 : a < 128) (h3 : b < 128) (u v : Tok) : Gives (Builtin.«int.__new__» ⟨[.type "int", .str (S [a,b]) u, .int 16 v], []⟩) (.int n) :=
 .of_wp fun M A E s Q h => by
  obtain ⟨hp, g, d, tk, os⟩ := s
  have f1 := F.conv_sub_int
  have f2 := F.madeHere_int
  have hT : (if ((S [a, b]).cps.all fun x => decide (x < 128)) = true then (S [a, b]).cps.toList else Unicode.numberText (S [a, b]).cps.toList) = [a, b] := by
   rw [if_pos (by simp [S, h2, h3])]; simp [S]
  have hW : [a, b].takeWhile (fun x => x != 0) = [a, b] := by
   have e0 : (a != 0) = true := by simpa using h0
   have e1 : (b != 0) = true := by simpa using h1
   simp only [List.takeWhile, e0, e1]
  repeat (any_goals (first
   | assumption
   | wp_step))
  all_goals simp only [hT, hW]
  all_goals (refine wpAny_ite_true (by simp) ?_)
  all_goals (refine wpAny_bind (wpAny_pure ?_))
  all_goals (simp only [show Int.toNat 16 = 16 from rfl, hr])
  all_goals (refine wpAny_ite_true (by simp) ?_)
  repeat (any_goals (first
   | assumption
   | wp_step))
  all_goals exact ⟨_, rfl, h⟩
theorem r3D : (int_private% "readNumeral") 0 16 [51, 68] = (int_private% "Numeral.value") 61 := by kernel_rfl
theorem rE9 : (int_private% "readNumeral") 0 16 [69, 57] = (int_private% "Numeral.value") 233 := by kernel_rfl
theorem r20 : (int_private% "readNumeral") 0 16 [50, 48] = (int_private% "Numeral.value") 32 := by kernel_rfl
theorem r09 : (int_private% "readNumeral") 0 16 [48, 57] = (int_private% "Numeral.value") 9 := by kernel_rfl
namespace FF
theorem typeCall_int_2 (a b : Value) : checkTypeCall "int" ⟨[a, b], []⟩ = pure () := by kernel_rfl
theorem newCall_int_2 (a b : Value) : checkBuiltinCall "int.__new__" ⟨[.type "int", a, b], []⟩ = pure () := by kernel_rfl
end FF
section
variable {prog : Program} {w : World} {A : Around} {E : Value → Shared → Prop} {s : Shared} {Q : Value → Shared → Prop}
theorem int16_call {a b : Nat} {n : Int} (hr : (int_private% "readNumeral") 0 16 [a, b] = (int_private% "Numeral.value") n) (h0 : a ≠ 0) (h1 : b ≠ 0) (h2 : a < 128) (h3 : b < 128) {u v : Tok} (h : Q (.int n s.toks) { s with toks := s.toks + 1 }) :
  wpAny (model prog w) A (call (.type "int") [.str (S [a, b]) u, .int 16 v]) Q E s :=
 callType_new F.called_int F.newNe_int (FF.typeCall_int_2 _ _) (FF.newCall_int_2 _ _) (fun obj => F.initArgs_range_2 obj _ _) F.entry_int_new (int16_gives hr h0 h1 h2 h3 u v).meets (show (Made.int n).post _ s from ⟨rfl, h⟩)
end
end
section
section
variable {Γ : Gl prog w} {C : Cx} {st : St}
theorem Rel.okh {h as} (R : Rel Γ C h as st) : Γ.ok h := Γ.okmono _ _ R.c.ok fun a o e n => R.base a o e fun hx => n (R.c.exP a hx).1
theorem Rel.gOut {h as} (R : Rel Γ C h as st) : ∀ a, Γ.G a → ¬ C.X a ∧ a ∉ as := fun a ha => ⟨fun hx => R.c.xg a hx ha, fun hm => by
 have := Γ.okG _ a R.c.ok ha
 rw [R.muNew a hm] at this; cases this⟩
/-! global names -/
theorem load_global {x : Str} {v : Value} (hk : C.kn.lookup x = some .globalImplicit) (hv : Γ.nv x = some v) {s : Shared} {as : List Addr} {Q : Value → Shared → Prop} {E : Value → Shared → Prop} (R : Rel Γ C s.heap as st) (q : Q v s) :
  wpAny (model prog w) C.A (loadName C.env x) Q E s := by
 rw [loadName_read R.c.fun_ (R.c.kns x _ hk)]
 have hg : s.heap.Ns C.env.globals Γ.mg := by rw [R.c.glo]; exact Γ.okg _ R.okh
 rcases Γ.oknv x v hv with h | ⟨h1, h2⟩
 ·exact loadGlobal_global hg h q
 ·exact loadGlobal_builtin hg h1 (by rw [R.c.blt]; exact Γ.okb _ R.okh) h2 q
theorem AE_NameV {x : Str} {p v} {Φ : D → St → Prop} (hn : nmOk x = true) (hk : C.kn.lookup x = some .globalImplicit) (hv : Γ.nv x = some v) (h : Φ (.val v) st) : AE Γ C (.Name x p) st Φ :=
 AW.pure h fun s _ _ _ R q => wpAny_Name (load_global hk hv R (q _ s.toks rfl)) (nmOk_d hn)
theorem AE_NameG {x : Str} {p d} {Φ : D → St → Prop} (hn : nmOk x = true) (hk : C.kn.lookup x = some .globalImplicit) (hd : Γ.gd x = some d) (h : Φ d st) : AE Γ C (.Name x p) st Φ :=
 AW.pure h fun s as _ _ R q => by
  obtain ⟨v, hv, hr⟩ := Γ.okgd x d s.heap C.X as hd R.okh R.gOut
  exact wpAny_Name (load_global hk hv R (q _ s.toks hr)) (nmOk_d hn)
/-! calls -/
noncomputable def ACall (Γ : Gl prog w) (C : Cx) (f : Value) (ds : List D) (st : St) (Φ : D → St → Prop) : Prop :=
 ∀ (s : Shared) (as : List Addr) (vs : List Value) (Q : Value → Shared → Prop) (E : Value → Shared → Prop), Rel Γ C s.heap as st → RpL s.heap C.X as ds vs →
  (∀ v d st' as' s', Φ d st' → Rel Γ C s'.heap as' st' → Rp s'.heap C.X as' d v → Ext C s.heap as s'.heap as' → Sm s s' → Q v s') →
  wpAny (model prog w) C.A (call f vs []) Q E s
theorem args_is {f : Value} {es : List Expr} {Φ : List D → St → Prop} (h : AEs Γ C es st Φ) {s : Shared} {as : List Addr} {Q : Args → Shared → Prop} {E : Value → Shared → Prop} (R : Rel Γ C s.heap as st)
  (k : ∀ vs ds st' as' s', Φ ds st' → Rel Γ C s'.heap as' st' → RpL s'.heap C.X as' ds vs → Ext C s.heap as s'.heap as' → Sm s s' → Q ⟨vs, []⟩ s') :
  wpAny (model prog w) C.A (evalArgs f true (es.map fun e => (false, eval e C.env)) []) Q E s := by
 cases es with
 | nil => exact evalArgs_nil3 (k [] [] st as s h R (by simp [RpL]) (Ext.refl ..) (Sm.refl s))
 | cons e es =>
  refine evalArgs_plain (h.run s as _ E R ?_)
  exact fun vs ds st' as' s' f1 R1 r1 x1 m1 => k vs ds st' as' s' f1 R1 r1 x1 m1
theorem noStar_plain {env : Env} : ∀ {es : List Expr}, (es.map fun e => (false, eval e env)).any (·.1) = false
 | [] => rfl
 | _ :: r => by simp only [List.map_cons, List.any_cons, Bool.false_or]; exact noStar_plain (es := r)
noncomputable def callable (Γ : Gl prog w) : Value → Prop
 | .builtin _ => True
 | .type _ => True
 | .ref f => ∃ fd, Γ.fn f = some fd
 | _ => False
theorem callWith_is {f : Value} {es : List Expr} {pos : Pos} {Φ : D → St → Prop} (hf : callable Γ f) (h : AEs Γ C es st fun ds st1 => ACall Γ C f ds st1 Φ) {s : Shared} {as : List Addr} {Q : Value → Shared → Prop} {E : Value → Shared → Prop} (R : Rel Γ C s.heap as st)
  (k : ∀ v d st' as' s', Φ d st' → Rel Γ C s'.heap as' st' → Rp s'.heap C.X as' d v → Ext C s.heap as s'.heap as' → Sm s s' → Q v s') :
  wpAny (model prog w) C.A (callWith pos f [] (es.map fun e => (false, eval e C.env)) []) Q E s := by
 have go : ∀ vs ds st1 as1 s1, ACall Γ C f ds st1 Φ → Rel Γ C s1.heap as1 st1 → RpL s1.heap C.X as1 ds vs → Ext C s.heap as s1.heap as1 → Sm s s1 → wpAny (model prog w) C.A (call f ([] ++ vs) []) Q E s1 := fun vs ds st1 as1 s1 h1 R1 r1 x1 m1 =>
  h1 s1 as1 vs Q E R1 r1 fun v d st2 as2 s2 f2 R2 r2 x2 m2 => k v d st2 as2 s2 f2 R2 r2 (x1.trans R1 x2) (m1.trans m2)
 cases f <;> simp only [callable] at hf
 case builtin id => exact Calls.callWith_builtin noStar_plain (args_is h R fun vs ds st1 as1 s1 h1 R1 r1 x1 m1 => go vs ds st1 as1 s1 h1 R1 r1 x1 m1)
 case type T => exact PyProof.Rows.callWith_type noStar_plain (args_is h R fun vs ds st1 as1 s1 h1 R1 r1 x1 m1 => go vs ds st1 as1 s1 h1 R1 r1 x1 m1)
 case ref a =>
  obtain ⟨fd, hfd⟩ := hf
  obtain ⟨o, ho, hd, _⟩ := Γ.okfn _ a fd R.okh hfd
  refine Calls.callWith_function (o := o) (fd := fd) (args_is h R fun vs ds st1 as1 s1 h1 R1 r1 x1 m1 => ⟨⟨x1.keep a o ho (R.notMu ho (.inr fun _ _ => ob_no hd rfl)) (R.notL ho (fun _ _ => ob_no hd rfl)) (R.notOwn ho (fun _ => ob_no hd rfl)) (R.notEx ho (.inl fun _ => ob_no hd rfl)), hd⟩, go vs ds st1 as1 s1 h1 R1 r1 x1 m1⟩)
theorem AE_Call {x : Str} {p f args pos} {Φ : D → St → Prop} (hn : nmOk x = true) (hk : C.kn.lookup x = some .globalImplicit) (hv : Γ.nv x = some f) (hs : noStar args = true) (hf : callable Γ f)
  (h : AEs Γ C args st fun ds st1 => ACall Γ C f ds st1 Φ) : AE Γ C (.Call (.Name x p) args [] pos) st Φ := by
 intro s as Q E R k
 exact Call_Name (back_plain hs) (wpAny_Name (load_global hk hv R (callWith_is hf h R k)) (nmOk_d hn))
end
end
section
section
variable {Γ : Gl prog w} {C : Cx} {st : St}
noncomputable def baseOk (e : Expr) : Bool := !(Nat.beq e.ctorIdx 16)
theorem base_is {o : Expr} {attr : Str} {env : Env} {whole : Sem Value} (h : baseOk o = true) : attributeBase o attr env whole = whole := by
 cases o <;> first | rfl | exact no_tf h
noncomputable def ofType (Γ : Gl prog w) (C : Cx) (d : D) (st : St) (T : String) : Prop :=
 ∀ (s : Shared) (as : List Addr) (v : Value), Rel Γ C s.heap as st → Rp s.heap C.X as d v → s.TypeIs v T ∧ ∀ a, v = .ref a → ∃ ob, s.heap.get? a = some ob ∧ ob.dict = none
theorem ofType_str {l : List Nat} : ofType Γ C (.str l) st "str" := fun s as v R r => by
 obtain ⟨⟨t, rfl⟩, _⟩ := r
 exact ⟨typeIs_str _ _ _, fun a e => nomatch e⟩
theorem ofType_mut {i : Nat} {l : List D} (h : st.mu[i]? = some l) : ofType Γ C (.mut i) st "list" := fun s as v R r => by
 obtain ⟨a, ha, rfl⟩ := r
 obtain ⟨a', vs, ha', ⟨n, hl⟩, _, _⟩ := MuIs.get R.mus h
 rw [ha] at ha'; cases ha'
 exact ⟨⟨_, hl, rfl⟩, fun b e => by cases e; exact ⟨_, hl, rfl⟩⟩
theorem AE_Meth {o : Expr} {name : Str} {apos args pos T id} {Φ : D → St → Prop} (hb : baseOk o = true) (hfew : decide (args.length < 30) = true) (hs : noStar args = true) (hl : (apos.endLine == pos.line) = true)
  (pa : PlainAttrs T) (slot : Slot T name id) (hty : typeOf (.builtin id) = pure (.type "method_descriptor"))
  (h : AE Γ C o st fun d st1 => ofType Γ C d st1 T ∧ AEs Γ C args st1 fun ds st2 => ACall Γ C (.builtin id) (d :: ds) st2 Φ) : AE Γ C (.Call (.Attribute o name apos) args [] pos) st Φ := by
 intro s as Q E R k
 have hb' := back_plain (env := C.env) (pos := pos) hs
 refine wpAny_Call_method (base_is hb) ?_ hl pa slot hty (h s as _ E R ?_)
 ·rw [hb']
  have : (args.map fun e => (false, eval e C.env)).all (fun x => !x.1) = true := by
   rw [List.all_eq_true]; intro x hx; obtain ⟨e, _, rfl⟩ := List.mem_map.mp hx; rfl
  rw [this]
  show (true && true && decide (args.length + 0 + 0 < 30)) = true
  simpa using hfew
 ·intro v d st1 as1 s1 ⟨ht, h1⟩ R1 r1 x1 m1
  obtain ⟨hT, hd⟩ := ht s1 as1 v R1 r1
  refine ⟨hT, hd, ?_⟩
  rw [hb']
  refine Calls.callWith_builtin noStar_plain (args_is h1 R1 fun vs ds st2 as2 s2 h2 R2 r2 x2 m2 => ?_)
  refine h2 s2 as2 (v :: vs) Q E R2 ⟨r1.ext R1 x2, r2⟩ fun u d' st3 as3 s3 f3 R3 r3 x3 m3 => ?_
  exact k u d' st3 as3 s3 f3 R3 r3 ((x1.trans R1 x2).trans R2 x3) (m1.trans (m2.trans m3))
/-! lists written on -/
theorem MuIs.set {h h' X as as'} {b : Addr} {ds : List D} {vs : Array Value} (K : Lean1 h X as h' X as') (hb : h'.PlainList b vs) (hn : ds.length ≤ 1048576) (hr : RpL h' X as' ds vs.toList) :
  ∀ {l : List Addr} {m : List (List D)} {i : Nat}, l[i]? = some b → l.Nodup → (∀ a ∈ l, a ≠ b → ∀ xs, h.PlainList a xs → h'.PlainList a xs) → MuIs h X as l m → MuIs h' X as' l (m.set i ds) := by
 intro l m i e nd g q
 induction q generalizing i with
 | nil => rw [List.getElem?_nil] at e; cases e
 | cons vs' h1 h2 h3 h4 ih =>
  have nd' := List.nodup_cons.mp nd
  cases i with
  | zero => cases e; exact .cons vs hb hn hr (h4.lift K fun a ha xs hx => g a (.tail _ ha) (fun y => nd'.1 (y ▸ ha)) xs hx)
  | succ i => exact .cons vs' (g _ (.head _) (fun y => nd'.1 (y ▸ List.mem_of_getElem? e)) _ h1) h2 (h3.lift K) (ih e nd'.2 fun a ha => g a (.tail _ ha))
theorem Rel.setMu {h h' as} (R : Rel Γ C h as st) {i : Nat} {b : Addr} {ds : List D} {vs : Array Value} (hi : as[i]? = some b) (hs : Heap.SameBut b h h') (hb : h'.PlainList b vs) (hn : ds.length ≤ 1048576) (hr : RpL h C.X as ds vs.toList) :
  Rel Γ C h' as { st with mu := st.mu.set i ds } ∧ Ext C h as h' as := by
 have hm : b ∈ as := List.mem_of_getElem? hi
 have kp : ∀ a o, h.get? a = some o → a ≠ b → h'.get? a = some o := fun a o e n => (hs.2 a n).trans e
 have kd : ∀ a o, h.get? a = some o → (∀ xs n, o.data ≠ .seq xs n) → h'.get? a = some o := fun a o e q => kp a o e fun y => R.notMu e (.inr q) (y ▸ hm)
 have K : Lean1 h C.X as h' C.X as := ⟨fun a o xs n e hd hc => kp a o e fun y => hc.elim (fun hc => R.notMu e (.inl (by rw [hc]; decide)) (y ▸ hm)) fun hc => hc.2 (y ▸ hm), fun a xs hl n1 n2 => ⟨n1, n2⟩, fun i a e => e, fun a o e hf => kd a o e (hf.1.elim fun _ hv _ _ => ob_no hv rfl)⟩
 exact ⟨⟨R.c, fun a o e n => kp a o (R.base a o e n) fun y => no_some ((R.muNew _ hm).symm.trans (y ▸ e)), fun a hx => (R.exA a hx).imp fun o => Exists.imp fun vs q => ⟨kd a o q.1 fun _ _ => ob_no q.2.1 rfl, q.2⟩,
  R.ns.imp fun m => Exists.imp fun o => Exists.imp fun es => Exists.imp fun ep q => ⟨kd _ o q.1 fun _ _ => ob_no q.2.1 rfl, q.2⟩, fun c hc => (R.cells c hc).imp fun o => Exists.imp fun v q => ⟨kd _ o q.1 fun _ _ => ob_no q.2 rfl, q.2⟩,
  fun x d e => (R.vars x d e).imp fun v q => ⟨q.1.sub fun a o e q _ => kd a o e q, q.2.lift K⟩, MuIs.set K hb hn (hr.lift K) hi R.nodup (fun a ha n xs => Exists.imp fun k hk => kp _ _ hk n) R.mus, R.muNew, R.nodup,
  R.inv.imp fun F q => ⟨q.1, fun p hp => ⟨kd _ _ (q.2 p hp).1 ((q.2 p hp).2.2.elim fun _ hv _ _ => ob_no hv rfl), (q.2 p hp).2⟩⟩⟩, ⟨fun a o e n _ _ _ => kp a o e fun y => n (y ▸ hm), ⟨[], (List.append_nil _).symm⟩, fun a ha => .inl ha⟩⟩
theorem ACall_append {i : Nat} {l : List D} {d : D} {Φ : D → St → Prop} (e : st.mu[i]? = some l) (hn : l.length < 1048576) (h : Φ .none { st with mu := st.mu.set i (l ++ [d]) }) : ACall Γ C (.builtin "list.append") [.mut i, d] st Φ := by
 intro s as vs Q E R r k
 obtain ⟨v, u, rfl, ⟨⟨a, ha, rfl⟩, r2⟩⟩ := RpL.two r
 obtain ⟨a', xs, ha', hl, bl, ql⟩ := MuIs.get R.mus e
 rw [ha] at ha'; cases ha'
 refine wpAny_list_append_plain hl (fun h' hl' hs' => ?_) (by rw [ql.size, sl_is]; omega)
 have N := R.setMu (ds := l ++ [d]) (vs := xs.push u) ha hs' hl' (by simp; omega) (by rw [Array.toList_push]; exact ql.append ⟨r2, by simp [RpL]⟩)
 exact k .none .none _ as { s with heap := h' } h N.1 rfl N.2 ⟨rfl, id⟩
end
end
section
section
variable {Γ : Gl prog w} {C : Cx} {st : St}
noncomputable def cp (x : Str) : List Nat := x.cps.toList
theorem S_cp (x : Str) : S (cp x) = x := (S_cps x).symm
theorem cp_S (l : List Nat) : cp (S l) = l := by simp [cp, S]
theorem cp_len (x : Str) : (cp x).length = x.length := by simp [cp, Str.length]
theorem ACall1 {f : Value} {d c : D} {Φ : D → St → Prop} (h : Φ c st)
  (k : ∀ (s : Shared) (as : List Addr) (v : Value) (Q : Value → Shared → Prop) (E : Value → Shared → Prop), Rel Γ C s.heap as st → Rp s.heap C.X as d v → (∀ y t, Rp s.heap C.X as c y → Q y { s with toks := t }) → wpAny (model prog w) C.A (call f [v] []) Q E s) : ACall Γ C f [d] st Φ := by
 intro s as vs Q E R r q
 obtain ⟨v, rfl, r'⟩ := RpL.one r
 exact k s as v Q E R r' fun y t ry => q y c st as { s with toks := t } h R ry (Ext.refl ..) .of
theorem ACall2 {f : Value} {d e c : D} {Φ : D → St → Prop} (h : Φ c st)
  (k : ∀ (s : Shared) (as : List Addr) (v u : Value) (Q : Value → Shared → Prop) (E : Value → Shared → Prop), Rel Γ C s.heap as st → Rp s.heap C.X as d v → Rp s.heap C.X as e u → (∀ y t, Rp s.heap C.X as c y → Q y { s with toks := t }) → wpAny (model prog w) C.A (call f [v, u] []) Q E s) : ACall Γ C f [d, e] st Φ := by
 intro s as vs Q E R r q
 obtain ⟨v, u, rfl, r'⟩ := RpL.two r
 exact k s as v u Q E R r'.1 r'.2 fun y t ry => q y c st as { s with toks := t } h R ry (Ext.refl ..) .of
noncomputable def lenD (mu : List (List D)) : D → Option Nat
 | .str s => some s.length
 | .lst l => some l.length
 | .mut i => (mu[i]?).map List.length
 | _ => none
theorem ACall_len {d n} {Φ : D → St → Prop} (e : lenD st.mu d = some n) (h : Φ (.int n) st) : ACall Γ C (.builtin "len") [d] st Φ := by
 refine ACall1 h fun s as v Q E R r q => ?_
 have lst : ∀ l, itemsD st.mu d = some l → l.length = n → wpAny (model prog w) C.A (call (.builtin "len") [v] []) Q E s := fun l e' en => by
  obtain ⟨a, vs, rfl, hl, bl, ql⟩ := R.items r e'
  refine call_len_list hl (by rw [ql.size]; omega) ?_
  rw [ql.size, en]; exact q _ _ ⟨_, rfl⟩
 cases d <;> first | exact no_some e | (replace e := Option.some.inj e) | simp only [lenD] at e
 case str l =>
  obtain ⟨⟨t, rfl⟩, bl⟩ := r
  refine PySem.P.len_str (by rw [S_len]; omega) ?_
  rw [S_len, e]; exact q _ _ ⟨_, rfl⟩
 case lst l => exact lst l rfl e
 case «mut» i =>
  cases e' : st.mu[i]? with
  | none => rw [e'] at e; cases e
  | some l => rw [e'] at e; exact lst l e' (by simpa using e)
theorem ACall_ord {c : Nat} {Φ : D → St → Prop} (h : Φ (.int c) st) : ACall Γ C (.builtin "ord") [.str [c]] st Φ := by
 refine ACall1 h fun s as v Q E R r q => ?_
 obtain ⟨⟨t, rfl⟩, _⟩ := r
 exact PySem.P.ord_of_char (q _ _ ⟨_, rfl⟩)
theorem ACall_chr {i : Int} {Φ : D → St → Prop} (h0 : 0 ≤ i) (h1 : i ≤ 0x10FFFF) (h : Φ (.str [i.toNat]) st) : ACall Γ C (.builtin "chr") [.int i] st Φ := by
 refine ACall1 h fun s as v Q E R r q => ?_
 obtain ⟨t, rfl⟩ := r
 exact PySem.P.chr_of_int (by simp; omega) (q _ _ ⟨⟨_, rfl⟩, by simp⟩)
theorem mem_lk {α β : Type} [BEq α] [LawfulBEq α] : ∀ {l : List (α × β)} {x : α} {v : β}, List.lookup x l = some v → (x, v) ∈ l
 | [], _, _, h => by simp at h
 | (a, b) :: l, x, v, h => by
  rw [List.lookup_cons] at h
  cases e : x == a with
  | true => rw [e] at h; cases h; rw [beq_iff_eq.mp e]; exact .head _
  | false => rw [e] at h; exact .tail _ (mem_lk h)
noncomputable def hexT : List (List Nat × Int) := [([51, 68], 61), ([69, 57], 233), ([50, 48], 32), ([48, 57], 9)]
noncomputable def hex2 (l : List Nat) : Option Int := hexT.lookup l
theorem hex2_mem {l : List Nat} {i : Int} (e : hex2 l = some i) : (l, i) ∈ hexT := mem_lk e
theorem ACall_int16 {l : List Nat} {i : Int} {Φ : D → St → Prop} (e : hex2 l = some i) (h : Φ (.int i) st) : ACall Γ C (.type "int") [.str l, .int 16] st Φ := by
 refine ACall2 h fun s as v u Q E R r1 r2 q => ?_
 obtain ⟨⟨t, rfl⟩, _⟩ := r1; obtain ⟨t2, rfl⟩ := r2
 have m := hex2_mem e
 simp only [hexT, List.mem_cons, List.not_mem_nil, or_false, Prod.mk.injEq] at m
 rcases m with ⟨rfl, rfl⟩ | ⟨rfl, rfl⟩ | ⟨rfl, rfl⟩ | ⟨rfl, rfl⟩
 ·exact int16_call r3D (by decide) (by decide) (by decide) (by decide) (q _ _ ⟨_, rfl⟩)
 ·exact int16_call rE9 (by decide) (by decide) (by decide) (by decide) (q _ _ ⟨_, rfl⟩)
 ·exact int16_call r20 (by decide) (by decide) (by decide) (by decide) (q _ _ ⟨_, rfl⟩)
 ·exact int16_call r09 (by decide) (by decide) (by decide) (by decide) (q _ _ ⟨_, rfl⟩)
theorem ACall_isinstance_str {l : List Nat} {Φ : D → St → Prop} (h : Φ (.bool true) st) : ACall Γ C (.builtin "isinstance") [.str l, .val (.type "str")] st Φ := by
 refine ACall2 h fun s as v u Q E R r1 r2 q => ?_
 obtain ⟨⟨t, rfl⟩, _⟩ := r1; subst r2
 exact call_isinstance_yes (typeIs_str s _ t) (by rfl) PySem.F.sub_str_str (q _ s.toks rfl)
/-! ranges -/
theorem rp_range {h : Heap} {X as} {a b c : Int} {r : Addr} {t t' t'' : Tok} (hr : IsRange h r a b c t t' t'') : Rp h X as (.rng a b c) (.ref r) := by
 exact ⟨r, t, t', t'', rfl, hr⟩
theorem ACall_range1 {b : Int} {Φ : D → St → Prop} (h : Φ (.rng 0 b 1) st) : ACall Γ C (.type "range") [.int b] st Φ := by
 intro s as vs Q E R r q
 obtain ⟨v, rfl, ⟨t, rfl⟩⟩ := RpL.one r
 refine call_range_1 ?_
 have N := R.push { cls := .type "range", data := .fields #[.int 0 s.toks, .int b t, .int 1 (s.toks + 1)] }
 exact q _ (.rng 0 b 1) st as { s with heap := s.heap.push _, toks := _ } h N.1 (rp_range (IsRange.new s.heap 0 b 1 _ _ _)) N.2 .of
theorem ACall_range2 {a b : Int} {Φ : D → St → Prop} (h : Φ (.rng a b 1) st) : ACall Γ C (.type "range") [.int a, .int b] st Φ := by
 intro s as vs Q E R r q
 obtain ⟨v, u, rfl, ⟨⟨t, rfl⟩, ⟨t', rfl⟩⟩⟩ := RpL.two r
 refine call_range_2 ?_
 have N := R.push { cls := .type "range", data := .fields #[.int a t, .int b t', .int 1 s.toks] }
 exact q _ (.rng a b 1) st as { s with heap := s.heap.push _, toks := _ } h N.1 (rp_range (IsRange.new s.heap a b 1 _ _ _)) N.2 .of
theorem ACall_range3 {a b c : Int} {Φ : D → St → Prop} (hc : c ≠ 0) (hp : Builtin.divisionGoesByPylong (b - a) c = false) (h : Φ (.rng a b c) st) : ACall Γ C (.type "range") [.int a, .int b, .int c] st Φ := by
 intro s as vs Q E R r q
 obtain ⟨v, u, x, rfl, ⟨⟨t, rfl⟩, ⟨t', rfl⟩, ⟨t'', rfl⟩⟩⟩ := RpL.three r
 refine call_range_3 hc ?_ (.inl hp)
 have N := R.push { cls := .type "range", data := .fields #[.int a t, .int b t', .int c t''] }
 exact q _ (.rng a b c) st as { s with heap := s.heap.push _ } h N.1 (rp_range (IsRange.new s.heap a b c _ _ _)) N.2 .of
end
end
section
open PySem.Builtin PySem.Builtin.Str
section
variable {Γ : Gl prog w} {C : Cx} {st : St}
noncomputable def strsD : List D → Option (List (List Nat))
 | [] => some []
 | .str s :: r => (strsD r).map (s :: ·)
 | _ :: _ => none
theorem strs_is {h X as} : ∀ {ds : List D} {vs : List Value} {ls : List (List Nat)}, RpL h X as ds vs → strsD ds = some ls → ∃ l : List (Str × Tok), vs = strValues l ∧ l.map (·.1) = ls.map S ∧ ∀ a ∈ ls, a.length ≤ 1048576
 | [], [], ls, _, e => by simp only [strsD, Option.some.injEq] at e; subst e; exact ⟨[], rfl, rfl, by simp⟩
 | d :: ds, v :: vs, ls, r, e => by
  simp only [RpL] at r
  cases d <;> first | exact no_some e | simp only [strsD] at e
  case str s =>
   cases e' : strsD ds with
   | none => rw [e'] at e; cases e
   | some l0 =>
    rw [e'] at e; simp only [Option.map_some, Option.some.injEq] at e; subst e
    obtain ⟨l, h1, h2, h3⟩ := strs_is r.2 e'
    obtain ⟨r1, _⟩ := r
    obtain ⟨⟨t, rfl⟩, b⟩ := r1
    refine ⟨(S s, t) :: l, by rw [h1]; rfl, by simp [h2], ?_⟩
    intro a ha
    rcases List.mem_cons.mp ha with rfl | ha
    ·exact b
    ·exact h3 a ha
 | [], _ :: _, _, r, _ => by simp [RpL] at r
 | _ :: _, [], _, r, _ => by simp [RpL] at r
noncomputable def joinL (x : List Nat) : List (List Nat) → List Nat
 | [] => []
 | [a] => a
 | a :: b :: r => a ++ x ++ joinL x (b :: r)
theorem join_is (x : List Nat) : ∀ ls : List (List Nat), Txt.join (S x) (ls.map S) = S (joinL x ls) := by
 intro ls
 show glued _ _ = _
 rw [StrLaws.glued_eq_join]
 induction ls with
 | nil => rfl
 | cons a r ih =>
  cases r with
  | nil => rfl
  | cons b r =>
   show S a ++ S x ++ Str.join (S x) (S b :: List.map S r) = _
   rw [show Str.join (S x) (S b :: List.map S r) = S (joinL x (b :: r)) from ih, S_append, S_append]
   rfl
noncomputable def joinSum (x : List Nat) (ls : List (List Nat)) : Nat := (ls.map (·.length)).sum + ls.length * x.length
theorem joinL_len (x : List Nat) : ∀ ls : List (List Nat), (joinL x ls).length ≤ joinSum x ls
 | [] => by simp [joinL, joinSum]
 | [a] => by simp [joinL, joinSum]
 | a :: b :: r => by
  have := joinL_len x (b :: r)
  simp only [joinL, joinSum, List.length_append, List.map_cons, List.sum_cons, List.length_cons, Nat.succ_mul] at this ⊢
  lia
theorem ACall_join {x : List Nat} {d : D} {l : List D} {ls : List (List Nat)} {Φ : D → St → Prop} (e : itemsD st.mu d = some l) (e2 : strsD l = some ls) (hb : joinSum x ls ≤ 1048576) (h : Φ (.str (joinL x ls)) st) : ACall Γ C (.builtin "str.join") [.str x, d] st Φ := by
 refine ACall2 h fun s as v u Q E R r1 r2 q => ?_
 obtain ⟨⟨t, rfl⟩, _⟩ := r1
 obtain ⟨a, vs, rfl, hl, bl, ql⟩ := R.items r2 e
 obtain ⟨tl, h1, h2, h3⟩ := strs_is ql e2
 refine SC.join (l := tl) (texts := ls.map S) (by rw [← h1]; simpa using hl) h2 ?_ fun t' k => ?_
 ·unfold JoinOk
  rw [StrLaws.joinTotal]
  have : ((ls.map S).map (·.length)).sum + (ls.map S).length * (S x).length = joinSum x ls := by
   simp only [joinSum, S_len, List.length_map, List.map_map]
   congr 2
  rw [this]
  simp only [tooLong, sizeLine]
  simp
  exact o_le (by assumption) (by decide)
 ·rw [join_is]; exact q _ _ ⟨⟨_, rfl⟩, Nat.le_trans (joinL_len x ls) hb⟩
/- a list of texts that is new -/
noncomputable def textsD (l : List Str) : List D := l.map fun x => .str (cp x)
theorem texts_rp {h X as} {x : Str} (hx : x.length ≤ 1048576) : ∀ {l : List (Str × Tok)}, (∀ a ∈ l, a.1.length ≤ x.length) → RpL h X as (textsD (l.map (·.1))) (strValues l)
 | [], _ => by simp [textsD, strValues, RpL]
 | p :: r, hb => by
  show RpL _ _ _ (.str (cp p.1) :: textsD (r.map (·.1))) (.str p.1 p.2 :: strValues r)
  exact ⟨⟨⟨p.2, by rw [S_cp]⟩, by rw [cp_len]; have := hb p (.head _); lia⟩, texts_rp hx fun a ha => hb a (.tail _ ha)⟩
theorem new_texts {s : Shared} {as : List Addr} {x : Str} {l : List (Str × Tok)} {tx : List Str} {k : Nat} {Q : Value → Shared → Prop} {Φ : D → St → Prop} (R : Rel Γ C s.heap as st) (hx : x.length ≤ 1048576) (hb : ∀ a ∈ l, a.1.length ≤ x.length) (hn : l.length ≤ 1048576) (e : l.map (·.1) = tx) (h : Φ (.lst (textsD tx)) st)
  (q : ∀ v d st' as' s', Φ d st' → Rel Γ C s'.heap as' st' → Rp s'.heap C.X as' d v → Ext C s.heap as s'.heap as' → Sm s s' → Q v s') : Q (.ref s.heap.objs.size) { s with toks := k, heap := s.heap.push { cls := .type "list", data := .seq (strValues l).toArray } } := by
 subst e
 have N := R.push { cls := .type "list", data := .seq (strValues l).toArray }
 have T := R.newLst (ds := textsD (l.map (·.1))) (vs := strValues l) (by simp [textsD]; exact hn) (texts_rp hx hb)
 exact q _ _ st as { s with toks := k, heap := s.heap.push _ } h N.1 T N.2 .of
theorem line_count (x : Str) : (lineCuts x).length ≤ x.length + 1 := by have e := PyProof.Rows.lineCuts_le x; lia
theorem ACall_splitlines {x : List Nat} {Φ : D → St → Prop} (hx : x.length + 2 ≤ 1048576) (h : Φ (.lst (textsD (Txt.lines (S x)))) st) : ACall Γ C (.builtin "str.splitlines") [.str x] st Φ := by
 intro s as vs Q E R r q
 obtain ⟨v, rfl, ⟨⟨t, rfl⟩, b⟩⟩ := RpL.one r
 have lc := line_count (S x)
 rw [S_len] at lc
 have sh : ∀ a ∈ Txt.lines (S x), a.length ≤ (S x).length := fun a ha => PyProof.Rows.line_short ha
 refine call_meets F.slot_str_splitlines (typeIs_str _ _ _) F.entry_str_splitlines (F.args_str_splitlines_1 _) (meets_str_splitlines (S x) t (by rw [S_len, sl_is]; exact o_le (by assumption) (by decide)) (by rw [sl_is]; lia)) ?_
 cases hw : lineCuts (S x) == [(0, (S x).length)]
 ·simp only [Bool.false_eq_true, if_false]
  rw [strsFrom_eq]
  have e : (numbered s.toks (linesOf (S x))).map (·.1) = Txt.lines (S x) := (numbered_texts _ _).trans (if_neg (ne_true_of_eq_false hw)).symm
  refine new_texts (x := S x) R (by rw [S_len]; exact o_le (by assumption) (by decide)) (fun a ha => sh a.1 (by rw [← e]; exact List.mem_map_of_mem ha)) ?_ e h q
  have : (numbered s.toks (linesOf (S x))).length = (linesOf (S x)).length := by
   rw [← List.length_map (f := (·.1)), numbered_texts]
  rw [this, linesOf, List.length_map]; lia
 ·simp only [if_true]
  have e : [(S x, t)].map (·.1) = Txt.lines (S x) := (if_pos hw).symm
  exact new_texts (x := S x) (l := [(S x, t)]) R (by rw [S_len]; exact o_le (by assumption) (by decide)) (fun a ha => by simp at ha; subst ha; exact Nat.le_refl _) (by simp) e h q
theorem ACall_split1 {x y : List Nat} {Φ : D → St → Prop} (hx : x.length + 2 ≤ 1048576) (hy : y ≠ []) (hsp : (partsBetween (S x) (occurrences (S x) (S y) 0 x.length (x.length + 1)) y.length).length ≤ 1048576)
  (hsh : ∀ a ∈ Txt.split (S x) (S y), a.length ≤ x.length) (h : Φ (.lst (textsD (Txt.split (S x) (S y)))) st) : ACall Γ C (.builtin "str.split") [.str x, .str y] st Φ := by
 intro s as vs Q E R r q
 obtain ⟨v, u, rfl, ⟨⟨⟨t, rfl⟩, b⟩, ⟨t', rfl⟩, b'⟩⟩ := RpL.two r
 have hy' : ((S y).length == 0) = false := by rw [S_len]; cases y with | nil => exact absurd rfl hy | cons a b => simp
 rw [← S_len x, ← S_len y] at hsp
 have hsl : (S x).length ≤ sizeLine := by rw [S_len, sl_is]; exact o_le (by assumption) (by decide)
 have go : ∀ (l : List (Str × Tok)) (k : Nat), l.map (·.1) = Txt.split (S x) (S y) → l.length ≤ 1048576 → Q (.ref s.heap.objs.size) { s with toks := k, heap := s.heap.push { cls := .type "list", data := .seq (strValues l).toArray } } := fun l k e hn =>
  new_texts (x := S x) R (by rw [S_len]; with_reducible exact o_le (by assumption) (by decide)) (fun a ha => by rw [S_len]; exact hsh a.1 (by rw [← e]; exact List.mem_map_of_mem ha)) hn e h q
 cases h1 : (decide ((S x).length < (S y).length) || decide (strKind (S x) < strKind (S y)))
 ·cases hf : (occurrences (S x) (S y) 0 (S x).length ((S x).length + 1)).isEmpty
  ·refine call_meets F.slot_str_split (typeIs_str _ _ _) F.entry_str_split (F.args_str_split_2 _ _) (meets_str_split_sep (S x) (S y) t t' h1 hy' hf hsl (by rw [sl_is]; with_reducible exact o_le (by assumption) (by decide))) ?_
   rw [strsFrom_eq]
   refine go _ _ ((numbered_texts _ _).trans ((if_neg (ne_true_of_eq_false h1)).trans (if_neg (ne_true_of_eq_false hf))).symm) ?_
   rw [← List.length_map (f := (·.1)), numbered_texts]; exact hsp
  ·exact call_meets F.slot_str_split (typeIs_str _ _ _) F.entry_str_split (F.args_str_split_2 _ _) (meets_str_split_not_found (S x) (S y) t t' h1 hy' hf)
    (go [(S x, t)] s.toks ((if_neg (ne_true_of_eq_false h1)).trans (if_pos hf)).symm (by simp))
 ·exact call_meets F.slot_str_split (typeIs_str _ _ _) F.entry_str_split (F.args_str_split_2 _ _) (meets_str_split_cannot_occur (S x) (S y) t t' h1)
   (go [(S x, t)] s.toks (if_pos h1).symm (by simp))
theorem ACall_rstrip {x : List Nat} {Φ : D → St → Prop} (h : Φ (.str (cp (Txt.rstrip (S x)))) st) (hs : (Txt.rstrip (S x)).length ≤ x.length) : ACall Γ C (.builtin "str.rstrip") [.str x] st Φ := by
 refine ACall1 h fun s as v Q E R r q => ?_
 obtain ⟨⟨t, rfl⟩, b⟩ := r
 exact SC.rstrip (fun t' k => q _ _ ⟨⟨t', by rw [S_cp]⟩, by rw [cp_len]; lia⟩) (by rw [S_len, sl_is]; exact o_le (by assumption) (by decide))
end
end
section
/-! values that lean on no list of the frame's own -/
mutual
noncomputable def noMut : D → Bool
 | .mut _ => false
 | .meth _ => false
 | .tup l => noMutL l
 | .lst l => noMutL l
 | _ => true
noncomputable def noMutL : List D → Bool
 | [] => true
 | d :: r => noMut d && noMutL r
end
noncomputable def fz : Nat → List (List D) → D → D
 | 0, _, d => d
 | n + 1, mu, .mut i => match mu[i]? with
  | some l => .lst (l.map (fz n mu))
  | none => .mut i
 | n + 1, mu, .tup l => .tup (l.map (fz n mu))
 | n + 1, mu, .lst l => .lst (l.map (fz n mu))
 | _ + 1, _, d => d
theorem RpL.map {h h' X X' as as'} {f : D → D} : ∀ {ds : List D} {vs : List Value}, (∀ d ∈ ds, ∀ v, Rp h X as d v → Rp h' X' as' (f d) v) → RpL h X as ds vs → RpL h' X' as' (ds.map f) vs := by
 intro ds
 induction ds with
 | nil => intro vs _ r; cases vs with
  | nil => exact r
  | cons => exact False.elim r
 | cons d ds ih => intro vs g r; cases vs with
  | nil => exact False.elim r
  | cons v vs => exact ⟨g d (.head _) v r.1, ih (fun d hd => g d (.tail _ hd)) r.2⟩
structure Hand (h : Heap) (X : Addr → Prop) (as : List Addr) (h' : Heap) (X' : Addr → Prop) (as' : List Addr) : Prop where
 seq : ∀ a o xs n, h.get? a = some o → o.data = .seq xs n → (o.cls = .type "tuple" ∨ (¬ X a ∧ a ∉ as)) → h'.get? a = some o
 out : ∀ a xs, h.IsList a xs → ¬ X a → a ∉ as → ¬ X' a ∧ a ∉ as'
 fix : ∀ a o, h.get? a = some o → fixO o → h'.get? a = some o
mutual
theorem Rp.hand {h X as h' X' as'} (K : Hand h X as h' X' as') : ∀ {d : D} {v : Value}, noMut d = true → Rp h X as d v → Rp h' X' as' d v
 | .none, _, _, r => r
 | .bool _, _, _, r => r
 | .int _, _, _, r => r
 | .str _, _, _, r => r
 | .tup l, _, nm, r => lift_tup K.seq (Nat.le_refl _) (fun _ r => RpL.hand K nm r) r
 | .lst l, _, nm, r => lift_lst K.seq K.out (Nat.le_refl _) (fun _ r => RpL.hand K nm r) r
 | .mut _, _, nm, _ => no_tf nm
 | .val _, _, _, r => r
 | .rng _ _ _, _, _, r => Exists.imp (fun _ q => Exists.imp (fun _ q => Exists.imp (fun _ q => Exists.imp (fun _ q => ⟨q.1, K.fix _ _ q.2 ⟨⟨_, rfl⟩, .inl rfl⟩⟩) q) q) q) r
 | .meth _, _, nm, _ => no_tf nm
 | .any, _, _, _ => trivial
theorem RpL.hand {h X as h' X' as'} (K : Hand h X as h' X' as') : ∀ {ds : List D} {vs : List Value}, noMutL ds = true → RpL h X as ds vs → RpL h' X' as' ds vs
 | [], [], _, r => r
 | _ :: _, _ :: _, nm, r => ⟨Rp.hand K (Bool.and_eq_true_iff.mp nm).1 r.1, RpL.hand K (Bool.and_eq_true_iff.mp nm).2 r.2⟩
 | [], _ :: _, _, r => r
 | _ :: _, [], _, r => r
end
theorem noMutL_mem {l : List D} (nm : noMutL l = true) : ∀ d ∈ l, noMut d = true := by
 induction l with
 | nil => exact fun d hd => nomatch hd
 | cons e r ih => exact fun d hd => (List.mem_cons.mp hd).elim (fun q => q ▸ (Bool.and_eq_true_iff.mp nm).1) (ih (Bool.and_eq_true_iff.mp nm).2 d)
theorem fz_noMut {mu : List (List D)} {h X X' as as'} (g : ∀ (i : Nat) (l : List D), mu[i]? = some l → ∃ a vs, as[i]? = some a ∧ h.PlainList a vs ∧ l.length ≤ 1048576 ∧ RpL h X as l vs.toList)
  (out : ∀ a xs, h.IsList a xs → ¬ X a → a ∉ as → ¬ X' a ∧ a ∉ as') (fresh : ∀ a ∈ as, ¬ X' a ∧ a ∉ as') :
  ∀ (n : Nat) (d : D) (v : Value), noMut (fz n mu d) = true → Rp h X as d v → Rp h X' as' (fz n mu d) v := by
 have K : Hand h X as h X' as' := ⟨fun a o xs n e _ _ => e, out, fun a o e _ => e⟩
 intro n
 induction n with
 | zero => intro d v nm r; exact Rp.hand K nm r
 | succ n ih =>
  have ml : ∀ (l : List D) (vs : List Value), noMutL (l.map (fz n mu)) = true → RpL h X as l vs → RpL h X' as' (l.map (fz n mu)) vs := by
   intro l vs nm r
   refine RpL.map (fun d hd v rv => ih d v ?_ rv) r
   exact noMutL_mem nm _ (List.mem_map_of_mem hd)
  intro d v nm r
  cases d
  case «mut» i =>
   simp only [fz] at nm ⊢
   cases e : mu[i]? with
   | none => rw [e] at nm; simp [noMut] at nm
   | some l =>
    rw [e] at nm
    simp only [noMut] at nm
    obtain ⟨a, ha, rfl⟩ := r
    obtain ⟨a', vs, ha', hl, bl, ql⟩ := g i l e
    rw [ha] at ha'; cases ha'
    have z := fresh a (List.mem_of_getElem? ha)
    exact ⟨a, vs, rfl, z.1, z.2, hl, by rw [List.length_map]; exact bl, ml l _ nm ql⟩
  case tup l => exact lift_tup K.seq (Nat.le_of_eq (List.length_map ..)) (fun vs r => ml l vs nm r) r
  case lst l => exact lift_lst K.seq K.out (Nat.le_of_eq (List.length_map ..)) (fun vs r => ml l vs nm r) r
  all_goals exact Rp.hand K nm r
/-! a function of the program's -/
section
variable {Γ : Gl prog w}
noncomputable def Fn (Γ : Gl prog w) (n : Nat) (f : Value) (ds : List D) (r : D) : Prop :=
 ∀ (C : Cx) (st : St) (Φ : D → St → Prop), C.A.depth + n ≤ 600 → C.A.units + 10 * n ≤ 5000 → Φ r st → ACall Γ C f ds st Φ
noncomputable def ownCells (cs : List (Str × Addr)) : List Addr := cs.filterMap fun p => cs.lookup p.1
theorem mem_own {cs : List (Str × Addr)} {c : Addr} : c ∈ ownCells cs ↔ ∃ x, cs.lookup x = some c := by
 unfold ownCells
 rw [List.mem_filterMap]
 constructor
 ·rintro ⟨p, _, e⟩; exact ⟨_, e⟩
 ·rintro ⟨x, e⟩; exact ⟨(x, c), mem_of_lookup e, e⟩
theorem bindL_is {kindOf : Str → Option NameKind} : ∀ {ps : List Str} {vs : List Value} {m : Str → Option Value} {x : Str} {v : Value}, ps.Nodup → (ps.zip vs).lookup x = some v → kindOf x = some .local → bindL kindOf (ps.zip vs) m x = some v
 | [], vs, m, x, v, _, e, _ => by simp at e
 | p :: ps, [], m, x, v, _, e, _ => by simp at e
 | p :: ps, u :: vs, m, x, v, nd, e, hk => by
  have nd' := List.nodup_cons.mp nd
  rw [List.zip_cons_cons, List.lookup_cons] at e
  show bindL kindOf (ps.zip vs) _ x = some v
  cases hx : x == p with
  | true =>
   rw [hx] at e; cases e
   have := beq_iff_eq.mp hx; subst this
   rw [hk, if_pos rfl]
   have go : ∀ {ps : List Str} {vs : List Value} {m : Str → Option Value}, x ∉ ps → bindL kindOf (ps.zip vs) m x = m x := by
    intro ps
    induction ps with
    | nil => intro vs m _; rfl
    | cons q ps ih =>
     intro vs m hn
     cases vs with
     | nil => rfl
     | cons u vs =>
      rw [List.mem_cons, not_or] at hn
      show bindL kindOf (ps.zip vs) _ x = _
      rw [ih hn.2]
      split
      ·exact if_neg hn.1
      ·rfl
   rw [go nd'.1]; simp
  | false => rw [hx] at e; exact bindL_is nd'.2 e hk
theorem bindC_is {kindOf : Str → Option NameKind} : ∀ {ps : List Str} {vs : List Value} {m : Str → Option Value} {x : Str} {v : Value}, ps.Nodup → (ps.zip vs).lookup x = some v → kindOf x ≠ some .local → bindC kindOf (ps.zip vs) m x = some v
 | [], vs, m, x, v, _, e, _ => by simp at e
 | p :: ps, [], m, x, v, _, e, _ => by simp at e
 | p :: ps, u :: vs, m, x, v, nd, e, hk => by
  have nd' := List.nodup_cons.mp nd
  rw [List.zip_cons_cons, List.lookup_cons] at e
  show bindC kindOf (ps.zip vs) _ x = some v
  cases hx : x == p with
  | true =>
   rw [hx] at e; cases e
   have := beq_iff_eq.mp hx; subst this
   rw [if_neg hk]
   have go : ∀ {ps : List Str} {vs : List Value} {m : Str → Option Value}, x ∉ ps → bindC kindOf (ps.zip vs) m x = m x := by
    intro ps
    induction ps with
    | nil => intro vs m _; rfl
    | cons q ps ih =>
     intro vs m hn
     cases vs with
     | nil => rfl
     | cons u vs =>
      rw [List.mem_cons, not_or] at hn
      show bindC kindOf (ps.zip vs) _ x = _
      rw [ih hn.2]
      split
      ·rfl
      ·exact if_neg hn.1
   rw [go nd'.1]; simp
  | false => rw [hx] at e; exact bindC_is nd'.2 e hk
theorem zip_lookup {ps : List Str} : ∀ {ds : List D} {vs : List Value} {h X as} {x : Str} {d : D}, RpL h X as ds vs → (ps.zip ds).lookup x = some d → ∃ v, (ps.zip vs).lookup x = some v ∧ Rp h X as d v := by
 induction ps with
 | nil => intro ds vs h X as x d _ e; simp at e
 | cons p ps ih =>
  intro ds vs h X as x d r e
  match ds, vs, r with
  | [], _, _ => simp at e
  | d0 :: ds, v0 :: vs, r =>
   simp only [RpL] at r
   rw [List.zip_cons_cons, List.lookup_cons] at e ⊢
   cases hx : x == p with
   | true => rw [hx] at e; cases e; exact ⟨v0, rfl, r.1⟩
   | false => rw [hx] at e; exact ih r.2 e
  | _ :: _, [], r => simp [RpL] at r
end
end
section
section
variable {Γ : Gl prog w} {C : Cx} {st : St}
theorem fr_none {h : Heap} {a : Addr} (e : h.objs.size ≤ a) : h.get? a = Option.none := by
 cases q : h.get? a with
 | none => rfl
 | some o => exact absurd (Heap.lt_size q) (Nat.not_lt.mpr e)
noncomputable def callCx (Γ : Gl prog w) (C : Cx) (h : Heap) (as : List Addr) (env : Env) : Cx where
 env := env
 A := C.A.deeper env
 X := fun a => C.X a ∨ a ∈ as
 Ex := C.Ex
 h₀ := h
 own := ownCells env.cells
 kn := env.scope.names
 J := C.J
theorem xin_of {h as} (R : Rel Γ C h as st) : ∀ a, (C.X a ∨ a ∈ as) → (h.get? a).isSome ∧ ¬ C.Ex a := by
 rintro a (hx | ha)
 ·obtain ⟨h1, h2⟩ := R.c.xin a hx
  refine ⟨?_, h2⟩
  cases q : C.h₀.get? a with
  | none => rw [q] at h1; cases h1
  | some o => rw [R.base a o q h2]; rfl
 ·obtain ⟨o, xs, n, ho, hc, hd⟩ := R.alive ha
  exact ⟨by rw [ho]; rfl, R.notEx ho (.inl fun _ => ob_no hd rfl)⟩
theorem xg_of {h as} (R : Rel Γ C h as st) : ∀ a, (C.X a ∨ a ∈ as) → ¬ Γ.G a := by
 rintro a (hx | ha) g
 ·exact R.c.xg a hx g
 ·exact (R.gOut a g).2 ha
theorem exP_of {h as} (R : Rel Γ C h as st) : ∀ a, C.Ex a → a = Γ.P ∧ ∃ o vs, h.get? a = some o ∧ o.data = .fields vs ∧ o.cls = .none := fun a ha => ⟨(R.c.exP a ha).1, R.exA a ha⟩
theorem hand_in {h h' as} (_R : Rel Γ C h as st) (k : ∀ a o, h.get? a = some o → h'.get? a = some o) : Hand h C.X as h' (fun a => C.X a ∨ a ∈ as) [] :=
 ⟨fun a o xs n e _ _ => k a o e, fun a xs _ n1 n2 => ⟨fun z => z.elim n1 n2, by simp⟩, fun a o e _ => k a o e⟩
theorem lookup_mem {ps : List Str} : ∀ {ds : List D} {x : Str} {d : D}, (ps.zip ds).lookup x = some d → d ∈ ds ∧ x ∈ ps := by
 induction ps with
 | nil => intro ds x d e; simp at e
 | cons p ps ih =>
  intro ds x d e
  cases ds with
  | nil => simp at e
  | cons d0 ds =>
   rw [List.zip_cons_cons, List.lookup_cons] at e
   cases hx : x == p with
   | true => rw [hx] at e; cases e; exact ⟨.head _, by rw [beq_iff_eq.mp hx]; exact .head _⟩
   | false => rw [hx] at e; have := ih e; exact ⟨.tail _ this.1, .tail _ this.2⟩
theorem Fn.introE {n k : Nat} {a : Addr} {fd : FuncData} {body : List Stmt} {ps : List Str} {ds : List D} {r : D} (hf : Γ.fn a = some fd) (hb : fd.body = .stmts body) (hcl : fd.closure = []) (hk : fd.scope.kind = .function)
  (hco : fd.scope.isCoroutine = false) (hgen : fd.scope.isGenerator = false) (hbind : ∀ (s : Shared) (vs : List Value), Γ.ok s.heap → vs.length = ps.length → BindsTo s fd ⟨vs, []⟩ (ps.zip vs)) (hps : ds.length = ps.length) (hnd : ps.Nodup)
  (hkind : ps.all (fun x => fd.scope.names.lookup x == some .local || fd.scope.names.lookup x == some .cell) = true) (hnm : noMutL ds = true)
  (hbody : ∀ C : Cx, C.kn = fd.scope.names → C.env.code = fd.code → C.A.depth + n ≤ 600 → C.A.units + 10 * n ≤ 5000 → AB Γ C body ⟨ps.zip ds, []⟩ fun fl st' => ∃ d, fl = .ret d ∧ fz k st'.mu d = r ∧ noMut r = true) : Fn Γ (n + 1) (.ref a) ds r := by
 intro C st Φ hdep hun hΦ s as vs Q E R rv q
 obtain ⟨of, ho, hd, hcd, hgl, hbl⟩ := Γ.okfn _ a fd R.okh hf
 have hl : vs.length = ps.length := by rw [rv.length, hps]
 refine wpAny_call ?_
 refine codeAny_call_function (by have := R.c.deep; show C.A.depth < 1000; exact o_lelt (by assumption) (by decide)) ho hd hco hgen hb hcd ?_
 refine hbind s vs R.okh hl _ _ _ _ ?_
 rw [hcl]
 have hkind' : ∀ x ∈ ps.zip vs, fd.scope.names.lookup x.1 = some .local ∨ (fd.scope.names.lookup x.1 = some .cell ∧ ((cellsFrom (s.heap.objs.size + 1) fd.scope.names []).lookup x.1).isSome = true) := fun x hx => by
  have hm : x.1 ∈ ps := (List.of_mem_zip hx).1
  have := List.all_eq_true.mp hkind x.1 hm
  rcases Bool.or_eq_true_iff.mp this with q | q
  ·exact .inl (by simpa using q)
  ·have q' : fd.scope.names.lookup x.1 = some .cell := by simpa using q
   exact .inr ⟨q', cellsFrom_some _ _ _ (.inl q')⟩
 refine wpAny_newFunctionEnv_cells hk hkind' fun env henv s' I => ?_
 obtain ⟨h', tk, es'⟩ := I.toInCall.same
 have hE1 : env.scope = fd.scope := by rw [henv]; rfl
 have hE2 : env.globals = mainGlobals := by rw [henv, ← hgl]; rfl
 have hE3 : env.builtins = builtinsNs := by rw [henv, ← hbl]; rfl
 have hE5 : env.code = fd.code := by rw [henv]; rfl
 have hE4 : env.cells = cellsFrom (s.heap.objs.size + 1) fd.scope.names [] := by rw [henv]; rfl
 have keep := I.toInCall.keep
 have okh : Γ.ok s'.heap := Γ.okmono _ _ R.okh fun a o e _ => keep a o e
 refine ⟨Γ.oklim _ okh, codeAny_func ?_⟩
 let C' := callCx Γ C s.heap as env
 have hC' : C' = callCx Γ C s.heap as env := rfl
 have cx : CxOk Γ C' := {
  ok := R.okh
  exE := R.c.exE
  jE := R.c.jE
  exP := fun b hb => exP_of (C := C) R b hb
  xin := fun b hb => xin_of (C := C) R b hb
  xg := fun b hb => xg_of (C := C) R b hb
  fun_ := by show env.scope.kind = _; rw [hE1]; exact hk
  glo := hE2
  blt := hE3
  nsNew := fr_none I.toInCall.fresh
  cellNew := fun c hc => by
   obtain ⟨x, e⟩ := mem_own.mp hc
   exact fr_none (Nat.le_trans I.toInCall.fresh (Nat.le_of_lt (I.above x c (mem_of_lookup e))))
  cellIn := fun x c _ e => mem_own.mpr ⟨x, e⟩
  cellHas := fun x e => by
   show ∃ c, env.cells.lookup x = some c
   rw [hE4]
   have := cellsFrom_some (x := x) fd.scope.names (s.heap.objs.size + 1) [] (.inl (by rw [← hE1]; exact e))
   exact Option.isSome_iff_exists.mp this
  inj := fun x y c e1 e2 => name_of_addr I.apart (mem_of_lookup e1) (mem_of_lookup e2)
  kns := fun x k e => e
  hand := R.c.hand
  deep := by show C.A.depth + 1 ≤ 600; lia
  unit := by show C.A.units + 3 ≤ 5000; lia }
 have H := hand_in R keep
 have R' : Rel Γ C' s'.heap [] ⟨ps.zip ds, []⟩ := {
  c := cx
  base := fun a o e _ => keep a o e
  exA := fun a ha => by obtain ⟨o, vs, e, hh⟩ := R.exA a ha; exact ⟨o, vs, keep a o e, hh⟩
  ns := ⟨_, I.toInCall.ns⟩
  cells := fun c hc => by
   obtain ⟨x, e⟩ := mem_own.mp hc
   obtain ⟨o, ho, hd⟩ := I.cell x c e
   exact ⟨o, _, ho, hd⟩
  vars := fun x d e => by
   obtain ⟨v, e1, r1⟩ := zip_lookup rv e
   have hd := lookup_mem e
   refine ⟨v, ?_, r1.hand H (noMutL_mem hnm d hd.1)⟩
   have kx := List.all_eq_true.mp hkind x hd.2
   rcases Bool.or_eq_true_iff.mp kx with q | q
   ·have q' : env.kindOf x = some .local := by show env.scope.names.lookup x = _; rw [hE1]; simpa using q
    exact .loc _ q' I.toInCall.ns (bindL_is hnd e1 q')
   ·have q' : env.kindOf x = some .cell := by show env.scope.names.lookup x = _; rw [hE1]; simpa using q
    have hs := cellsFrom_some (x := x) fd.scope.names (s.heap.objs.size + 1) [] (.inl (by simpa using q))
    obtain ⟨c, hc⟩ := Option.isSome_iff_exists.mp hs
    rw [← hE4] at hc
    have ic := I.cell x c hc
    rw [bindC_is hnd e1 (by rw [q']; decide)] at ic
    exact .cell c .cell q' (.inl rfl) hc ic
  mus := .nil
  muNew := fun a ha => by cases ha
  nodup := List.nodup_nil
  inv := by obtain ⟨F, hj, hF⟩ := R.inv; exact ⟨F, hj, fun p hp => ⟨keep _ _ (hF p hp).1, (hF p hp).2⟩⟩ }
 refine hbody C' (by show env.scope.names = _; rw [hE1]) hE5 (by show C.A.depth + 1 + n ≤ 600; lia) (by show C.A.units + 3 + 10 * n ≤ 5000; lia) s' [] _ _ R' ?_
 rintro f fl st' as' s'' ⟨d, rfl, efz, nm⟩ R2 r2 x2 m2
 obtain ⟨v, rfl, rv2⟩ := r2
 subst efz
 have J := R.jump (h' := s''.heap) (fun a o e n => R2.base a o e n) R2.exA R2.inv
 refine q v _ st as s'' hΦ J.1 ?_ J.2.2 ⟨m2.os.trans (by rw [es']), fun z => m2.gens (by rw [es']; exact z)⟩
 refine fz_noMut (X := C'.X) (as := as') (fun i l e => ?_) (fun a xs hl n1 n2 => ⟨fun z => n1 (.inl z), fun z => n1 (.inr z)⟩) (fun b hb => ⟨fun z => ?_, fun z => ?_⟩) k d v nm rv2
 ·obtain ⟨a, vs, h1, h2, h3, h4⟩ := MuIs.get R2.mus e
  exact ⟨a, vs, h1, h2, h3, h4⟩
 ·have h1 := (xin_of R b (.inl z)).1
  have h2 := R2.muNew b hb
  have h2 : s.heap.get? b = none := h2
  rw [h2] at h1; cases h1
 ·have h1 := (xin_of R b (.inr z)).1
  have h2 := R2.muNew b hb
  have h2 : s.heap.get? b = none := h2
  rw [h2] at h1; cases h1
theorem Fn.intro {n k : Nat} {a : Addr} {fd : FuncData} {body : List Stmt} {ps : List Str} {ds : List D} {r : D} (hf : Γ.fn a = some fd) (hb : fd.body = .stmts body) (hcl : fd.closure = []) (hk : fd.scope.kind = .function)
  (hco : fd.scope.isCoroutine = false) (hgen : fd.scope.isGenerator = false) (hbind : ∀ (s : Shared) (vs : List Value), Γ.ok s.heap → vs.length = ps.length → BindsTo s fd ⟨vs, []⟩ (ps.zip vs)) (hps : ds.length = ps.length) (hnd : ps.Nodup)
  (hkind : ps.all (fun x => fd.scope.names.lookup x == some .local || fd.scope.names.lookup x == some .cell) = true) (hnm : noMutL ds = true)
  (hbody : ∀ C : Cx, C.kn = fd.scope.names → C.A.depth + n ≤ 600 → C.A.units + 10 * n ≤ 5000 → AB Γ C body ⟨ps.zip ds, []⟩ fun fl st' => ∃ d, fl = .ret d ∧ fz k st'.mu d = r ∧ noMut r = true) : Fn Γ (n + 1) (.ref a) ds r :=
 Fn.introE hf hb hcl hk hco hgen hbind hps hnd hkind hnm fun C h1 _ h2 h3 => hbody C h1 h2 h3
end
end
section
theorem zip_some {ps : List Str} : ∀ {vs : List Value}, vs.length = ps.length → ∀ n ∈ ps, ((ps.zip vs).lookup n).isNone = false := by
 induction ps with
 | nil => intro vs _ n hn; cases hn
 | cons p ps ih =>
  intro vs hl n hn
  cases vs with
  | nil => simp at hl
  | cons v vs =>
   rw [List.zip_cons_cons, List.lookup_cons]
   cases e : n == p with
   | true => rfl
   | false =>
    refine ih (by simpa using hl) n ?_
    rcases List.mem_cons.mp hn with rfl | h
    ·simp at e
    ·exact h
theorem zip_back : ∀ {ps : List Str} {vs : List Value}, ps.Nodup → vs.length = ps.length → ps.filterMap (fun n => ((ps.zip vs).lookup n).map fun x => (n, x)) = ps.zip vs
 | [], _, _, _ => by simp
 | p :: ps, [], _, hl => by simp at hl
 | p :: ps, v :: vs, nd, hl => by
  have nd' := List.nodup_cons.mp nd
  rw [List.zip_cons_cons, List.filterMap_cons_some (b := (p, v)) (by simp [List.lookup_cons])]
  congr 1
  have e : ∀ n ∈ ps, (((p, v) :: ps.zip vs).lookup n).map (fun x => (n, x)) = ((ps.zip vs).lookup n).map fun x => (n, x) := fun n hn => by
   have : (n == p) = false := by
    rw [beq_eq_false_iff_ne]; rintro rfl; exact nd'.1 hn
   rw [List.lookup_cons, this]
  have g : ∀ (l : List Str), (∀ n ∈ l, n ∈ ps) → l.filterMap (fun n => (((p, v) :: ps.zip vs).lookup n).map fun x => (n, x)) = l.filterMap fun n => ((ps.zip vs).lookup n).map fun x => (n, x) := by
   intro l
   induction l with
   | nil => intro _; rfl
   | cons a r ih =>
    intro h
    simp only [List.filterMap_cons, e a (h a (.head _)), ih fun n hn => h n (.tail _ hn)]
  rw [g ps fun n hn => hn, zip_back nd'.2 (by simpa using hl)]
theorem ite2 {α : Type} {a b : Bool} {X Y Z r : Sem α} (ha : a = false) (hb : b = false) (hz : Z = r) : (if a = true then X else if b = true then Y else Z) = r := by
 subst ha hb; exact hz
theorem bind_plain {fd : FuncData} {as : List Arg} {dl : List Expr} {vs : List Value} (hp : fd.params = { posonlyargs := [], args := as, vararg := none, kwonlyargs := [], kw_defaults := [], kwarg := none, defaults := dl }) (hd : fd.defaults = .none) (hl : vs.length = as.length) (nd : (as.map (·.arg)).Nodup) :
  bindArgs fd ⟨vs, []⟩ = pure ((as.map (·.arg)).zip vs) := by
 have hl' : vs.length = (as.map (·.arg)).length := hl.trans (List.length_map ..).symm
 have hm : ∀ k, (((as.map (·.arg)).take k).filter (fun n => (((as.map (·.arg)).zip vs).lookup n).isNone)) = [] := fun k => by
  rw [List.filter_eq_nil_iff]
  intro n hn
  rw [zip_some hl' n (List.mem_of_mem_take hn)]; nofun
 have hz := zip_back nd hl'
 have hD : ∀ n : Nat, List.drop (((none : Option (Array Value)).getD #[]).toList.length - n) ((none : Option (Array Value)).getD #[]).toList = [] := fun n => List.drop_nil
 cases fd
 cases hp
 cases hd
 refine ite2 (a := decide (vs.length > (as.map (·.arg)).length) && true) (b := !(((as.map (·.arg)).take ((as.map (·.arg)).length - (([] : List Value).drop (0 - (as.map (·.arg)).length)).length)).filter (fun n => (((as.map (·.arg)).zip vs).lookup n).isNone)).isEmpty) ?_ ?_ ?_
 ·rw [decide_eq_false (Nat.not_lt.mpr (Nat.le_of_eq hl'))]; rfl
 ·rw [hm]; rfl
 ·rw [hD, List.zip_nil_right]
  refine (congrArg (fun l : List Str => (pure (l.filterMap fun n => ((((as.map (·.arg)).zip vs).lookup n).map fun x => (n, x))) : Sem (List (Str × Value)))) (List.append_nil (as.map (·.arg)))).trans ?_
  exact congrArg pure hz
end
section
section
variable {Γ : Gl prog w} {C : Cx} {st : St}
noncomputable def hd : Nat → D → D
 | 0, d => if noMut d then d else .any
 | _ + 1, .mut _ => .any
 | _ + 1, .meth _ => .any
 | n + 1, .tup l => .tup (l.map (hd n))
 | n + 1, .lst l => .lst (l.map (hd n))
 | _ + 1, d => d
theorem hd_is {h h' X X' as as'} (K : Hand h X as h' X' as') : ∀ (n : Nat) (d : D) (v : Value), Rp h X as d v → Rp h' X' as' (hd n d) v := by
 intro n
 induction n with
 | zero =>
  intro d v r
  show Rp _ _ _ (if noMut d then d else .any) v
  by_cases nm : noMut d = true
  ·rw [if_pos nm]; exact Rp.hand K nm r
  ·rw [if_neg nm]; exact trivial
 | succ n ih =>
  intro d v r
  cases d with
  | «mut» => exact trivial
  | meth => exact trivial
  | tup l => exact lift_tup K.seq (Nat.le_of_eq (List.length_map ..)) (fun _ r => RpL.map (fun d _ v rv => ih d v rv) r) r
  | lst l => exact lift_lst K.seq K.out (Nat.le_of_eq (List.length_map ..)) (fun _ r => RpL.map (fun d _ v rv => ih d v rv) r) r
  | _ => exact Rp.hand K rfl r
/-! what a comprehension's frame closes over -/
noncomputable def closL (cells : List (Str × Addr)) : List (Str × NameKind) → List (Str × Addr) → Option (List (Str × Addr))
 | [], acc => some acc
 | (n, k) :: r, acc => if k == .free then match cells.lookup n with
   | some a => closL cells r ((n, a) :: acc)
   | none => none
  else closL cells r acc
theorem clos_loop {env : Env} : ∀ (names : List (Str × NameKind)) (acc cl : List (Str × Addr)), closL env.cells names acc = some cl →
  (forIn names acc (fun (x : Str × NameKind) (r : List (Str × Addr)) => if (x.2 == NameKind.free) = true then do let a ← cellOf env x.1; pure (ForInStep.yield ((x.1, a) :: r)) else pure (ForInStep.yield r)) : Sem (List (Str × Addr))) = pure cl
 | [], acc, cl, h => by simp only [closL, Option.some.injEq] at h; subst h; rfl
 | (n, k) :: r, acc, cl, h => by
  rw [List.forIn_cons]
  unfold closL at h
  by_cases hk : (k == NameKind.free) = true
  ·rw [if_pos hk] at h
   cases hc : env.cells.lookup n with
   | none => rw [hc] at h; cases h
   | some a =>
    rw [hc] at h
    have e : cellOf env n = pure a := by unfold cellOf; rw [hc]
    simp only [hk, if_true, e, pure_bind]
    exact clos_loop r _ cl h
  ·rw [if_neg hk] at h
   simp only [hk, Bool.false_eq_true, if_false, pure_bind]
   exact clos_loop r _ cl h
theorem clos_is {scope : Scope} {env : Env} {cl : List (Str × Addr)} (h : closL env.cells scope.names [] = some cl) : closureFor scope env = pure cl := by
 have e := clos_loop scope.names [] cl h
 unfold closureFor
 simp only [bind_pure]
 exact e
theorem clos_some {cells : List (Str × Addr)} : ∀ (names : List (Str × NameKind)) (acc : List (Str × Addr)), (∀ n, (n, NameKind.free) ∈ names → ∃ c, cells.lookup n = some c) → ∃ cl, closL cells names acc = some cl
 | [], acc, _ => ⟨acc, rfl⟩
 | (n, k) :: r, acc, h => by
  unfold closL
  by_cases hk : (k == NameKind.free) = true
  ·have hk' : k = .free := by simpa using hk
   subst hk'
   obtain ⟨c, hc⟩ := h n (.head _)
   rw [if_pos hk, hc]
   exact clos_some r _ fun m hm => h m (.tail _ hm)
  ·rw [if_neg hk]
   exact clos_some r _ fun m hm => h m (.tail _ hm)
theorem clos_mem {cells : List (Str × Addr)} : ∀ (names : List (Str × NameKind)) (acc cl : List (Str × Addr)), closL cells names acc = some cl → (∀ p ∈ acc, cells.lookup p.1 = some p.2) → ∀ p ∈ cl, cells.lookup p.1 = some p.2
 | [], acc, cl, h, g => by simp only [closL, Option.some.injEq] at h; subst h; exact g
 | (n, k) :: r, acc, cl, h, g => by
  unfold closL at h
  by_cases hk : (k == NameKind.free) = true
  ·rw [if_pos hk] at h
   cases hc : cells.lookup n with
   | none => rw [hc] at h; cases h
   | some a =>
    rw [hc] at h
    refine clos_mem r _ cl h fun p hp => ?_
    rcases List.mem_cons.mp hp with rfl | hp
    ·exact hc
    ·exact g p hp
  ·rw [if_neg hk] at h
   exact clos_mem r _ cl h g
theorem clos_has {cells : List (Str × Addr)} {x : Str} : ∀ (names : List (Str × NameKind)) (acc cl : List (Str × Addr)), closL cells names acc = some cl → ((x, NameKind.free) ∈ names ∨ ∃ a, (x, a) ∈ acc) → ∃ a, (x, a) ∈ cl
 | [], acc, cl, h, g => by
  simp only [closL, Option.some.injEq] at h; subst h
  exact g.elim (fun z => by cases z) id
 | (n, k) :: r, acc, cl, h, g => by
  unfold closL at h
  by_cases hk : (k == NameKind.free) = true
  ·rw [if_pos hk] at h
   cases hc : cells.lookup n with
   | none => rw [hc] at h; cases h
   | some a =>
    rw [hc] at h
    refine clos_has r _ cl h ?_
    rcases g with g | ⟨b, hb⟩
    ·rcases List.mem_cons.mp g with e | g
     ·cases e; exact .inr ⟨a, .head _⟩
     ·exact .inl g
    ·exact .inr ⟨b, .tail _ hb⟩
  ·rw [if_neg hk] at h
   refine clos_has r _ cl h ?_
   rcases g with g | g
   ·rcases List.mem_cons.mp g with e | g
    ·cases e; exact absurd rfl hk
    ·exact .inl g
   ·exact .inr g
theorem lookup_of_mem {α : Type} {x : Str} {a : α} : ∀ {l : List (Str × α)}, (x, a) ∈ l → ∃ b, l.lookup x = some b
 | (y, b) :: r, h => by
  rw [List.lookup_cons]
  cases e : x == y with
  | true => exact ⟨b, rfl⟩
  | false =>
   rcases List.mem_cons.mp h with q | q
   ·cases q; simp at e
   ·exact lookup_of_mem q
theorem relab {env : Env} : ∀ {names : List (Str × NameKind)} {x : Str} {k : NameKind}, names.lookup x = some k →
  (names.map fun (n, k) => if (k == NameKind.free && env.scope.kind == .function && env.kindOf n == some .cell) then (n, NameKind.cell) else (n, k)).lookup x =
   some (if (k == NameKind.free && env.scope.kind == .function && env.kindOf x == some .cell) then .cell else k)
 | [], _, _, h => by simp at h
 | (n, k') :: r, x, k, h => by
  have ih := @relab env r x k
  rw [List.map_cons]
  cases hx : x == n with
  | true =>
   rw [List.lookup_cons, hx] at h
   cases h
   have := beq_iff_eq.mp hx; subst this
   by_cases hc : (k' == NameKind.free && env.scope.kind == .function && env.kindOf x == some .cell) = true
   ·simp only [hc, if_true, List.lookup_cons, beq_self_eq_true]
   ·simp only [hc, Bool.false_eq_true, if_false, List.lookup_cons, beq_self_eq_true]
  | false =>
   rw [List.lookup_cons, hx] at h
   by_cases hc : (k' == NameKind.free && env.scope.kind == .function && env.kindOf n == some .cell) = true
   ·simp only [hc, if_true, List.lookup_cons, hx]; exact ih h
   ·simp only [hc, Bool.false_eq_true, if_false, List.lookup_cons, hx]; exact ih h
/-! the frame of a comprehension -/
noncomputable def compCx (C : Cx) (h : Heap) (as : List Addr) (env : Env) (kn : List (Str × NameKind)) : Cx where
 env := env
 A := C.A
 X := fun a => C.X a ∨ a ∈ as
 Ex := C.Ex
 h₀ := h
 own := []
 kn := kn
 J := C.J
structure Closed (C : Cx) (m0 : List (Str × D)) : Prop where
 nm : ∀ p ∈ m0, noMut p.2 = true
 is : ∀ x d, m0.lookup x = some d → ∃ v c k, C.env.kindOf x = some k ∧ (k = .cell ∨ k = .free) ∧ C.env.cells.lookup x = some c ∧ (∃ o, C.h₀.get? c = some o ∧ o.data = .cell (some v)) ∧ Rp C.h₀ C.X [] d v
theorem Rel.reset {h as m0} (R : Rel Γ C h as st) (K : Closed C m0) : Rel Γ C h as ⟨m0, st.mu⟩ := by
 refine { R with vars := fun x d e => ?_ }
 obtain ⟨v, c, k, h1, h2, h3, ⟨o, ho, hd⟩, h4⟩ := K.is x d e
 have nex : ∀ a o, C.h₀.get? a = some o → (∀ vs, o.data ≠ .fields vs) ∨ o.cls ≠ .none → ¬ C.Ex a := fun a o e hq hx => by
  obtain ⟨_, o', vs, e', hd', hc'⟩ := R.c.exP a hx
  rw [e] at e'; cases e'
  rcases hq with q | q
  ·exact q _ hd'
  ·exact q hc'
 refine ⟨v, .cell c k h1 h2 h3 ⟨o, R.base c o ho (nex c o ho (.inl fun _ => ob_no hd rfl)), hd⟩, ?_⟩
 refine h4.hand ⟨fun a o xs n e hs _ => R.base a o e (nex a o e (.inl fun _ => ob_no hs rfl)), fun a xs hl n1 _ => ⟨n1, fun ha => ?_⟩, fun a o e hf => R.base a o e (nex a o e (.inr ?_))⟩ (K.nm (x, d) (mem_of_lookup e))
 ·obtain ⟨o, ho, _⟩ := hl
  rw [R.muNew a ha] at ho; cases ho
 ·rcases hf.2 with q | q <;> rw [q] <;> decide
end
end
section
section
variable {Γ : Gl prog w} {C : Cx} {st : St}
noncomputable def AIfs (Γ : Gl prog w) (C : Cx) (ifs : List Expr) (st : St) (Φ : Bool → St → Prop) : Prop :=
 match ifs with
 | [] => Φ true st
 | [c] => AT Γ C c st Φ
 | _ => False
noncomputable def CTurn (Γ : Gl prog w) (kn : List (Str × NameKind)) (lim : Nat) (m0 : List (Str × D)) (target : Expr) (ifs : List Expr) (elt : Expr) (d : D) (r : Option D) : Prop :=
 ∀ (C : Cx) (acc : List D), C.kn = kn → C.A.depth + lim ≤ 600 → C.A.units + 10 * lim ≤ 5000 →
  AAs Γ C target d ⟨m0, [acc]⟩ fun st1 => AIfs Γ C ifs st1 fun b st2 => (b = false → r = none ∧ st2.mu = [acc]) ∧ (b = true → AE Γ C elt st2 fun rd st3 => r = some rd ∧ noMut rd = true ∧ st3.mu = [acc])
theorem ifs_run {ifs : List Expr} {Φ : Bool → St → Prop} (h : AIfs Γ C ifs st Φ) {s : Shared} {as : List Addr} {Q : Bool → Shared → Prop} {E : Value → Shared → Prop} (R : Rel Γ C s.heap as st)
  (k : ∀ b st' as' s', Φ b st' → Rel Γ C s'.heap as' st' → Ext C s.heap as s'.heap as' → Sm s s' → Q b s') :
  wpAny (model prog w) C.A (forIn ifs true fun c r => if r = true then do let ok ← isTrue c C.env (eval c C.env); pure (ForInStep.yield ok) else pure (ForInStep.yield r)) Q E s := by
 match ifs, h with
 | [], h => exact wpAny_tests_nil (k true st as s h R (Ext.refl ..) (Sm.refl s))
 | [c], h =>
  refine wpAny_tests_one ((show AT Γ C c st Φ from h) s as _ _ R ?_)
  intro x b st' as' s' f R' r x' m'
  cases r
  exact k x st' as' s' f R' x' m'
theorem mu_one {h : Heap} {as : List Addr} {D0 : Addr} (R : Rel Γ C h as st) {acc : List D} (e : st.mu = [acc]) (e0 : as[0]? = some D0) : as = [D0] := by
 have := R.mus.length
 rw [e] at this
 match as, this with
 | [a], _ => simp at e0; rw [e0]
theorem mu_fix {h h0 : Heap} {as : List Addr} {D0 : Addr} (R : Rel Γ C h as st) {acc : List D} (e : st.mu = [acc]) (x : Ext C h0 [D0] h as) : as = [D0] := mu_one R e (x.pre.elim fun _ q => q ▸ rfl)
theorem iteP_f {P Q : Prop} (h : Q) : if false = true then P else Q := h
theorem iteP_t {P Q : Prop} (h : P) : if true = true then P else Q := h
end
end
section
section
variable {Γ : Gl prog w} {C : Cx} {st : St}
noncomputable def compOk (outer : List (Str × NameKind)) (scope : Scope) (kn : List (Str × NameKind)) (m0 : List (Str × D)) : Bool :=
 scope.names.all (fun p => p.2 != .cell) && scope.names.all (fun p => p.2 != .free || outer.lookup p.1 == some .cell) &&
 scope.names.all (fun p => p.2 != .local || scope.names.lookup p.1 == some .local) &&
 kn.all (fun p => (p.2 == .local || p.2 == .globalImplicit) && scope.names.lookup p.1 == some p.2) &&
 m0.all (fun p => scope.names.lookup p.1 == some .free && noMut p.2)
theorem Ext.dead {st' : St} {h h' : Heap} {as as' : List Addr} (x : Ext C h as h' as') (R : Rel Γ C h' as' st') {a : Addr} (e : h'.get? a = Option.none) : h.get? a = Option.none := by
 cases q : h.get? a with
 | none => rfl
 | some o =>
  exfalso
  by_cases n1 : a ∈ as
  ·obtain ⟨e', rfl⟩ := x.pre
   obtain ⟨o', _, _, ho, _⟩ := R.alive (List.mem_append_left e' n1)
   rw [e] at ho; cases ho
  by_cases n2 : a = C.env.locals
  ·obtain ⟨m, o', _, _, ho, _⟩ := R.ns
   rw [← n2] at ho; rw [e] at ho; cases ho
  by_cases n3 : a ∈ C.own
  ·obtain ⟨o', v, ho, _⟩ := R.cells a n3
   rw [e] at ho; cases ho
  by_cases n4 : C.Ex a
  ·obtain ⟨o', v, ho, _⟩ := R.exA a n4
   rw [e] at ho; cases ho
  rw [x.keep a o q n1 n2 n3 n4] at e; cases e
noncomputable def CLoop (Γ : Gl prog w) (kn : List (Str × NameKind)) (lim : Nat) (m0 : List (Str × D)) (e : Expr) (depth : Nat) (ds res : List D) : Prop :=
 ∀ (C : Cx) (I D0 : Addr) (wr : List Addr) (R' : Result → Shared → Prop) (s0 : Shared) (as0 : List Addr) (acc : List D) (s : Shared) (st : St), C.kn = kn → C.A.depth + lim ≤ 600 → C.A.units + 10 * lim ≤ 5000 → Closed C m0 →
  Rel Γ C s.heap [D0] st → st.mu = [acc] → ItOk Γ C s.heap [D0] I wr ds → acc.length + res.length ≤ 1048576 → ExtX wr C s0.heap as0 s.heap [D0] → Sm s0 s →
  (∀ s' st', Rel Γ C s'.heap [D0] st' → st'.mu = [acc ++ res] → ExtX wr C s0.heap as0 s'.heap [D0] → Sm s0 s' → R' (.ok .next) s') →
  codeAny (model prog w) C.A (.compLoop e depth (.ref I) (.ref D0) C.env) R' s
theorem comp_stepG {elt target : Expr} {gens : List Comprehension} {scope : Scope} {pos : Pos} {depth : Nat} {ifs : List Expr} {ip : Pos} {I : Addr} {acc : Value} {A : Around} {env : Env} {s : Shared} {R' : Result → Shared → Prop}
  (HT : ∀ it acc env, compTurn (.ListComp elt gens scope pos) depth it acc env = (do
   standAt ip
   match ← pyNext it with
   | none => pure (.done .next)
   | some v =>
    letOwnedTupleGo target it v
    assign target env v
    let mut ok := true
    for c in ifs do
     if ok then ok ← isTrue c env (eval c env)
    if ok then
     (do let _ ← call (.builtin "list.append") [acc, ← eval elt env])
    again (.compLoop (.ListComp elt gens scope pos) depth it acc env)))
  (h : wpAny (model prog w) A (pyNext (.ref I)) (fun r s₁ => match r with
   | none => R' (.ok .next) s₁
   | some v => wpAny (model prog w) A (letOwnedTupleGo target (.ref I) v) (fun _ s₁' => wpAny (model prog w) A (assign target env v) (fun _ s₂ =>
     wpAny (model prog w) A (forIn ifs true fun c r => if r = true then do let ok ← isTrue c env (eval c env); pure (ForInStep.yield ok) else pure (ForInStep.yield r)) (fun ok s₃ =>
      if ok = true then wpAny (model prog w) A (eval elt env) (fun x s₄ =>
       wpAny (model prog w) A (call (.builtin "list.append") [acc, x]) (fun _ s₅ => codeAny (model prog w) A (.compLoop (.ListComp elt gens scope pos) depth (.ref I) acc env) R' s₅) (notedBy (model prog w) A env fun e s' => R' (.error e) s') s₄) (notedBy (model prog w) A env fun e s' => R' (.error e) s') s₃
      else codeAny (model prog w) A (.compLoop (.ListComp elt gens scope pos) depth (.ref I) acc env) R' s₃) (notedBy (model prog w) A env fun e s' => R' (.error e) s') s₂) (notedBy (model prog w) A env fun e s' => R' (.error e) s') s₁') (notedBy (model prog w) A env fun e s' => R' (.error e) s') s₁) (notedBy (model prog w) A env fun e s' => R' (.error e) s') s) :
  codeAny (model prog w) A (.compLoop (.ListComp elt gens scope pos) depth (.ref I) acc env) R' s := by
 refine codeAny_of_tree ?_
 show wpAny _ A ((compTurn (.ListComp elt gens scope pos) depth (.ref I) acc env).onRaise (fun x => do noteFrame x env; theTreesLotGoes x)) _ _ s
 refine wpAny_noted ?_
 rw [HT]
 refine wpAny_bind (wpAny_standAt (wpAny_bind (wpAny_mono h (fun r s₁ h₁ => ?_) fun _ _ h' => h')))
 cases r with
 | none => exact wpAny_pure h₁
 | some v =>
  refine wpAny_bind (wpAny_mono h₁ (fun _ s₁' h₁' => ?_) fun _ _ h' => h')
  refine wpAny_bind (wpAny_mono h₁' (fun _ s₂ h₂ => wpAny_bind (wpAny_mono h₂ (fun ok s₃ h₃ => ?_) fun _ _ h' => h')) fun _ _ h' => h')
  cases ok with
  | false => exact wpAny_pure ⟨rfl, h₃⟩
  | true =>
   exact wpAny_bind (wpAny_bind (wpAny_mono h₃ (fun x s₄ h₄ => wpAny_bind (wpAny_mono h₄ (fun _ s₅ h₅ => wpAny_pure (wpAny_pure ⟨rfl, h₅⟩)) fun _ _ h' => h')) fun _ _ h' => h'))
theorem comp_loopG {elt target : Expr} {gens : List Comprehension} {scope : Scope} {pos : Pos} {depth : Nat} {ifs : List Expr} {ip : Pos} {I D0 : Addr} {wr : List Addr} {kn : List (Str × NameKind)} {lim : Nat} {m0 : List (Str × D)} {g : D → Option D} (HT : ∀ it acc env, compTurn (.ListComp elt gens scope pos) depth it acc env = (do
     standAt ip
     match ← pyNext it with
     | none => pure (.done .next)
     | some v =>
      letOwnedTupleGo target it v
      assign target env v
      let mut ok := true
      for c in ifs do
       if ok then ok ← isTrue c env (eval c env)
      if ok then
       (do let _ ← call (.builtin "list.append") [acc, ← eval elt env])
      again (.compLoop (.ListComp elt gens scope pos) depth it acc env)))
  (hkn : C.kn = kn) (hdep : C.A.depth + lim ≤ 600) (hun : C.A.units + 10 * lim ≤ 5000) (K : Closed C m0)
  {R' : Result → Shared → Prop} {s0 : Shared} {as0 : List Addr} : ∀ (ds acc : List D) (s : Shared) (st : St), Rel Γ C s.heap [D0] st → st.mu = [acc] → ItOk Γ C s.heap [D0] I wr ds → (∀ d ∈ ds, CTurn Γ kn lim m0 target ifs elt d (g d)) → acc.length + (ds.filterMap g).length ≤ 1048576 →
   ExtX wr C s0.heap as0 s.heap [D0] → Sm s0 s →
   (∀ s' st', Rel Γ C s'.heap [D0] st' → st'.mu = [acc ++ ds.filterMap g] → ExtX wr C s0.heap as0 s'.heap [D0] → Sm s0 s' → R' (.ok .next) s') →
   codeAny (model prog w) C.A (.compLoop (.ListComp elt gens scope pos) depth (.ref I) (.ref D0) C.env) R' s
 | [], acc, s, st, R, e, it, _, _, X0, M0, k => by
  refine comp_stepG HT (next_end R it fun s1 R1 _ x1 m1 => ?_)
  exact k s1 st R1 (by simpa using e) (X0.trans R x1) (M0.trans m1)
 | d :: ds, acc, s, st, R, e, it, hg, hn, X0, M0, k => by
  have Rr := R.reset K
  rw [e] at Rr
  refine comp_stepG HT (next_item Rr it fun v s1 r1 it1 R1 x1 m1 => ?_)
  refine letGo_no it1.head ?_
  have T := hg d (.head _) C acc hkn hdep hun
  refine T s1 [D0] v _ _ R1 r1 fun st2 s2 h2 R2 x2 m2 => ?_
  refine ifs_run h2 R2 fun b st3 as3 s3 h3 R3 x3 m3 => ?_
  have X3 := x2.trans R2 x3
  cases b with
  | false =>
   have hr := (h3.1 rfl).1
   have hmu := (h3.1 rfl).2
   have ha := mu_fix R3 hmu X3
   have R4 : Rel Γ C s3.heap [D0] st3 := ha ▸ R3
   have X4 : Ext C s1.heap [D0] s3.heap [D0] := ha ▸ X3
   refine iteP_f (comp_loopG HT hkn hdep hun K ds acc s3 st3 R4 hmu (it1.ext R1 X4) (fun d hd => hg d (.tail _ hd)) (by rw [List.filterMap_cons_none hr] at hn; exact hn) (X0.trans R (x1.trans R1 (X4.x wr))) (M0.trans (m1.trans (m2.trans m3))) fun s' st' R' e' x' m' => ?_)
   exact k s' st' R' (by rw [e', List.filterMap_cons_none hr]) x' m'
  | true =>
   refine iteP_t (h3.2 rfl s3 as3 _ _ R3 ?_)
   intro u rd st4 as4 s4 h4 R4 r4 x4 m4
   have hr := h4.1
   have hmu := h4.2.2
   have X4 := X3.trans R3 x4
   have ha := mu_fix R4 hmu X4
   have R5 : Rel Γ C s4.heap [D0] st4 := ha ▸ R4
   have r5 : Rp s4.heap C.X [D0] rd u := ha ▸ r4
   have X5 : Ext C s1.heap [D0] s4.heap [D0] := ha ▸ X4
   rw [List.filterMap_cons_some hr] at hn
   refine (ACall_append (Φ := fun _ st5 => st5 = { st4 with mu := st4.mu.set 0 (acc ++ [rd]) }) (by rw [hmu]; rfl) (Nat.lt_of_lt_of_le (Nat.lt_add_of_pos_right (Nat.succ_pos _)) hn) rfl) s4 [D0] [.ref D0, u] _ _ R5 ⟨⟨D0, rfl, rfl⟩, r5, trivial⟩ ?_
   intro v5 d5 st5 as5 s5 e5 R6 _ x6 m6
   have hm5 : st5.mu = [acc ++ [rd]] := by rw [e5, hmu]; rfl
   have ha := mu_fix R6 hm5 x6
   have R7 : Rel Γ C s5.heap [D0] st5 := ha ▸ R6
   have X7 : Ext C s1.heap [D0] s5.heap [D0] := ha ▸ X5.trans R5 x6
   refine comp_loopG HT hkn hdep hun K ds (acc ++ [rd]) s5 _ R7 hm5 (it1.ext R1 X7) (fun d hd => hg d (.tail _ hd)) (by rw [List.length_append, Nat.add_assoc, Nat.add_comm]; rw [List.length_cons, Nat.add_comm] at hn; rw [Nat.add_comm [rd].length]; exact hn) (X0.trans R (x1.trans R1 (X7.x wr))) (M0.trans (m1.trans (m2.trans (m3.trans (m4.trans m6))))) fun s' st' R' e' x' m' => ?_
   exact k s' st' R' (by rw [e', List.filterMap_cons_some hr, List.append_assoc]; rfl) x' m'
theorem comp_coreG {elt target iter : Expr} {ifs : List Expr} {gs : List Comprehension} {scope : Scope} {pos pos' : Pos} {kn : List (Str × NameKind)} {lim : Nat} {m0 : List (Str × D)} {use : Option (Value → Sem Unit)} {Q : Value → Shared → Prop} {E : Value → Shared → Prop} {s : Shared} {as : List Addr} {Ψ : List D → St → Prop}
  (hkind : scope.kind = .function) (hok : compOk C.kn scope kn m0 = true) (hset : noSet iter = true) (hdep : C.A.depth + lim ≤ 600) (hun : C.A.units + 10 * lim ≤ 5000)
  (h : AE Γ C iter st fun d st1 => ∃ ds0 ds res, iterH st1.mu d = some ds0 ∧ ds = ds0.map (hd 4) ∧ res.length ≤ 1048576 ∧ (∀ p ∈ m0, st1.m.lookup p.1 = some p.2) ∧ CLoop Γ kn lim m0 (.ListComp elt (⟨target, iter, ifs, 0⟩ :: gs) scope pos) 0 ds res ∧ noMutL res = true ∧ Ψ res st1)
  (R : Rel Γ C s.heap as st)
  (fin : ∀ rs st1 as1 s' D0 L, Ψ rs st1 → Rel Γ C s'.heap as1 st1 → Rp s'.heap C.X as1 (.lst rs) (.ref D0) → Ext C s.heap as s'.heap as1 → Sm s s' → (∃ m, s'.heap.Ns L m) → C.h₀.get? L = Option.none → s.heap.get? L = Option.none → L ≠ C.env.locals →
   compPost (model prog w) C.A E use Q (.ref D0) L (.ok .next) s') :
  wpAny (model prog w) C.A (comprehension (.ListComp elt (⟨target, iter, ifs, 0⟩ :: gs) scope pos) scope C.env pos' (newList []) false (eval iter C.env) use) Q E s := by
 refine hide fun GG hGG => ?_
 unfold compOk at hok
 simp only [Bool.and_eq_true] at hok
 obtain ⟨⟨⟨⟨hcell, hfree⟩, hnames⟩, hknm⟩, hm0⟩ := hok
 have hcell' : ∀ x ∈ scope.names, x.2 ≠ .cell := fun x hx => by simpa using List.all_eq_true.mp hcell x hx
 have hnames' : ∀ x ∈ scope.names, x.2 = .local → scope.names.lookup x.1 = some .local := fun x hx hl => by
  have := List.all_eq_true.mp hnames x hx
  simpa [hl] using this
 obtain ⟨cl, hcl⟩ := clos_some (cells := C.env.cells) scope.names [] fun n hn => by
  have := List.all_eq_true.mp hfree _ hn
  have q : C.kn.lookup n = some .cell := by simpa using this
  exact R.c.cellHas n q
 have hclm := clos_mem scope.names [] cl hcl fun p hp => by cases hp
 refine hGG ?_
 clear hGG
 refine wpAny_comprehension_free (g := ⟨target, iter, ifs, 0⟩) (gs := gs) (cl := cl) rfl (fun x => folded_no hset x) (clos_is hcl) hkind hnames' ?_
 refine h s as _ E R ?_
 intro v d st1 as1 s1 hh R1 r1 x1 m1
 refine hide fun GG hGG => ?_
 obtain ⟨ds0, ds, res, hit, hds, hlen, hm0v, hturn, hnm, hΨ⟩ := hh
 refine hGG ?_
 clear hGG
 refine iter_raw R1 r1 hit fun I wr fp n P Sx s2 W h0 hn hi hI sh hb R2 k2 nw m2 => ?_
 refine wpAny_newList ?_ (by simp)
 have hD0 : s2.heap.get? s2.heap.objs.size = Option.none := none_end _
 have sub2 : ∀ {a : Addr}, s2.heap.objs.size ≤ a → s1.heap.get? a = Option.none := fun {a} ha => Option.eq_none_iff_forall_ne_some.mpr fun o q => absurd (Heap.lt_size (k2 a o q)) (Nat.not_lt.mpr ha)
 refine wpAny_newFunctionEnv hcell' (by intro x hx; cases hx) (fun h' hns hsb => ?_) hkind
 dsimp only at hns hsb ⊢
 generalize hH3 : s2.heap.push { cls := .type "list", data := .seq ([] : List Value).toArray } = H3 at hns hsb ⊢
 have hL : H3.objs.size = s2.heap.objs.size + 1 := by rw [← hH3, Heap.size_push]
 have keep3 : ∀ a o, s2.heap.get? a = some o → h'.get? a = some o := fun a o e => by
  have e3 : H3.get? a = some o := by rw [← hH3]; exact Heap.get?_push_of_some _ e
  refine hsb.extBut a o ?_ (Heap.get?_push_of_some _ e3)
  intro ea
  have := Heap.lt_size e
  rw [ea, hL] at this
  exact absurd this (Nat.not_lt.mpr (Nat.le_succ _))
 have hD3 : h'.get? s2.heap.objs.size = some { cls := .type "list", data := .seq ([] : List Value).toArray } := by
  have e3 : H3.get? s2.heap.objs.size = some { cls := .type "list", data := .seq ([] : List Value).toArray } := by rw [← hH3]; exact Heap.get?_push_size _ rfl
  exact hsb.extBut _ _ (by rw [hL]; exact Nat.ne_of_lt (Nat.lt_succ_self _)) (Heap.get?_push_of_some _ e3)
 have keep13 : ∀ a o, s1.heap.get? a = some o → h'.get? a = some o := fun a o e => keep3 a o (k2 a o e)
 let env' : Env := { newEnv scope H3.objs.size C.env.globals cl C.env.qual none .none (some C.env) builtinsNs with scope := relabel scope C.env }
 let C' := compCx C s1.heap as1 env' kn
 have kin : ∀ x k, kn.lookup x = some k → (k = .local ∨ k = .globalImplicit) ∧ scope.names.lookup x = some k := fun x k e => by
  have := List.all_eq_true.mp hknm _ (mem_of_lookup e)
  simp only [Bool.and_eq_true, Bool.or_eq_true, beq_iff_eq] at this
  exact this
 have cx : CxOk Γ C' := {
  ok := R1.okh
  exE := R.c.exE
  jE := R.c.jE
  exP := fun b hb => exP_of (C := C) R1 b hb
  xin := fun b hb => xin_of (C := C) R1 b hb
  xg := fun b hb => xg_of (C := C) R1 b hb
  fun_ := hkind
  glo := R.c.glo
  blt := R.c.blt
  nsNew := sub2 (by show s2.heap.objs.size ≤ H3.objs.size; rw [hL]; exact Nat.le_succ _)
  cellNew := fun c hc => by cases hc
  cellIn := fun x c e _ => by
   obtain ⟨h1, _⟩ := kin x _ e
   rcases h1 with h1 | h1 <;> cases h1
  cellHas := fun x e => by
   obtain ⟨h1, _⟩ := kin x _ e
   rcases h1 with h1 | h1 <;> cases h1
  inj := fun x y c e1 e2 => R.c.inj x y c (hclm _ (mem_of_lookup e1)) (hclm _ (mem_of_lookup e2))
  kns := fun x k e => by
   obtain ⟨h1, h2⟩ := kin x k e
   have := relab (env := C.env) h2
   show (List.map _ scope.names).lookup x = some k
   rw [this]
   rcases h1 with rfl | rfl <;> rfl
  hand := R.c.hand
  deep := R.c.deep
  unit := R.c.unit }
 have H := hand_in R1 (h' := s1.heap) fun _ _ e => e
 have K : Closed C' m0 := {
  nm := fun p hp => by
   have := List.all_eq_true.mp hm0 p hp
   simp only [Bool.and_eq_true] at this
   exact this.2
  is := fun x d e => by
   have hp := mem_of_lookup e
   have q := List.all_eq_true.mp hm0 _ hp
   simp only [Bool.and_eq_true, beq_iff_eq] at q
   have hfr := mem_of_lookup q.1
   have hck : C.kn.lookup x = some .cell := by simpa using List.all_eq_true.mp hfree _ hfr
   obtain ⟨u, hu, hru⟩ := R1.vars x d (hm0v _ hp)
   have hkc := R.c.kns x _ hck
   obtain ⟨c, hc⟩ := R.c.cellHas x hck
   obtain ⟨a, ha⟩ := clos_has scope.names [] cl hcl (.inl hfr)
   obtain ⟨b, hb'⟩ := lookup_of_mem ha
   have hbc := hclm _ (mem_of_lookup hb')
   rw [hc] at hbc; cases hbc
   cases hu with
   | loc m k1 _ _ => rw [hkc] at k1; cases k1
   | cell c' k k1 k2 k3 k4 =>
    cases hc.symm.trans k3
    have hr := relab (env := C.env) q.1
    refine ⟨u, _, .cell, ?_, .inl rfl, hb', k4, hru.hand H q.2⟩
    show (List.map _ scope.names).lookup x = some NameKind.cell
    rw [hr, R.c.fun_, hkc]; rfl }
 have R3 : Rel Γ C' h' [s2.heap.objs.size] ⟨m0, [[]]⟩ := by
  have base : Rel Γ C' h' [s2.heap.objs.size] ⟨[], [[]]⟩ := {
   c := cx
   base := fun a o e _ => keep13 a o e
   exA := fun a ha => by obtain ⟨o, vs, e, hh⟩ := R1.exA a ha; exact ⟨o, vs, keep13 a o e, hh⟩
   ns := ⟨_, hns⟩
   cells := fun c hc => by cases hc
   vars := fun x d e => by cases e
   mus := .cons #[] ⟨_, hD3⟩ (by simp) (by simp [RpL]) .nil
   muNew := fun a ha => by rw [List.mem_singleton] at ha; subst ha; exact sub2 (Nat.le_refl _)
   nodup := by simp
   inv := by obtain ⟨F, hj, hF⟩ := R1.inv; exact ⟨F, hj, fun p hp => ⟨keep13 _ _ (hF p hp).1, (hF p hp).2⟩⟩ }
  exact base.reset K
 have keep2 : ∀ b ∈ fp, ∀ o, s2.heap.get? b = some o → h'.get? b = some o := fun b _ o e => keep3 b o e
 have it3 : ItOk Γ C' h' [s2.heap.objs.size] I wr ds := by
  refine ⟨fp, n, 0, P, Sx, W, W.frame _ _ _ h0 keep2, by rw [hn, hds, List.length_map, Nat.zero_add], fun j v d hp hd' => ?_, hI, fun b hb' => nw b hb', sh, fun b hb' hw => ?_⟩
  ·rw [hds, List.getElem?_map] at hd'
   rw [Nat.zero_add] at hp
   obtain ⟨d0, hdj, rfl⟩ := Option.map_eq_some_iff.mp hd'
   exact hd_is ⟨fun a o xs n e _ _ => keep13 a o e, fun a xs hl n1 n2 => ⟨fun z => z.elim n1 n2, fun z => hl.elim fun o y => no_some ((sub2 (Nat.le_refl _)).symm.trans (List.mem_singleton.mp z ▸ y.1))⟩, fun a o e _ => keep13 a o e⟩ 4 d0 v (hi j v d0 hp hdj)
  ·obtain ⟨_, o, xs, k, ho, hdd⟩ := hb b hb' hw
   exact ⟨fun hm => no_some ((sub2 (Nat.le_refl _)).symm.trans (List.mem_singleton.mp hm ▸ ho)), o, xs, k, keep13 b o ho, hdd⟩
 have loop : codeAny (model prog w) C.A (.compLoop (.ListComp elt (⟨target, iter, ifs, 0⟩ :: gs) scope pos) 0 (.ref I) (.ref s2.heap.objs.size) env')
   (compPost (model prog w) C.A E use Q (.ref s2.heap.objs.size) H3.objs.size) { s2 with heap := h', toks := s2.toks + ([] : List (Str × Value)).length } := by
  refine hturn C' _ _ wr _ { s2 with heap := h', toks := s2.toks + ([] : List (Str × Value)).length } [s2.heap.objs.size] [] _ ⟨m0, [[]]⟩ rfl hdep hun K R3 rfl it3 (by simpa using hlen) ((Ext.refl C' h' _).x wr) (Sm.refl _) fun s' st' R' e' x' m' => ?_
  refine hide fun GG hGG => ?_
  rw [List.nil_append] at e'
  have J := R1.jump (h' := s'.heap) (fun a o e n => R'.base a o e n) R'.exA R'.inv
  obtain ⟨a', vs, ha', hl', hbl', hq'⟩ := MuIs.get R'.mus (i := 0) (ds := res) (by rw [e']; rfl)
  simp at ha'; subst ha'
  have fresh : ∀ b, C.X b ∨ b ∈ as1 → b ≠ s2.heap.objs.size := fun b hb' e => no_tf ((congrArg Option.isSome (show s1.heap.get? b = Option.none from e ▸ sub2 (Nat.le_refl _))).symm.trans (xin_of R1 _ hb').1)
  have rl : Rp s'.heap C.X as1 (.lst (res)) (.ref s2.heap.objs.size) := by
   refine ⟨_, vs, rfl, fun hx => fresh _ (.inl hx) rfl, fun hx => fresh _ (.inr hx) rfl, hl', hbl', ?_⟩
   exact hq'.hand ⟨fun a o xs n e _ _ => e, fun a xs hl n1 n2 => ⟨fun z => n1 (.inl z), fun z => n1 (.inr z)⟩, fun a o e _ => e⟩ hnm
  obtain ⟨mm, hmm⟩ := R'.ns
  have hLs1 : s1.heap.get? H3.objs.size = Option.none := sub2 (by rw [hL]; exact Nat.le_succ _)
  refine hGG ?_
  clear hGG
  exact fin _ st1 as1 s' s2.heap.objs.size H3.objs.size hΨ J.1 rl (x1.trans R1 J.2.2) (m1.trans (m2.trans ⟨m'.os, m'.gens⟩)) ⟨mm, hmm⟩ (R1.new_none hLs1) (x1.dead R1 hLs1) fun hll => R1.ns.elim fun _ z => z.elim fun _ z => z.elim fun _ z => z.elim fun _ z => no_some (hLs1.symm.trans (hll ▸ z.1))
 refine codeAny_compStart_list loop (W.self 0 _ _ _ (W.frame _ _ _ h0 keep2) loop)
theorem comp_core {elt target iter : Expr} {ifs : List Expr} {scope : Scope} {pos pos' : Pos} {kn : List (Str × NameKind)} {lim : Nat} {m0 : List (Str × D)} {use : Option (Value → Sem Unit)} {Q : Value → Shared → Prop} {E : Value → Shared → Prop} {s : Shared} {as : List Addr} {Ψ : List D → St → Prop}
  (hkind : scope.kind = .function) (hok : compOk C.kn scope kn m0 = true) (hset : noSet iter = true) (hdep : C.A.depth + lim ≤ 600) (hun : C.A.units + 10 * lim ≤ 5000)
  (h : AE Γ C iter st fun d st1 => ∃ ds0 ds g, iterH st1.mu d = some ds0 ∧ ds = ds0.map (hd 4) ∧ ds.length ≤ 1048576 ∧ (∀ p ∈ m0, st1.m.lookup p.1 = some p.2) ∧ (∀ d ∈ ds, CTurn Γ kn lim m0 target ifs elt d (g d)) ∧ noMutL (ds.filterMap g) = true ∧ Ψ (ds.filterMap g) st1)
  (R : Rel Γ C s.heap as st)
  (fin : ∀ rs st1 as1 s' D0 L, Ψ rs st1 → Rel Γ C s'.heap as1 st1 → Rp s'.heap C.X as1 (.lst rs) (.ref D0) → Ext C s.heap as s'.heap as1 → Sm s s' → (∃ m, s'.heap.Ns L m) → C.h₀.get? L = Option.none → s.heap.get? L = Option.none → L ≠ C.env.locals →
   compPost (model prog w) C.A E use Q (.ref D0) L (.ok .next) s') :
  wpAny (model prog w) C.A (comprehension (.ListComp elt [⟨target, iter, ifs, 0⟩] scope pos) scope C.env pos' (newList []) false (eval iter C.env) use) Q E s := by
 refine comp_coreG (gs := []) hkind hok hset hdep hun (AW.mono h ?_) R fin
 rintro d st1 ⟨ds0, ds, g, h1, h2, h3, h4, h5, h6, h7⟩
 refine ⟨ds0, ds, ds.filterMap g, h1, h2, Nat.le_trans (List.length_filterMap_le ..) h3, h4, ?_, h6, h7⟩
 intro C I D0 wr R' s0 as0 acc s st hk hd hu K R e it hn X0 M0 k
 exact comp_loopG (gens := [⟨target, iter, ifs, 0⟩]) (ip := iter.pos) (fun it acc env => by rfl) hk hd hu K ds acc s st R e it h5 hn X0 M0 k
end
end
section
section
variable {Γ : Gl prog w} {C : Cx} {st : St}
theorem Rel.skip {h h' as} (R : Rel Γ C h as st) {L : Addr} (hL : ∃ m, h.Ns L m) (hn : C.h₀.get? L = Option.none) (hl : L ≠ C.env.locals) (hs : Heap.SameBut L h h') :
  Rel Γ C h' as st ∧ ∀ d v, Rp h C.X as d v → Rp h' C.X as d v := by
 have kp : ∀ a o, h.get? a = some o → (∀ es n, o.data ≠ .dict es n) → h'.get? a = some o := fun a o e q => hL.elim fun m z => z.elim fun oL z => z.elim fun es z => z.elim fun ep z => (hs.2 a fun y => q _ _ (Option.some.inj ((y ▸ z.1).symm.trans e) ▸ z.2.1)).trans e
 have K : Lean1 h C.X as h' C.X as := ⟨fun a o xs n e hd _ => kp a o e fun _ _ => ob_no hd rfl, fun a xs hl n1 n2 => ⟨n1, n2⟩, fun i a e => e, fun a o e hf => kp a o e (hf.1.elim fun _ hv _ _ => ob_no hv rfl)⟩
 exact ⟨⟨R.c, fun a o e n => (hs.2 a fun y => no_some ((y ▸ hn).symm.trans e)).trans (R.base a o e n), fun a hx => (R.exA a hx).imp fun o => Exists.imp fun vs q => ⟨kp a o q.1 fun _ _ => ob_no q.2.1 rfl, q.2⟩,
  R.ns.imp fun m => Exists.imp fun o => Exists.imp fun es => Exists.imp fun ep q => ⟨(hs.2 _ (Ne.symm hl)).trans q.1, q.2⟩, fun c hc => (R.cells c hc).imp fun o => Exists.imp fun v q => ⟨kp c o q.1 fun _ _ => ob_no q.2 rfl, q.2⟩,
  fun x d e => (R.vars x d e).imp fun v q => ⟨by
   cases q.1 with
   | loc m q1 q2 q3 => exact .loc m q1 (q2.imp fun o => Exists.imp fun es => Exists.imp fun ep z => ⟨(hs.2 _ (Ne.symm hl)).trans z.1, z.2⟩) q3
   | cell c k q1 q2 q3 q4 => exact .cell c k q1 q2 q3 (q4.imp fun o z => ⟨kp c o z.1 fun _ _ => ob_no z.2 rfl, z.2⟩), q.2.lift K⟩,
  R.mus.lift K fun a _ xs => Exists.imp fun n ho => kp _ _ ho fun _ _ => ob_no rfl rfl, R.muNew, R.nodup, R.inv.imp fun F q => ⟨q.1, fun p hp => ⟨kp _ _ (q.2 p hp).1 ((q.2 p hp).2.2.elim fun _ hv _ _ => ob_no hv rfl), (q.2 p hp).2⟩⟩⟩, fun d v r => r.lift K⟩
theorem AE_ListComp {elt target iter : Expr} {ifs : List Expr} {scope : Scope} {pos : Pos} {kn : List (Str × NameKind)} {lim : Nat} {m0 : List (Str × D)} {Φ : D → St → Prop}
  (hkind : scope.kind = .function) (hok : compOk C.kn scope kn m0 = true) (hset : noSet iter = true) (hdep : C.A.depth + lim ≤ 600) (hun : C.A.units + 10 * lim ≤ 5000)
  (h : AE Γ C iter st fun d st1 => ∃ ds0 ds g, iterH st1.mu d = some ds0 ∧ ds = ds0.map (hd 4) ∧ ds.length ≤ 1048576 ∧ (∀ p ∈ m0, st1.m.lookup p.1 = some p.2) ∧ (∀ d ∈ ds, CTurn Γ kn lim m0 target ifs elt d (g d)) ∧ noMutL (ds.filterMap g) = true ∧ Φ (.lst (ds.filterMap g)) st1) :
  AE Γ C (.ListComp elt [⟨target, iter, ifs, 0⟩] scope pos) st Φ := by
 intro s as Q E R k
 rw [eval_ListComp]
 refine comp_core (use := none) (Ψ := fun rs st1 => Φ (.lst rs) st1) hkind hok hset hdep hun h R ?_
 intro rs st1 as1 s' D0 L hΨ R1 r1 x1 m1 ⟨m, hm⟩ hL1 hL2 hL3
 refine ⟨m, hm, fun h' hs => ?_⟩
 have S := R1.skip ⟨m, hm⟩ hL1 hL3 hs
 refine k _ (.lst rs) st1 as1 { s' with heap := h' } hΨ S.1 (S.2 _ _ r1) ⟨fun a o e n1 n2 n3 n4 => (hs.2 a (by rintro rfl; rw [hL2] at e; cases e)).trans (x1.keep a o e n1 n2 n3 n4), x1.pre, x1.fresh⟩ ⟨m1.os, m1.gens⟩
noncomputable def swapB (kn : List (Str × NameKind)) (scope : Scope) (pos : Pos) (x : Str) (p : Pos) : Bool :=
 kn.lookup x == some .local && p.line == pos.line && !(scope.names.any fun (n, k) => n == x && (k == .local || k == .cell))
theorem swap_is {elt gens scope pos x p l} {b : Bool} (R : CxOk Γ C) (hk : storable C.kn x = true) (h : swapB C.kn scope pos x p = b) : swapsWith (.ListComp elt gens scope pos) (some (.Name x p)) l C.env = pure b := by
 unfold storable at hk
 rw [Bool.or_eq_true] at hk
 show (pure (C.env.blockKind == .function && C.env.kindOf x == some .local && p.line == pos.line && !(scope.names.any fun (n, k) => n == x && (k == .local || k == .cell))) : Sem Bool) = pure b
 rw [blk R]
 unfold swapB at h
 rw [← h]
 rcases hk with hk | hk
 ·have := R.kns x _ (beq_iff_eq.mp hk)
  rw [this, hk]; rfl
 ·have := R.kns x _ (beq_iff_eq.mp hk)
  rw [this, beq_iff_eq.mp hk]; rfl
theorem AS_AssignComp {elt target iter : Expr} {ifs : List Expr} {scope : Scope} {pos pos' : Pos} {kn : List (Str × NameKind)} {lim : Nat} {m0 : List (Str × D)} {x : Str} {p : Pos} {Φ : Fl → St → Prop}
  (hk : storable C.kn x = true) (hkind : scope.kind = .function) (hok : compOk C.kn scope kn m0 = true) (hset : noSet iter = true) (hdep : C.A.depth + lim ≤ 600) (hun : C.A.units + 10 * lim ≤ 5000)
  (h : AE Γ C iter st fun d st1 => ∃ ds0 ds g, iterH st1.mu d = some ds0 ∧ ds = ds0.map (hd 4) ∧ ds.length ≤ 1048576 ∧ (∀ p ∈ m0, st1.m.lookup p.1 = some p.2) ∧ (∀ d ∈ ds, CTurn Γ kn lim m0 target ifs elt d (g d)) ∧ noMutL (ds.filterMap g) = true ∧ Φ .next { st1 with m := upd st1.m x (.lst (ds.filterMap g)) }) :
  AS Γ C (.Assign [.Name x p] (.ListComp elt [⟨target, iter, ifs, 0⟩] scope pos) pos') st Φ := by
 intro s as Q E R k
 cases hsw : swapB C.kn scope pos x p with
 | false =>
  refine wpAny_Assign_Name (AE_ListComp (Φ := fun d st1 => Φ .next { st1 with m := upd st1.m x d }) hkind hok hset hdep hun h s as _ E R ?_) (swap_is R.c hk hsw)
  intro v d st1 as1 s1 f1 R1 r1 x1 m1
  exact store_is hk R1 r1 fun s' R' x' m' => k .next .next _ as1 s' f1 R' rfl (x1.trans R1 x') (m1.trans m')
 | true =>
  rw [exec_Assign_Name_used _ _ _ _ (swap_is R.c hk hsw)]
  refine wpAny_bind (wpAny_standAt (wpAny_bind ?_))
  show wpAny _ _ (do let _ ← comprehension (.ListComp elt [⟨target, iter, ifs, 0⟩] scope pos) scope C.env _ (newList []) false (eval iter C.env) (some (assign (.Name x p) C.env))) _ _ s
  refine wpAny_bind (wpAny_mono (comp_core (Q := fun _ s' => Q .next s') (use := some (assign (.Name x p) C.env)) (Ψ := fun rs st1 => Φ .next { st1 with m := upd st1.m x (.lst rs) }) hkind hok hset hdep hun h R ?_) (fun _ s' hq => wpAny_pure (wpAny_pure hq)) fun _ _ e => e)
  intro rs st1 as1 s' D0 L hΨ R1 r1 x1 m1 ⟨m, hm⟩ hL1 hL2 hL3
  refine wpAny_assign_Name (store_is hk R1 r1 fun s2 R2 x2 m2 => ?_)
  have hLm : ∃ m', s2.heap.Ns L m' := by
   obtain ⟨o, es, ep, ho, hd, r⟩ := hm
   refine ⟨m, o, es, ep, x2.keep L o ho ?_ hL3 (R1.notOwn ho (fun _ => ob_no hd rfl)) (R1.notEx ho (.inl fun _ => ob_no hd rfl)), hd, r⟩
   exact R1.notMu ho (.inr fun _ _ => ob_no hd rfl)
  obtain ⟨m', hm'⟩ := hLm
  refine ⟨m', hm', fun h' hs => ?_⟩
  have S := R2.skip ⟨m', hm'⟩ hL1 hL3 hs
  have X := x1.trans R1 x2
  exact k .next .next _ as1 { s2 with heap := h' } hΨ S.1 rfl ⟨fun a o e n1 n2 n3 n4 => (hs.2 a (by rintro rfl; rw [hL2] at e; cases e)).trans (X.keep a o e n1 n2 n3 n4), X.pre, X.fresh⟩ ⟨m2.os.trans m1.os, fun z => m2.gens (m1.gens z)⟩
end
end
section
section
variable {Γ : Gl prog w} {C : Cx} {st : St} {Φ : D → St → Prop}
noncomputable def intsD : List D → Option (List Int)
 | [] => some []
 | .int s :: r => (intsD r).map (s :: ·)
 | _ :: _ => none
noncomputable def strssD (mu : List (List D)) : List D → Option (List (List (List Nat)))
 | [] => some []
 | d :: r => match (itemsD mu d).bind strsD with
  | some ls => (strssD mu r).map (ls :: ·)
  | none => none
noncomputable def pStrs (ls : List (List Nat)) : List PyData := ls.map fun l => .str (S l)
noncomputable def pInts (ls : List Int) : List PyData := ls.map .int
theorem reads_strs {h X as} : ∀ {ds : List D} {vs : List Value} {ls : List (List Nat)}, RpL h X as ds vs → strsD ds = some ls → ReadsAll h vs (pStrs ls) []
 | [], [], ls, _, e => by simp only [strsD, Option.some.injEq] at e; subst e; exact .nil
 | d :: ds, v :: vs, ls, r, e => by
  simp only [RpL] at r
  cases d <;> first | exact no_some e | simp only [strsD] at e
  case str s =>
   cases e' : strsD ds with
   | none => rw [e'] at e; cases e
   | some l0 =>
    rw [e'] at e; simp only [Option.map_some, Option.some.injEq] at e; subst e
    obtain ⟨r1, r2⟩ := r
    obtain ⟨⟨t, rfl⟩, b⟩ := r1
    exact .cons (as := []) (bs := []) (.str _ _) (reads_strs r2 e')
 | [], _ :: _, _, r, _ => by simp [RpL] at r
 | _ :: _, [], _, r, _ => by simp [RpL] at r
theorem reads_ints {h X as} : ∀ {ds : List D} {vs : List Value} {ls : List Int}, RpL h X as ds vs → intsD ds = some ls → ReadsAll h vs (pInts ls) []
 | [], [], ls, _, e => by simp only [intsD, Option.some.injEq] at e; subst e; exact .nil
 | d :: ds, v :: vs, ls, r, e => by
  simp only [RpL] at r
  cases d <;> first | exact no_some e | simp only [intsD] at e
  case int s =>
   cases e' : intsD ds with
   | none => rw [e'] at e; cases e
   | some l0 =>
    rw [e'] at e; simp only [Option.map_some, Option.some.injEq] at e; subst e
    obtain ⟨r1, r2⟩ := r
    obtain ⟨t, rfl⟩ := r1
    exact .cons (as := []) (bs := []) (.int _ _) (reads_ints r2 e')
 | [], _ :: _, _, r, _ => by simp [RpL] at r
 | _ :: _, [], _, r, _ => by simp [RpL] at r
theorem Rel.reads_strss {h as} (R : Rel Γ C h as st) : ∀ {ds : List D} {vs : List Value} {ls : List (List (List Nat))}, RpL h C.X as ds vs → strssD st.mu ds = some ls → ∃ bs, ReadsAll h vs (ls.map fun l => .list (pStrs l)) bs
 | [], [], ls, _, e => by simp only [strssD, Option.some.injEq] at e; subst e; exact ⟨[], .nil⟩
 | d :: ds, v :: vs, ls, r, e => by
  simp only [RpL] at r
  simp only [strssD] at e
  cases e1 : (itemsD st.mu d).bind strsD with
  | none => rw [e1] at e; cases e
  | some l1 =>
   rw [e1] at e
   cases e2 : strssD st.mu ds with
   | none => rw [e2] at e; cases e
   | some l2 =>
    rw [e2] at e; simp only [Option.map_some, Option.some.injEq] at e; subst e
    cases e3 : itemsD st.mu d with
    | none => rw [e3] at e1; cases e1
    | some l =>
     rw [e3] at e1
     obtain ⟨a, us, rfl, ⟨o, ho, hc, n, hd⟩, bl, ql⟩ := R.items r.1 e3
     obtain ⟨bs, hb⟩ := R.reads_strss r.2 e2
     exact ⟨_, .cons (.list ho hc hd (reads_strs ql e1)) hb⟩
 | [], _ :: _, _, r, _ => by simp [RpL] at r
 | _ :: _, [], _, r, _ => by simp [RpL] at r
noncomputable def low (l : List Nat) : Bool := l.all fun c => decide (c < 256)
theorem low_ok {l : List Nat} (h : low l = true) : PyData.strOk (S l) = true := by
 unfold PyData.strOk
 have e : (S l).cps.all (· < 0x110000) = l.all (· < 0x110000) := by simp [S]
 rw [e, List.all_eq_true]
 intro c hc
 have := List.all_eq_true.mp h c hc
 simp only [decide_eq_true_eq] at this ⊢
 lia
noncomputable def lows (ls : List (List Nat)) : Bool := ls.all low
theorem lay_strs : ∀ ls, lows ls = true → PyData.canLayAll0 (pStrs ls) = true
 | [], _ => rfl
 | x :: r, h => by
  simp only [lows, List.all_cons, Bool.and_eq_true] at h
  simp only [pStrs, List.map_cons, PyData.canLayAll0, PyData.canLay0, low_ok h.1, Bool.true_and]; exact lay_strs r h.2
theorem lay_ints : ∀ ls, PyData.canLayAll0 (pInts ls) = true
 | [] => rfl
 | _ :: r => by simp only [pInts, List.map_cons, PyData.canLayAll0, PyData.canLay0, Bool.true_and]; exact lay_ints r
theorem lay_strss : ∀ ls : List (List (List Nat)), ls.all lows = true → PyData.canLayAll0 (ls.map fun l => .list (pStrs l)) = true
 | [], _ => rfl
 | l :: r, h => by
  simp only [List.all_cons, Bool.and_eq_true] at h
  simp only [List.map_cons, PyData.canLayAll0, PyData.canLay0, lay_strs l h.1, Bool.true_and]; exact lay_strss r h.2
theorem dep_strs : ∀ ls, PyData.depthAll (pStrs ls) ≤ 1
 | [] => by simp [pStrs, PyData.depthAll]
 | _ :: r => by
  have := dep_strs r
  simp only [pStrs, List.map_cons, PyData.depthAll, PyData.depth] at this ⊢
  lia
theorem dep_ints : ∀ ls, PyData.depthAll (pInts ls) ≤ 1
 | [] => by simp [pInts, PyData.depthAll]
 | _ :: r => by
  have := dep_ints r
  simp only [pInts, List.map_cons, PyData.depthAll, PyData.depth] at this ⊢
  lia
theorem dep_strss : ∀ ls : List (List (List Nat)), PyData.depthAll (ls.map fun l => .list (pStrs l)) ≤ 2
 | [] => by simp [PyData.depthAll]
 | l :: r => by
  have := dep_strss r
  have h2 := dep_strs l
  simp only [List.map_cons, PyData.depthAll, PyData.depth] at this ⊢
  lia
theorem eqv_strs : ∀ xs ys, PyData.eqvAll (pStrs xs) (pStrs ys) = decide (xs = ys)
 | [], [] => rfl
 | x :: xs, y :: ys => by
  have := eqv_strs xs ys
  simp only [pStrs, List.map_cons, PyData.eqvAll, PyData.eqv, S_beq] at this ⊢
  rw [this]
  by_cases h1 : x = y <;> by_cases h2 : xs = ys <;> simp [h1, h2]
 | [], _ :: _ => by simp [pStrs, PyData.eqvAll]
 | _ :: _, [] => by simp [pStrs, PyData.eqvAll]
theorem eqv_strss : ∀ xs ys : List (List (List Nat)), PyData.eqvAll (xs.map fun l => .list (pStrs l)) (ys.map fun l => .list (pStrs l)) = decide (xs = ys)
 | [], [] => rfl
 | x :: xs, y :: ys => by
  have := eqv_strss xs ys
  simp only [List.map_cons, PyData.eqvAll, PyData.eqv, eqv_strs] at this ⊢
  rw [this]
  by_cases h1 : x = y <;> by_cases h2 : xs = ys <;> simp [h1, h2]
 | [], _ :: _ => by simp [PyData.eqvAll]
 | _ :: _, [] => by simp [PyData.eqvAll]
theorem units_ok (R : CxOk Γ C) : C.A.units + 100 < cLine := by
 have := R.unit
 have e : cLine = 9900 := by decide
 lia
theorem cmp_ne_strs {d1 d2 : D} {l1 l2 : List D} {xs ys : List (List Nat)} (i1 : itemsD st.mu d1 = some l1) (i2 : itemsD st.mu d2 = some l2) (e1 : strsD l1 = some xs) (e2 : strsD l2 = some ys) (w1 : lows xs = true) (w2 : lows ys = true) (h : Φ (.bool (!decide (xs = ys))) st) : AV2 Γ C (compareOp .NotEq) d1 d2 st Φ := by
 refine AV2.pure h fun s as v1 v2 Q E R r1 r2 q => ?_
 obtain ⟨a, us, rfl, ⟨o, ho, hc, n, hd⟩, bl, ql⟩ := R.items r1 i1
 obtain ⟨a', us', rfl, ⟨o', ho', hc', n', hd'⟩, bl', ql'⟩ := R.items r2 i2
 refine PySem.SeqAt.compareNe_reads (.list ho hc hd (reads_strs ql e1)) (.list ho' hc' hd' (reads_strs ql' e2)) (by simp only [PyData.canLay0]; exact lay_strs _ w1) (by simp only [PyData.canLay0]; exact lay_strs _ w2) ?_ ?_
 ·have := units_ok R.c
  have h2 := dep_strs xs
  simp only [PyData.depth]
  lia
 ·simp only [PyData.eqv, eqv_strs]; exact q _ s.toks rfl
theorem cmp_ne_strss {d1 d2 : D} {l1 l2 : List D} {xs ys : List (List (List Nat))} (i1 : itemsD st.mu d1 = some l1) (i2 : itemsD st.mu d2 = some l2) (e1 : strssD st.mu l1 = some xs) (e2 : strssD st.mu l2 = some ys) (w1 : xs.all lows = true) (w2 : ys.all lows = true) (h : Φ (.bool (!decide (xs = ys))) st) : AV2 Γ C (compareOp .NotEq) d1 d2 st Φ := by
 refine AV2.pure h fun s as v1 v2 Q E R r1 r2 q => ?_
 obtain ⟨a, us, rfl, ⟨o, ho, hc, n, hd⟩, bl, ql⟩ := R.items r1 i1
 obtain ⟨a', us', rfl, ⟨o', ho', hc', n', hd'⟩, bl', ql'⟩ := R.items r2 i2
 obtain ⟨b1, r1'⟩ := R.reads_strss ql e1
 obtain ⟨b2, r2'⟩ := R.reads_strss ql' e2
 refine PySem.SeqAt.compareNe_reads (.list ho hc hd r1') (.list ho' hc' hd' r2') (by simp only [PyData.canLay0]; exact lay_strss _ w1) (by simp only [PyData.canLay0]; exact lay_strss _ w2) ?_ ?_
 ·have := units_ok R.c
  have h2 := dep_strss xs
  simp only [PyData.depth]
  lia
 ·simp only [PyData.eqv, eqv_strss]; exact q _ s.toks rfl
theorem any_ints (k : Int) : ∀ xs, ((pInts xs).any fun y => PyData.eqv y (.int k)) = decide (k ∈ xs)
 | [] => rfl
 | x :: xs => by
  have := any_ints k xs
  simp only [pInts, List.map_cons, List.any_cons, PyData.eqv] at this ⊢
  rw [this]
  by_cases h1 : x = k
  ·subst h1; simp
  ·have h1' : ¬ k = x := fun h => h1 h.symm
   by_cases h2 : k ∈ xs <;> simp [h1, h1', h2]
theorem any_strs (k : List Nat) : ∀ xs, ((pStrs xs).any fun y => PyData.eqv y (.str (S k))) = decide (k ∈ xs)
 | [] => rfl
 | x :: xs => by
  have := any_strs k xs
  simp only [pStrs, List.map_cons, List.any_cons, PyData.eqv, S_beq] at this ⊢
  rw [this]
  by_cases h1 : x = k
  ·subst h1; simp
  ·have h1' : ¬ k = x := fun h => h1 h.symm
   by_cases h2 : k ∈ xs <;> simp [h1, h1', h2]
theorem cmp_in_ints {d : D} {l : List D} {k : Int} {xs : List Int} (i1 : itemsD st.mu d = some l) (e : intsD l = some xs) (h : Φ (.bool (decide (k ∈ xs))) st) : AV2 Γ C (compareOp .In) (.int k) d st Φ := by
 refine AV2.pure h fun s as v1 v2 Q E R r1 r2 q => ?_
 obtain ⟨t, rfl⟩ := r1
 obtain ⟨a, us, rfl, ⟨o, ho, hc, n, hd⟩, bl, ql⟩ := R.items r2 i1
 refine PySem.SeqAt.in_list_reads (.list ho hc hd (reads_ints ql e)) (.int k t) (lay_ints _) (by rfl) ?_ ?_
 ·have := units_ok R.c
  have h2 := dep_ints xs
  lia
 ·rw [any_ints]; exact q _ s.toks rfl
theorem cmp_in_strs {d : D} {l : List D} {k : List Nat} {xs : List (List Nat)} (i1 : itemsD st.mu d = some l) (e : strsD l = some xs) (w1 : lows xs = true) (w2 : low k = true) (h : Φ (.bool (decide (k ∈ xs))) st) : AV2 Γ C (compareOp .In) (.str k) d st Φ := by
 refine AV2.pure h fun s as v1 v2 Q E R r1 r2 q => ?_
 obtain ⟨⟨t, rfl⟩, _⟩ := r1
 obtain ⟨a, us, rfl, ⟨o, ho, hc, n, hd⟩, bl, ql⟩ := R.items r2 i1
 refine PySem.SeqAt.in_list_reads (.list ho hc hd (reads_strs ql e)) (.str (S k) t) (lay_strs _ w1) (by simp only [PyData.canLay0]; exact low_ok w2) ?_ ?_
 ·have := units_ok R.c
  have h2 := dep_strs xs
  lia
 ·rw [any_strs]; exact q _ s.toks rfl
theorem cmp_in_tup {l : List D} {k : List Nat} {xs : List (List Nat)} (e : strsD l = some xs) (w1 : lows xs = true) (w2 : low k = true) (h : Φ (.bool (decide (k ∈ xs))) st) : AV2 Γ C (compareOp .In) (.str k) (.tup l) st Φ := by
 refine AV2.pure h fun s as v1 v2 Q E R r1 r2 q => ?_
 obtain ⟨⟨t, rfl⟩, _⟩ := r1
 obtain ⟨a, us, rfl, ⟨o, ho, hc, n, hd⟩, bl, ql⟩ := r2
 refine PySem.SeqAt.in_tuple_reads (.tuple ho hc hd (reads_strs ql e)) (.str (S k) t) (lay_strs _ w1) (by simp only [PyData.canLay0]; exact low_ok w2) ?_ ?_
 ·have := units_ok R.c
  have h2 := dep_strs xs
  lia
 ·rw [any_strs]; exact q _ s.toks rfl
theorem cmp_isnot_same {a : Addr} (h : Φ (.bool false) st) : AV2 Γ C (compareOp .IsNot) (.val (.ref a)) (.val (.ref a)) st Φ := by
 refine AV2.pure h fun s as v1 v2 Q E R r1 r2 q => ?_
 cases r1; cases r2
 exact wpAny_isNot_ref_self (q _ s.toks rfl)
theorem cmp_isnot_str {a : Addr} {l : List Nat} (h : Φ (.bool true) st) : AV2 Γ C (compareOp .IsNot) (.str l) (.val (.ref a)) st Φ := by
 refine AV2.pure h fun s as v1 v2 Q E R r1 r2 q => ?_
 obtain ⟨⟨t, rfl⟩, _⟩ := r1; subst r2
 exact wpAny_isNot_other (by rfl) (by intro x; cases x) (q _ s.toks rfl)
theorem cmp_is_same {a : Addr} (h : Φ (.bool true) st) : AV2 Γ C (compareOp .Is) (.val (.ref a)) (.val (.ref a)) st Φ := by
 refine AV2.pure h fun s as v1 v2 Q E R r1 r2 q => ?_
 cases r1; cases r2
 exact wpAny_is_ref_self (q _ s.toks rfl)
end
end
section
section
variable {Γ : Gl prog w} {C : Cx} {st : St} {Φ : D → St → Prop}
theorem op_add_list {d1 d2 : D} {l1 l2 : List D} (e1 : itemsD st.mu d1 = some l1) (e2 : itemsD st.mu d2 = some l2) (hb : (l1 ++ l2).length ≤ 1048576) (h : Φ (.lst (l1 ++ l2)) st) : AV2 Γ C (binaryOp .Add) d1 d2 st Φ := by
 intro s as v Q E R r q
 obtain ⟨a, vs, ea, ⟨n, hl⟩, b1, q1⟩ := R.itemsP r.1 e1
 obtain ⟨a', vs', ea', ⟨n', hl'⟩, b2, q2⟩ := R.itemsP r.2 e2
 obtain ⟨v1, v2⟩ := v
 dsimp only at ea ea' ⊢
 subst ea ea'
 have N := R.newLst (ds := l1 ++ l2) (vs := (vs ++ vs').toList) hb (by rw [Array.toList_append]; exact q1.append q2)
 rw [Array.toArray_toList] at N
 refine PySem.P.add_list hl hl' ?_ (by rw [q1.size, q2.size, sl_is]; lia)
 exact q _ (.lst (l1 ++ l2)) st as { s with heap := s.heap.push _ } h (R.push _).1 N (R.push _).2 .of
theorem inpl_list {a b : Value} {A : Around} {s : Shared} {Q : Value → Shared → Prop} {E : Value → Shared → Prop} (ha : s.TypeIs a "list") (hb : s.TypeIs b "list") (hc : wpAny (model prog w) A (call (.builtin "list.__iadd__") [a, b]) Q E s) : wpAny (model prog w) A (inplaceOp .Add a b) Q E s := by
 unfold inplaceOp
 refine wpAny_holding ?_
 have hl := PySem.F.slot_list_iadd.lookup
 have hfi : fillsInplaceSlot (.type "list") "add" (Operator.Add == .Add) = pure false := by
  unfold fillsInplaceSlot
  show (typeLookup (.type "list") (dunderI "add") >>= fun fi => pure (fi.isSome && !isSeqSlot fi)) = pure false
  rw [hl]; kernel_rfl
 have hsi : seqSlot? (.type "list") (dunderI "add") = pure (some (.builtin "list.__iadd__")) := PySem.seqSlot_of hl (by decide +kernel)
 refine wpAny_bind (wpAny_typeOf ha (wpAny_bind (wpAny_of_eq hfi ?_)))
 show wpAny _ A (if false = true then _ else _) Q E s
 rw [if_neg Bool.false_ne_true]
 refine wpAny_bind (wpAny_binaryOp1_none (nm := "add") ha hb noFill_list_add ?_)
 refine wpAny_bind (wpAny_of_eq hsi ?_)
 exact wpAny_bind (wpAny_rule hc)
theorem op_iadd_list {i : Nat} {d2 : D} {l1 l2 : List D} (e1 : st.mu[i]? = some l1) (e2 : itemsD st.mu d2 = some l2) (hb : (l1 ++ l2).length ≤ 1048576) (h : Φ (.mut i) { st with mu := st.mu.set i (l1 ++ l2) }) : AV2 Γ C (inplaceOp .Add) (.mut i) d2 st Φ := by
 intro s as v Q E R r q
 obtain ⟨v1, v2⟩ := v
 obtain ⟨r1, r2⟩ := r
 obtain ⟨a, ha, rfl⟩ := r1
 obtain ⟨a0, vs, ha0, ⟨n, hl⟩, b1, q1⟩ := MuIs.get R.mus e1
 rw [ha] at ha0; cases ha0
 obtain ⟨a', vs', ea', ⟨n', hl'⟩, b2, q2⟩ := R.itemsP r2 e2
 dsimp only at ea' ⊢
 subst ea'
 have hz1 : vs.size ≤ 1048576 := by rw [q1.size]; exact o_le (by assumption) (by decide)
 have hz2 : vs'.size ≤ 1048576 := by rw [q2.size]; exact o_le (by assumption) (by decide)
 have hnt : ¬(!vs.isEmpty && Builtin.List.listTooLong (vs.size + vs'.size)) = true := by
  have : Builtin.List.listTooLong (vs.size + vs'.size) = false := by
   unfold Builtin.List.listTooLong
   rw [sl_is]; simp; lia
  rw [this, Bool.and_false]; nofun
 refine inpl_list ⟨_, hl, rfl⟩ ⟨_, hl', rfl⟩ (call_meets PySem.F.slot_list_iadd ⟨_, hl, rfl⟩ PySem.F.entry_list_iadd (PySem.F.args_list_iadd_2 _ _) (AutoSeq1.list___iadd___list_list_0 a vs n a' vs' n' hnt (by rw [sl_is]; exact o_le (by assumption) (by decide)) (by rw [sl_is]; lia)) ⟨hl, hl', ?_⟩)
 have N := R.setMu (h' := s.heap.update a (Obj.mapSeq fun x => x ++ vs')) (ds := l1 ++ l2) (vs := vs ++ vs') ha (Heap.SameBut.update ..) ⟨_, IsL.update (n := n) hl _⟩ hb (by rw [Array.toList_append]; exact q1.append q2)
 exact q _ (.mut i) _ as { s with heap := s.heap.update a _, toks := s.toks } h N.1 (by exact ⟨a, ha, rfl⟩) N.2 ⟨rfl, id⟩
/-! minus, or -/
theorem AE_Neg {x pos} (h : AE Γ C x st fun d st1 => ∃ i, d = .int i ∧ Φ (.int (-i)) st1) : AE Γ C (.UnaryOp .USub x pos) st Φ := by
 intro s as Q E R k
 refine wpAny_UnaryOp (h s as _ E R ?_)
 rintro v d st1 as1 s1 ⟨i, rfl, f⟩ R1 r1 x1 m1
 obtain ⟨t, rfl⟩ := r1
 exact PyProof.Rows.neg_int (k _ (.int (-i)) st1 as1 { s1 with toks := _ } f R1 ⟨_, rfl⟩ x1 (m1.trans .of))
theorem AE_Or {x y pos} (h : AE Γ C x st fun d st1 => ∃ b, truthyD st1.mu d = some b ∧ (b = true → Φ d st1) ∧ (b = false → AE Γ C y st1 Φ)) : AE Γ C (.BoolOp .Or [x, y] pos) st Φ := by
 intro s as Q E R k
 refine wpAny_Or2 (h s as _ E R ?_)
 rintro v d st1 as1 s1 ⟨b, e, f1, f2⟩ R1 r1 x1 m1
 refine truthy_is R1 r1 e fun t => ?_
 cases b with
 | true => exact k v d st1 as1 { s1 with toks := t } (f1 rfl) R1 r1 x1 (m1.trans .of)
 | false => exact f2 rfl { s1 with toks := t } as1 _ E R1 fun v2 d2 st2 as2 s2 f R2 r2 x2 m2 => k v2 d2 st2 as2 s2 f R2 r2 (x1.trans R1 x2) (m1.trans ⟨m2.os, m2.gens⟩)
/-! a list's place is written on, or struck -/
theorem IsL_set {h : Heap} {a : Addr} {items : Array Value} {n : Nat} (e : h.get? a = some { cls := .type "list", data := .seq items n }) (f : Array Value → Array Value) : ∃ n', (h.update a (Obj.mapSeq f)).get? a = some { cls := .type "list", data := .seq (f items) n' } := ⟨_, IsL.update (n := n) e f⟩
theorem put_plain0 {l : Addr} {items : Array Value} {k : Int} {t : Tok} {v : Value} {A : Around} {s : Shared} {Q : Unit → Shared → Prop} {E : Value → Shared → Prop} (hl : s.heap.PlainList l items) (h0 : 0 ≤ k) (hfit : k < 2 ^ 63) (hn : k < items.size)
  (hQ : ∀ h', h'.PlainList l (items.setIfInBounds k.toNat v) → Heap.SameBut l s.heap h' → Q () { s with heap := h' }) : wpAny (model prog w) A (setItem (.ref l) (.int k t) v) Q E s := by
 have hl' := hl
 obtain ⟨n, ho⟩ := hl'
 have hT := hl.isList.typeIs (s := s)
 unfold setItem
 with_reducible refine wpAny_holding ?_
 refine wpAny_bind (wpAny_sequenceKey hT (by decide) ?_)
 refine wpAny_bind (wpAny_callSpecial?_slot (name := Str.ofString "__setitem__") hT slot_list_setitem (wpAny_call_entry slot_list_setitem hT entry_list_setitem ?_ (args_list_setitem _ _ _)))
 show wpAny _ _ (Builtin.List.listSubscript? (.int k t) >>= _) _ _ s
 refine wpAny_bind (wpAny_listSubscript_int (fitsIndex_of h0 hfit) ?_)
 clear hfit
 obtain ⟨j, rfl⟩ := Int.eq_ofNat_of_zero_le h0
 have hj : j < items.size := by exact o_cl (by assumption)
 have hx : items[j]? = some items[j] := Array.getElem?_eq_getElem hj
 show wpAny _ _ ((seqItemAt l j >>= fun r => pure (r.map (j, ·))) >>= _) _ _ s
 refine wpAny_bind (wpAny_bind (wpAny_seqItemAt ho rfl (wpAny_pure ?_)))
 rw [hx]
 show wpAny _ _ (setSeqItemAt l j v >>= _) _ _ s
 refine wpAny_bind (wpAny_setSeqItemAt ho rfl ?_)
 have fin := hQ _ ⟨_, IsL.update (n := n) ho (·.setIfInBounds j v)⟩ (Heap.SameBut.update ..)
 first
  | exact wpAny_bind (wpAny_pure (wpAny_pure ⟨.none, rfl, wpAny_pure fin⟩))
  | exact wpAny_pure ⟨.none, rfl, wpAny_pure fin⟩
theorem put_plain {l : Addr} {items : Array Value} {j : Nat} {t : Tok} {v : Value} {A : Around} {s : Shared} {Q : Unit → Shared → Prop} {E : Value → Shared → Prop} (hl : s.heap.PlainList l items) (hj : j < items.size) (hfit : items.size ≤ 1048576)
  (hQ : ∀ h', h'.PlainList l (items.setIfInBounds j v) → Heap.SameBut l s.heap h' → Q () { s with heap := h' }) : wpAny (model prog w) A (setItem (.ref l) (.int j t) v) Q E s :=
 put_plain0 hl (by exact o_z _) (by lia) (by exact o_lc (by assumption)) hQ
theorem RpL.set {h X as} : ∀ {ds : List D} {vs : List Value} {j : Nat} {d : D} {v : Value}, RpL h X as ds vs → Rp h X as d v → RpL h X as (ds.set j d) (vs.set j v)
 | [], [], _, _, _, _, _ => by simp [RpL]
 | _ :: _, _ :: _, 0, _, _, r, rv => by simp only [RpL] at r; simp only [List.set_cons_zero, RpL]; exact ⟨rv, r.2⟩
 | _ :: _, _ :: _, j + 1, _, _, r, rv => by simp only [RpL] at r; simp only [List.set_cons_succ, RpL]; exact ⟨r.1, RpL.set r.2 rv⟩
 | [], _ :: _, _, _, _, r, _ => by simp [RpL] at r
 | _ :: _, [], _, _, _, r, _ => by simp [RpL] at r
theorem RpL.erase {h X as} : ∀ {ds : List D} {vs : List Value} (j : Nat), RpL h X as ds vs → RpL h X as (ds.eraseIdx j) (vs.eraseIdx j)
 | [], [], _, _ => by simp [RpL]
 | _ :: _, _ :: _, 0, r => by simp only [RpL] at r; simpa using r.2
 | _ :: _, _ :: _, j + 1, r => by simp only [RpL] at r; simp only [List.eraseIdx_cons_succ, RpL]; exact ⟨r.1, RpL.erase j r.2⟩
 | [], _ :: _, _, r => by simp [RpL] at r
 | _ :: _, [], _, r => by simp [RpL] at r
theorem AS_Put {o i p e pos} {Φ : Fl → St → Prop} (hc : isComp e = false) (h : AE Γ C e st fun d st1 => AE Γ C o st1 fun od st2 => AE Γ C i st2 fun kd st3 => ∃ n l, ∃ k : Nat, od = .mut n ∧ kd = .int k ∧ st3.mu[n]? = some l ∧ k < l.length ∧ Φ .next { st3 with mu := st3.mu.set n (l.set k d) }) :
  AS Γ C (.Assign [.Subscript o i p] e pos) st Φ := by
 intro s as Q E R kk
 refine wpAny_Assign_Subscript (h s as _ E R ?_) (swaps_no hc _ _ _)
 intro v d st1 as1 s1 h1 R1 r1 x1 m1
 refine h1 s1 as1 _ E R1 ?_
 intro v2 d2 st2 as2 s2 h2 R2 r2 x2 m2
 refine h2 s2 as2 _ E R2 ?_
 rintro v3 d3 st3 as3 s3 ⟨n, l, k, rfl, rfl, e1, hk, f⟩ R3 r3 x3 m3
 have r2' := r2.ext R2 x3
 obtain ⟨a, ha, rfl⟩ := r2'
 obtain ⟨t, rfl⟩ := r3
 obtain ⟨a', vs, ha', hl, bl, ql⟩ := MuIs.get R3.mus e1
 rw [ha] at ha'; cases ha'
 have rd := (r1.ext R1 x2).ext R2 x3
 refine put_plain hl (by rw [ql.size]; exact hk) (by rw [ql.size]; exact bl) fun h' hl' hs' => ?_
 have N := R3.setMu (ds := l.set k d) (vs := vs.setIfInBounds k v) ha hs' hl' (by rw [List.length_set]; exact bl) (by rw [Array.toList_setIfInBounds]; exact ql.set rd)
 exact kk .next .next _ as3 { s3 with heap := h' } f N.1 rfl (((x1.trans R1 x2).trans R2 x3).trans R3 N.2) (m1.trans (m2.trans (m3.trans ⟨rfl, id⟩)))
theorem AS_Del {o i p pos} {Φ : Fl → St → Prop} (h : AE Γ C o st fun od st2 => AE Γ C i st2 fun kd st3 => ∃ n l, ∃ k : Nat, od = .mut n ∧ kd = .int k ∧ st3.mu[n]? = some l ∧ k < l.length ∧ Φ .next { st3 with mu := st3.mu.set n (l.eraseIdx k) }) :
  AS Γ C (.Delete [.Subscript o i p] pos) st Φ := by
 intro s as Q E R kk
 refine wpAny_Delete (wpAny_deleteEach_cons ?_)
 refine wpAny_delete_Subscript (h s as _ E R ?_)
 intro v2 d2 st2 as2 s2 h2 R2 r2 x2 m2
 refine h2 s2 as2 _ E R2 ?_
 rintro v3 d3 st3 as3 s3 ⟨n, l, k, rfl, rfl, e1, hk, f⟩ R3 r3 x3 m3
 have r2' := r2.ext R2 x3
 obtain ⟨a, ha, rfl⟩ := r2'
 obtain ⟨t, rfl⟩ := r3
 obtain ⟨a', vs, ha', hl, bl, ql⟩ := MuIs.get R3.mus e1
 rw [ha] at ha'; cases ha'
 have hsq : seqIndex? (k : Int) vs.size = some k := seqIndex_nat (ql.size.symm ▸ hk)
 refine wpAny_delItem_plain (k := k) hl (by unfold Builtin.List.listFitsIndex; simp; lia) hsq (fun h' hl' hs' => wpAny_deleteEach_nil ?_) (by rw [ql.size, sl_is]; exact o_le (by assumption) (by decide))
 have N := R3.setMu (ds := l.eraseIdx k) (vs := vs.eraseIdxIfInBounds k) ha hs' hl' (by rw [List.length_eraseIdx]; split <;> lia) (by rw [Array.toList_eraseIdxIfInBounds]; exact ql.erase k)
 exact kk .next .next _ as3 { s3 with heap := h' } f N.1 rfl ((x2.trans R2 x3).trans R3 N.2) (m2.trans (m3.trans ⟨rfl, id⟩))
end
end
section
theorem ap_get : typeLookup (.type "method_descriptor") "__get__" = pure (some (.builtin "method_descriptor.__get__")) := by rw [typeLookup_type, builtinLookup_eq_fast]; kernel_rfl
theorem ap_look : typeLookup (.type "list") "append" = pure (some (.builtin "list.append")) := PySem.F.slot_list_append.lookup
theorem ap_getOf : Builtin.ObjectAttr.getOf (some (.builtin "list.append")) = pure (some (.builtin "method_descriptor.__get__")) := by
 show specialOf (.builtin "list.append") "__get__" = _
 unfold specialOf
 rw [PySem.F.type_list_append, pure_bind, ap_get]
theorem ap_set : typeLookup (.type "method_descriptor") "__set__" = pure none := by rw [typeLookup_type, builtinLookup_eq_fast]; kernel_rfl
theorem ap_del : typeLookup (.type "method_descriptor") "__delete__" = pure none := by rw [typeLookup_type, builtinLookup_eq_fast]; kernel_rfl
theorem ap_data : Builtin.ObjectAttr.dataDescriptor? (some (.builtin "list.append")) (some (.builtin "method_descriptor.__get__")) = pure none := by
 unfold Builtin.ObjectAttr.dataDescriptor?
 have e : Builtin.ObjectAttr.takesStores (.builtin "list.append") = pure false := by
  unfold Builtin.ObjectAttr.takesStores specialOf
  rw [PySem.F.type_list_append, pure_bind, ap_set, pure_bind]
  show (do let y ← (do let t ← pure (Value.type "method_descriptor"); typeLookup t "__delete__"); pure y.isSome) = _
  rw [pure_bind, ap_del]; rfl
 simp only [e]; rfl
theorem ap_slot : Slot "method_descriptor" "__get__" "method_descriptor.__get__" :=
 .of (owner := "method_descriptor") (n := "__get__") (by rw [typeLookup_type, builtinLookup_eq_fast]; kernel_rfl) (by decide +kernel) (by decide +kernel) (by decide +kernel)
  (by first | exact .inl (by decide +kernel) | exact .inr (by decide +kernel)) (by rw [isSubtype_type]; kernel_rfl)
theorem ap_entry : entryFor table "method_descriptor.__get__" = some Builtin.«method_descriptor.__get__» := entryFor_of_tree (by kernel_rfl)
theorem ap_args (a b c : Value) : argsOk "method_descriptor.__get__" ⟨[a, b, c], []⟩ := by unfold argsOk; kernel_rfl
theorem ap_meets (a : Addr) (xs : Array Value) (k : Nat) :
  Meets (Builtin.«method_descriptor.__get__» ⟨[.builtin "list.append", .ref a, .type "list"], []⟩) (fun A R s => s.heap.get? a = some { cls := .type "list", data := .seq xs k } ∧ R (.ok (.ret (.ref s.heap.objs.size))) { s with heap := s.heap.push (appendOf a) }) :=
 Meets.of_wp fun prog w A R s hs => by
  obtain ⟨hp, g, d, tk, os⟩ := s
  obtain ⟨hx, hs⟩ := hs
  have hT : (⟨hp, g, d, tk, os⟩ : Shared).TypeIs (.ref a) "list" := ⟨_, hx, rfl⟩
  have f6 := PySem.F.sub_list_list
  have f7 : (".".intercalate ("list.append".cutAt '.').dropLast) = "list" := by decide +kernel
  unfold Builtin.«method_descriptor.__get__»
  repeat (any_goals (first | assumption | wp_step))
  simp only [f7]
  repeat (any_goals (first | assumption | wp_step))
  all_goals exact ⟨_, rfl, hs⟩
theorem ap_meets2 (a : Addr) (xs : Array Value) (k : Nat) (u : Tok) :
  Meets (Builtin.«object.__getattribute__» ⟨[.ref a, .str "append" u], []⟩) (fun A R s => s.heap.get? a = some { cls := .type "list", data := .seq xs k } ∧ R (.ok (.ret (.ref s.heap.objs.size))) { s with heap := s.heap.push (appendOf a) }) :=
 Meets.of_wp fun prog w A R s hs => by
  obtain ⟨hp, g, d, tk, os⟩ := s
  obtain ⟨hx, hs⟩ := hs
  have hT : (⟨hp, g, d, tk, os⟩ : Shared).TypeIs (.ref a) "list" := ⟨_, hx, rfl⟩
  have f1 := ap_look
  have f2 := ap_get
  have f3 : Builtin.ObjectAttr.getOf (some (.builtin "list.append")) = pure (some (.builtin "method_descriptor.__get__")) := ap_getOf
  have f4 : Builtin.ObjectAttr.dataDescriptor? (some (.builtin "list.append")) (some (.builtin "method_descriptor.__get__")) = pure none := ap_data
  have f5 : typeOf (.builtin "list.append") = pure (.type "method_descriptor") := PySem.F.type_list_append
  have hTd : ∀ s : Shared, s.TypeIs (.builtin "list.append") "method_descriptor" := fun s => by
   first | exact f5 | exact ⟨_, f5⟩ | (unfold Shared.TypeIs; exact f5)
  unfold Builtin.«object.__getattribute__» Builtin.ObjectAttr.find
  repeat (any_goals (first | assumption | ((with_reducible show wpAny _ _ (call (Value.builtin "method_descriptor.__get__") _ _) _ _ _); refine call_meets ap_slot (hTd _) ap_entry (ap_args _ _ _) (ap_meets a xs k) ⟨hx, ?_⟩) | wp_step))
  all_goals exact wpAny_pure ⟨_, rfl, hs⟩
section
variable {prog : Program} {w : World} {A : Around} {E : Value → Shared → Prop} {s : Shared}
theorem getAttr_append {a : Addr} {xs : Array Value} {k : Nat} {Q : Value → Shared → Prop} (hx : s.heap.get? a = some { cls := .type "list", data := .seq xs k })
  (h : ∀ tk, Q (.ref s.heap.objs.size) { s with heap := s.heap.push (appendOf a), toks := tk }) : wpAny (model prog w) A (getAttr (.ref a) "append" true) Q E s := by
 obtain ⟨hp, g, d, tk, os⟩ := s
 have hT : ∀ tk', (⟨hp, g, d, tk', os⟩ : Shared).TypeIs (.ref a) "list" := fun _ => ⟨_, hx, rfl⟩
 have f3 := PySem.F.slot_list_getattribute.lookup
 have f4 := PySem.F.slot_list_getattribute.bind (.ref a)
 have f5 := am_list_getattr_none
 unfold getAttr getAttrBy
 repeat (any_goals (first | assumption | exact hT _ | ((with_reducible show wpAny _ _ (call (Value.builtin "list.__getattribute__") _ _) _ _ _); refine call_meets PySem.F.slot_list_getattribute (hT _) am_entry_list_getattribute (PySem.F.args_list_getattribute_2 _ _) (ap_meets2 a xs k _) ⟨hx, ?_⟩) | wp_step))
 all_goals exact wpAny_pure (h _)
set_option maxHeartbeats 2000000 in
theorem ap_check {M : Model} {a : Addr} {x : Value} {Q : Unit → Shared → Prop} {xs : Array Value} {n : Nat} (ho : s.heap.get? a = some { cls := .type "list", data := .seq xs n }) (h : Q () s) : wpAny M A (checkBoundCall "list.append" ⟨[.ref a, x], []⟩) Q E s := by
 have hT : s.TypeIs (.ref a) "list" := ⟨_, ho, rfl⟩
 have k : builtinKind "list.append" = some .method := by decide +kernel
 have f1 : isSubtype (.type "list") (.type "module") = pure false := by rw [isSubtype_type]; kernel_rfl
 have f2 : isSubtype (.type "list") (.type "type") = pure false := by rw [isSubtype_type]; kernel_rfl
 have v : Manifest.varargsMethods.contains "list.append" = false := by decide +kernel
 unfold checkBoundCall
 simp only [k]
 repeat (any_goals (first | assumption | wp_step))
theorem call_appendOf {q a : Addr} {xs : Array Value} {x : Value} {Q : Value → Shared → Prop} (hq : s.heap.get? q = some (appendOf a)) (hl : s.heap.PlainList a xs) (hsz : xs.size ≤ sizeLine)
  (hQ : ∀ h', h'.PlainList a (xs.push x) → Heap.SameBut a s.heap h' → Q .none { s with heap := h' }) : wpAny (model prog w) A (call (.ref q) [x] []) Q E s := by
 obtain ⟨n, ho⟩ := hl
 refine wpAny_call (codeAny_of_tree ?_)
 show wpAny _ A.in1 (callAny (.ref q) ⟨[x], []⟩) _ _ s
 unfold callAny
 refine wpAny_bind (wpAny_load hq ?_)
 show wpAny _ A.in1 (do checkBoundCall "list.append" ⟨[.ref a, x], []⟩; again (.builtin "list.append" ⟨[.ref a, x], []⟩)) _ _ s
 refine wpAny_bind (ap_check ho ?_)
 refine wpAny_pure ⟨Code.quiet_builtin _ (by decide +kernel), codeAny_builtin PySem.F.entry_list_append ?_⟩
 show wpAny _ _ (updateSeq a (·.push x) >>= fun _ => ret .none) _ _ s
 refine wpAny_bind (wpAny_updateSeq ho rfl (wpAny_pure ?_))
 exact hQ _ ⟨_, IsL.update (n := n) ho _⟩ (Heap.SameBut.update ..)
end
end
section
section
variable {Γ : Gl prog w} {C : Cx} {st : St} {Φ : D → St → Prop}
/-! a list's append as a value, and called by its own name -/
theorem AE_Append {o : Expr} {pos : Pos} (hb : baseOk o = true) (hn : (match o with | .Name _ _ => true | _ => false) = true) (h : AE Γ C o st fun d st1 => ∃ i, d = .mut i ∧ Φ (.meth i) st1) : AE Γ C (.Attribute o "append" pos) st Φ := by
 intro s as Q E R k
 show wpAny _ _ (do
  let ov ← attributeBase o "append" C.env (eval o C.env)
  standAt pos.atName
  let r ← holding [ov] (getAttr ov "append" true)
  letTemporaryGo o ov r
  pure r) Q E s
 rw [base_is hb]
 refine wpAny_bind (h s as _ E R ?_)
 rintro v d st1 as1 s1 ⟨i, rfl, f⟩ R1 r1 x1 m1
 obtain ⟨a, ha, rfl⟩ := r1
 have hlen := R1.mus.length
 have hi : i < st1.mu.length := by rw [← hlen]; exact (List.getElem?_eq_some_iff.mp ha).1
 obtain ⟨a', vs, ha', ⟨n, hl⟩, bl, ql⟩ := MuIs.get R1.mus (i := i) (ds := st1.mu[i]) (List.getElem?_eq_getElem hi)
 rw [ha] at ha'; cases ha'
 refine wpAny_bind (wpAny_standAt (wpAny_bind (wpAny_holding (getAttr_append hl fun tk => ?_))))
 have hlt : letTemporaryGo o (.ref a) (.ref s1.heap.objs.size) = pure () := by
  cases o <;> first | rfl | exact no_tf hn
 refine wpAny_bind (wpAny_of_eq hlt (wpAny_pure ?_))
 have N := R1.push (appendOf a)
 refine k _ (.meth i) st1 as1 { s1 with heap := s1.heap.push _, toks := tk } f N.1 ?_ (x1.trans R1 N.2) (m1.trans .of)
 exact ⟨_, a, rfl, ha, Heap.get?_push_size _ rfl⟩
theorem callWith_meth {q a : Addr} {pos : Pos} {args : List (Bool × Sem Value)} {A : Around} {s : Shared} {Q : Value → Shared → Prop} {E : Value → Shared → Prop} (hp : args.any (·.1) = false)
  (h : wpAny (model prog w) A (evalArgs (.ref q) true args []) (fun x s₁ => s₁.heap.get? q = some (appendOf a) ∧ wpAny (model prog w) A (call (.ref q) ([] ++ x.pos) x.kw) Q E s₁) E s) : wpAny (model prog w) A (callWith pos (.ref q) [] args []) Q E s := by
 unfold callWith
 refine wpAny_bind (wpAny_holding (wpAny_mono h (fun x s₁ h₁ => wpAny_bind (wpAny_standAt ?_)) fun _ _ x => x))
 obtain ⟨ho, hcall⟩ := h₁
 simp only [hp, List.any_nil, Bool.or_false]
 refine wpAny_bind (m := keeperOf (.ref q)) ?_
 unfold keeperOf
 refine wpAny_bind (wpAny_load ho ?_)
 simp only [appendOf, show (Value.type "builtin_function_or_method" != Value.type "method") = true by decide, show (Value.type "builtin_function_or_method" == Value.type "builtin_function_or_method" || Value.type "builtin_function_or_method" == Value.type "method-wrapper") = true by decide, if_true]
 refine wpAny_pure ?_
 exact wpAny_bind (wpAny_mono hcall (fun r s₂ hr => wpAny_bind (wpAny_holding (wpAny_point (wpAny_pure hr)))) fun _ _ x => x)
theorem AE_CallApp {x : Str} {p arg pos i} (hn : nmOk x = true) (hs : noStar [arg] = true) (e : st.m.lookup x = some (.meth i))
  (h : AE Γ C arg st fun d st1 => ∃ l, st1.mu[i]? = some l ∧ l.length < 1048576 ∧ Φ .none { st1 with mu := st1.mu.set i (l ++ [d]) }) : AE Γ C (.Call (.Name x p) [arg] [] pos) st Φ := by
 intro s as Q E R k
 obtain ⟨v, hv, hr⟩ := R.vars x _ e
 obtain ⟨q, a, rfl, ha, hq⟩ := hr
 refine Call_Name (back_plain hs) (wpAny_Name (load_var R.c.fun_ hv ?_ (nmOk_c hn)) (nmOk_d hn))
 have hE : AEs Γ C [arg] st fun ds st1 => ∃ d l, ds = [d] ∧ st1.mu[i]? = some l ∧ l.length < 1048576 ∧ Φ .none { st1 with mu := st1.mu.set i (l ++ [d]) } := by
  refine AW.mono h fun d st1 ⟨l, h1, h2, h3⟩ => ?_
  exact ⟨d, l, rfl, h1, h2, h3⟩
 refine callWith_meth (a := a) noStar_plain (args_is hE R ?_)
 rintro vs ds st1 as1 s1 ⟨d, l, rfl, h1, h2, h3⟩ R1 r1 x1 m1
 have ha1 : as1[i]? = some a := by
  obtain ⟨e', rfl⟩ := x1.pre
  exact (List.getElem?_append_left (List.getElem?_eq_some_iff.mp ha).1).trans ha
 have hq1 : s1.heap.get? q = some (appendOf a) := (R.lean x1).fix _ _ hq ⟨⟨_, rfl⟩, .inr rfl⟩
 obtain ⟨u, rfl, r2⟩ := RpL.one r1
 refine ⟨hq1, ?_⟩
 obtain ⟨a', xs, ha', hl, bl, ql⟩ := MuIs.get R1.mus h1
 rw [ha1] at ha'; cases ha'
 refine call_appendOf hq1 hl (by rw [ql.size, sl_is]; omega) fun h' hl' hs' => ?_
 have N := R1.setMu (ds := l ++ [d]) (vs := xs.push u) ha1 hs' hl' (by simp; omega) (by rw [Array.toList_push]; exact ql.append ⟨r2, trivial⟩)
 exact k .none .none _ as1 { s1 with heap := h' } h3 N.1 rfl (x1.trans R1 N.2) (m1.trans ⟨rfl, id⟩)
end
end
section
section
variable {Γ : Gl prog w} {C : Cx} {st : St} {Φ : D → St → Prop}
theorem AE_Fmt {value pos} (h : AE Γ C value st fun d st1 => ∃ l, d = .str l ∧ Φ (.str l) st1) : AE Γ C (.FormattedValue value (-1) none pos) st Φ := by
 intro s as Q E R k
 refine wpAny_FormattedValue_plain (h s as _ E R ?_)
 rintro v d st1 as1 s1 ⟨l, rfl, f⟩ R1 r1 x1 m1
 obtain ⟨⟨t, rfl⟩, b⟩ := r1
 have fin : ∀ t' tk, Q (.str (S l) t') { s1 with toks := tk } := fun t' tk => k _ (.str l) st1 as1 { s1 with toks := tk } f R1 ⟨⟨t', rfl⟩, b⟩ x1 (m1.trans .of)
 exact wpAny_formatField_str (fin t s1.toks) (fin s1.toks (s1.toks + 1)) (by rw [S_len, sl_is]; omega)
noncomputable def AJ (Γ : Gl prog w) (C : Cx) : List Expr → List Nat → St → (List Nat → St → Prop) → Prop
 | [], out, st, Φ => Φ out st
 | e :: es, out, st, Φ => AE Γ C e st fun d st1 => ∃ l, d = .str l ∧ AJ Γ C es (out ++ l) st1 Φ
theorem AJ.run {Ψ : List Nat → St → Prop} {s0 : Shared} {as0 : List Addr} {Q : Str → Shared → Prop} {E : Value → Shared → Prop} : ∀ {es : List Expr} {out : List Nat} {st : St} {s : Shared} {as : List Addr}, AJ Γ C es out st Ψ → Rel Γ C s.heap as st → Ext C s0.heap as0 s.heap as → Sm s0 s →
  (∀ out st as s, Ψ out st → Rel Γ C s.heap as st → Ext C s0.heap as0 s.heap as → Sm s0 s → Q (S out) s) → (∀ (o : List Nat), o.length ≤ 1048576 → True) → out.length + es.length * 1048576 ≤ 8388608 →
  Joins (model prog w) C.A E (evalEach es C.env) (S out) Q s
 | [], out, st, s, as, h, R, x, m, k, _, _ => k out st as s h R x m
 | e :: es, out, st, s, as, h, R, x, m, k, t, hb => by
  show wpAny _ _ (eval e C.env) _ E s
  refine (show AE Γ C e st _ from h) s as _ E R ?_
  rintro v d st1 as1 s1 ⟨l, rfl, h1⟩ R1 r1 x1 m1
  obtain ⟨⟨tk, rfl⟩, b⟩ := r1
  refine ⟨S l, tk, rfl, ?_, ?_⟩
  ·rw [S_append, S_len, List.length_append, sl_is]
   simp only [List.length_cons, Nat.succ_mul] at hb
   omega
  ·rw [S_append]
   refine AJ.run h1 R1 (x.trans R x1) (m.trans m1) k t ?_
   rw [List.length_append]
   simp only [List.length_cons, Nat.succ_mul] at hb
   omega
theorem AE_Joined {v1 v2 : Expr} {rest : List Expr} {pos : Pos} (hn : decide ((v1 :: v2 :: rest).length ≤ 8) = true) (h : AJ Γ C (v1 :: v2 :: rest) [] st fun out st1 => out.length ≤ 1048576 ∧ Φ (.str out) st1) : AE Γ C (.JoinedStr (v1 :: v2 :: rest) pos) st Φ := by
 intro s as Q E R k
 refine wpAny_JoinedStr ?_
 refine AJ.run (out := []) (s0 := s) (as0 := as) h R (Ext.refl ..) (Sm.refl s) ?_ (fun _ _ => trivial) ?_
 ·intro out st1 as1 s1 ⟨hb, f⟩ R1 x1 m1
  refine ⟨by rw [S_len, sl_is]; omega, ?_⟩
  exact k _ (.str out) st1 as1 { s1 with toks := s1.toks + 1 } f R1 ⟨⟨_, rfl⟩, hb⟩ x1 (m1.trans .of)
 ·have := of_decide_eq_true hn
  simp only [List.length_nil, Nat.zero_add]
  omega
end
end
section
open PySem.Builtin PySem.Builtin.Str
section
variable {Γ : Gl prog w} {C : Cx} {st : St}
theorem AS_Try {body orelse : List Stmt} {hd : ExceptHandler} {hs : List ExceptHandler} {pos : Pos} {Φ : Fl → St → Prop} (h : AB Γ C body st fun fl st1 => match fl with | .next => AB Γ C orelse st1 Φ | fl => Φ fl st1) : AS Γ C (.Try body (hd :: hs) orelse [] pos) st Φ := by
 intro s as Q E R k
 refine wpAny_Try_except (h s as _ _ R ?_)
 intro f fl st1 as1 s1 f1 R1 r1 x1 m1
 cases fl with
 | next => simp only [relF] at r1; subst r1; exact f1 s1 as1 Q E R1 fun y fl2 st2 as2 s2 f2 R2 r2 x2 m2 => k y fl2 st2 as2 s2 f2 R2 r2 (x1.trans R1 x2) (m1.trans m2)
 | brk => have r1' := r1; simp only [relF] at r1; subst r1; exact k _ .brk st1 as1 s1 f1 R1 r1' x1 m1
 | cont => have r1' := r1; simp only [relF] at r1; subst r1; exact k _ .cont st1 as1 s1 f1 R1 r1' x1 m1
 | ret d => have r1' := r1; simp only [relF] at r1; obtain ⟨v, rfl, _⟩ := r1; exact k _ (.ret d) st1 as1 s1 f1 R1 r1' x1 m1
theorem gives_find4 (x y : Str) (i j : Int) (t u v v' : Tok) : Gives («str.find» ⟨[.str x t, .str y u, .int i v, .int j v'], []⟩) (.int (match occurrences x y (fromIndex x.length i) (min (fromIndex x.length j) x.length) 1 with | k :: _ => (k : Int) | [] => -1)) := by
 show Gives (match occurrences x y (fromIndex x.length i) (min (fromIndex x.length j) x.length) 1 with | k :: _ => retInt k | [] => (do rule "str.find.not-found"; retInt (-1))) _
 cases occurrences x y (fromIndex x.length i) (min (fromIndex x.length j) x.length) 1 with
 | nil => exact .rule (.of_eq rfl)
 | cons k _ => exact .of_eq rfl
theorem gives_index3 (x y : Str) (i : Int) (t u v : Tok) (k : Nat) (rest : List Nat) (h : occurrences x y (fromIndex x.length i) x.length 1 = k :: rest) : Gives («str.index» ⟨[.str x t, .str y u, .int i v], []⟩) (.int k) := by
 show Gives (match occurrences x y (fromIndex x.length i) (min x.length x.length) 1 with | i :: _ => retInt i | [] => (do rule "str.index.not-found"; raiseError "ValueError" "substring not found")) _
 rw [Nat.min_self, h]
 exact .of_eq rfl
end
section
variable {A : Around} {E : Value → Shared → Prop} {s : Shared}
theorem ob_mro : ∃ c tl, mroOf (.type "object") = pure (c :: tl) := ⟨_, _, rfl⟩
theorem ob_new : typeLookup (.type "object") "__new__" = pure (some (.builtin "object.__new__")) := by rw [typeLookup_type, builtinLookup_eq_fast]; kernel_rfl
theorem ob_called : TypeCalled "object" "object.__new__" "object.__init__" where
 notType := by decide +kernel
 canCreate := by decide +kernel
 mro := ob_mro
 made := by first | kernel_rfl | (obtain ⟨c, tl, h⟩ := ob_mro; exact madeBy_type h ob_new (by decide +kernel))
 plain := by decide +kernel
 sub := by rw [isSubtype_type]; kernel_rfl
 init := .of (owner := "object") (n := "__init__") (by rw [typeLookup_type, builtinLookup_eq_fast]; kernel_rfl) (by decide +kernel) (by decide +kernel) (by decide +kernel)
  (by first | exact .inl (by decide +kernel) | exact .inr (by decide +kernel)) (by rw [isSubtype_type]; kernel_rfl)
theorem ob_meets : Meets (Builtin.«object.__new__» ⟨[.type "object"], []⟩) (fun _ R s => R (.ok (.ret (.ref s.heap.objs.size))) { s with heap := s.heap.push { cls := .type "object", data := .plain } }) :=
 Meets.of_wp fun prog w A R s hs => by
  obtain ⟨hp, g, d, tk, os⟩ := s
  have f1 : Bind.madeHere "object.__new__" (.type "object") = pure () := by kernel_rfl
  unfold Builtin.«object.__new__»
  repeat (any_goals (first | assumption | wp_step))
  all_goals exact ⟨_, rfl, hs⟩
theorem ob_init (o : Value) : Meets (Builtin.«object.__init__» ⟨[o], []⟩) (fun _ R s => R (.ok (.ret .none)) s) :=
 Meets.of_wp fun prog w A R s hs => wpAny_pure ⟨_, rfl, hs⟩
theorem call_object {Q : Value → Shared → Prop} (h : Q (.ref s.heap.objs.size) { s with heap := s.heap.push { cls := .type "object", data := .plain } }) : wpAny (model prog w) A (call (.type "object") [] []) Q E s := by
 refine callType_meets (Q₁ := fun obj s₁ => obj = .ref s.heap.objs.size ∧ s₁ = { s with heap := s.heap.push { cls := .type "object", data := .plain } }) ob_called (by kernel_rfl) (by kernel_rfl) (entryFor_of_tree (by kernel_rfl)) PySem.F.entry_object_init ob_meets ⟨rfl, rfl⟩ ?_
 rintro obj s₁ ⟨rfl, rfl⟩
 exact ⟨⟨_, Heap.get?_push_size _ rfl, rfl⟩, by unfold argsOk; kernel_rfl, _, ob_init _, rfl, h⟩
end
section
variable {Γ : Gl prog w} {C : Cx} {st : St}
theorem ACall_object {Φ : D → St → Prop} (h : ∀ a : Addr, Φ (.val (.ref a)) st) : ACall Γ C (.type "object") [] st Φ := by
 intro s as vs Q E R r q
 match vs, r with
 | [], _ =>
  refine call_object ?_
  have N := R.push { cls := .type "object", data := .plain }
  exact q _ (.val (.ref s.heap.objs.size)) st as { s with heap := s.heap.push _ } (h _) N.1 rfl N.2 .of
 | _ :: _, r => simp [RpL] at r
theorem ACall_find4 {x y : List Nat} {i j : Int} {Φ : D → St → Prop} (h : Φ (.int (match occurrences (S x) (S y) (fromIndex x.length i) (min (fromIndex x.length j) x.length) 1 with | k :: _ => (k : Int) | [] => -1)) st) : ACall Γ C (.builtin "str.find") [.str x, .str y, .int i, .int j] st Φ := by
 intro s as vs Q E R r q
 obtain ⟨v, u, a, b, rfl, ⟨⟨⟨t, rfl⟩, _⟩, ⟨⟨t2, rfl⟩, _⟩, ⟨t3, rfl⟩, ⟨t4, rfl⟩⟩⟩ := RpL.four r
 refine call_gives PySem.F.slot_str_find (typeIs_str _ _ _) PySem.F.entry_str_find (PySem.F.args_str_find_4 _ _ _ _) (gives_find4 (S x) (S y) i j t t2 t3 t4) ?_
 rw [S_len]
 exact q _ _ st as { s with toks := s.toks + 1 } h R ⟨_, rfl⟩ (Ext.refl ..) .of
theorem ACall_index3 {x y : List Nat} {i : Int} {k : Nat} {rest : List Nat} {Φ : D → St → Prop} (ho : occurrences (S x) (S y) (fromIndex x.length i) x.length 1 = k :: rest) (h : Φ (.int k) st) : ACall Γ C (.builtin "str.index") [.str x, .str y, .int i] st Φ := by
 intro s as vs Q E R r q
 obtain ⟨v, u, a, rfl, ⟨⟨⟨t, rfl⟩, _⟩, ⟨⟨t2, rfl⟩, _⟩, ⟨t3, rfl⟩⟩⟩ := RpL.three r
 refine call_gives PySem.F.slot_str_index (typeIs_str _ _ _) PySem.F.entry_str_index (PySem.F.args_str_index_3 _ _ _) (gives_index3 (S x) (S y) i t t2 t3 k rest (by rw [S_len]; exact ho)) ?_
 exact q _ _ st as { s with toks := s.toks + 1 } h R ⟨_, rfl⟩ (Ext.refl ..) .of
end
end
section
theorem found2 {k1 k2 x : Str} {a b : Value} (hk : k1 ≠ k2) : valueAt (merged [] [(k1, a), (k2, b)]) x = if x = k1 then some a else if x = k2 then some b else none := by
 have hk' : ¬ (k1 = k2) := hk
 simp only [merged, List.foldl_cons, List.foldl_nil, stored, List.any_nil, Bool.false_eq_true, if_false, List.nil_append, List.any_cons, Bool.or_false, decide_eq_true_eq, hk', valueAt]
 simp only [List.cons_append, List.nil_append, List.find?_cons]
 by_cases h1 : k1 = x
 ·simp [h1]
 ·by_cases h2 : k2 = x
  ·simp [h1, h2, Ne.symm h1]
  ·have h1' : ¬ x = k1 := fun h => h1 h.symm
   have h2' : ¬ x = k2 := fun h => h2 h.symm
   simp [h1, h2, h1', h2']
section
variable {A : Around} {E : Value → Shared → Prop} {s : Shared} {env : Env}
theorem dict2 {k1 k2 v1 v2 : Str} {n1 n2 m1 m2 : Nat} {p1 p2 q1 q2 dp : Pos} {Q : Value → Shared → Prop}
  (h : ∀ h' t1 t2 tk, h'.DictOf (PySem.strKind prog w) s.heap.objs.size (merged [] [(k1, .str v1 t1), (k2, .str v2 t2)]) → (∀ b o, s.heap.get? b = some o → h'.get? b = some o) → Q (.ref s.heap.objs.size) { s with heap := h', toks := tk }) :
  wpAny (model prog w) A (eval (.Dict [some (.Constant (.str k1) n1 p1), some (.Constant (.str k2) n2 p2)] [.Constant (.str v1) m1 q1, .Constant (.str v2) m2 q2] dp) env) Q E s := by
 refine wpAny_Dict_walk (knd := PySem.strKind prog w) rfl rfl (by simp) (by simp) ?_
 have hd0 : (s.heap.push { cls := .type "dict", data := .dict #[] }).DictOf (PySem.strKind prog w) s.heap.objs.size [] := by
  refine Heap.dictOf_iff.mpr ⟨_, Heap.get?_push_size _ rfl, ⟨#[], _, ⟨rfl, rfl, rfl⟩, rfl, ?_, ?_, by simp⟩⟩
  ·simp [PySem.KeysOf]
  ·exact .nil
 show wpAny _ _ (evalPairs [(eval (.Constant (.str k1) n1 p1) env, do let x ← eval (.Constant (.str v1) m1 q1) env; standAt dp; pure x), (eval (.Constant (.str k2) n2 p2) env, do let x ← eval (.Constant (.str v2) m2 q2) env; standAt dp; pure x)]) _ _ _
 refine evalPairs_cons (Constant_str (wpAny_bind (Constant_str (wpAny_bind (wpAny_standAt (wpAny_pure ?_))))))
 refine evalPairs_cons (Constant_str (wpAny_bind (Constant_str (wpAny_bind (wpAny_standAt (wpAny_pure ?_))))))
 refine evalPairs_nil ?_
 refine ⟨[(k1, .str v1 (s.toks + 1)), (k2, .str v2 (s.toks + 1 + 1 + 1))], ⟨strKind_is prog w _ _, rfl, strKind_is prog w _ _, rfl, trivial⟩, hd0, fun h' hd' hs' => ?_⟩
 refine h h' _ _ _ hd' fun b o e => ?_
 have hb : b ≠ s.heap.objs.size := Nat.ne_of_lt (Heap.lt_size e)
 exact hs'.extBut b o hb (Heap.get?_push_of_some _ e)
end
section
variable {Γ : Gl prog w} {C : Cx} {st : St} {Φ : D → St → Prop}
theorem S_iff {a b : List Nat} : S a = S b ↔ a = b := ⟨S_inj, congrArg S⟩
theorem rp_two {h : Heap} {X : Addr → Prop} {as : List Addr} {p q p' q' : Prop} [Decidable p] [Decidable q] [Decidable p'] [Decidable q'] {a b c : D} {u v x : Value} (hp' : p' ↔ p) (hq' : q' ↔ q) (h1 : Rp h X as a u) (h2 : Rp h X as b v) (h3 : Rp h X as c x) : Rp h X as (if p then a else if q then b else c) ((if p' then some u else if q' then some v else none).getD x) := by
 by_cases hp : p
 ·rw [if_pos hp, if_pos (hp'.mpr hp)]; exact h1
 ·rw [if_neg hp, if_neg fun z => hp (hp'.mp z)]
  by_cases hq : q
  ·rw [if_pos hq, if_pos (hq'.mpr hq)]; exact h2
  ·rw [if_neg hq, if_neg fun z => hq (hq'.mp z)]; exact h3
theorem Rel.not_sys {h : Heap} {as : List Addr} (R : Rel Γ C h as st) : (h.objs.size == sysModules) = false := by
 obtain ⟨og, _, _, hog, _⟩ := Γ.okg _ R.okh
 exact beq_eq_false_iff_ne.mpr fun e => absurd (Heap.lt_size hog) (Nat.not_lt.mpr (e ▸ (by decide)))
theorem AE_DictGet {k1 k2 v1 v2 : List Nat} {n1 n2 m1 m2 : Nat} {p1 p2 q1 q2 dp ap pos : Pos} {e1 e2 : Expr} (hk : k1 ≠ k2) (hv1 : v1.length ≤ 1048576) (hv2 : v2.length ≤ 1048576) (hs : noStar [e1, e2] = true) (hl : (ap.endLine == pos.line) = true)
  (h : AE Γ C e1 st fun d st1 => ∃ x, d = .str x ∧ AE Γ C e2 st1 fun d2 st2 => Φ (if x = k1 then .str v1 else if x = k2 then .str v2 else d2) st2) :
  AE Γ C (.Call (.Attribute (.Dict [some (.Constant (.str (S k1)) n1 p1), some (.Constant (.str (S k2)) n2 p2)] [.Constant (.str (S v1)) m1 q1, .Constant (.str (S v2)) m2 q2] dp) "get" ap) [e1, e2] [] pos) st Φ := by
 intro s as Q E R k
 have hb' := back_plain (env := C.env) (pos := pos) hs
 have hfew : ((backTo pos (starEach [e1, e2] C.env)).all (fun x => !x.1) && (backToKw pos (keywordEach [] C.env)).all (fun x => x.1.isSome) && decide ([e1, e2].length + ([] : List Keyword).length + (if ([] : List Keyword).isEmpty then 0 else 1) < 30)) = true := by
  rw [hb']
  show (true && true && decide (2 + 0 + 0 < 30)) = true
  rfl
 refine wpAny_Call_method (base_is (by rfl)) hfew hl PySem.F.plainAttrs_dict PySem.F.slot_dict_get PySem.F.type_dict_get ?_
 have D2 := fun Q => @dict2 prog w C.A E s C.env (S k1) (S k2) (S v1) (S v2) n1 n2 m1 m2 p1 p2 q1 q2 dp Q
 with_reducible refine D2 _ ?_
 intro h' t1 t2 tk hd' keep
 have R' : Rel Γ C h' as st := R.sub keep
 have X' : Ext C s.heap as h' as := Ext.sub keep
 refine hide fun P hP => ?_
 obtain ⟨o, ho, hr⟩ := Heap.dictOf_iff.mp hd'
 have hex := hr.elim fun es z => z.elim fun ep z => z.1
 have hdat : ∃ es ep, o.data = .dict es ep := hr.imp fun es => Exists.imp fun ep z => z.2.1
 refine hP ⟨⟨o, ho, hex.1⟩, fun a ea => by cases ea; exact ⟨o, ho, hex.2.1⟩, ?_⟩
 clear hP P
 rw [hb']
 have hloc : s.heap.objs.size ≠ C.env.locals := fun e => R.ns.elim fun _ z => z.elim fun _ z => z.elim fun _ z => z.elim fun _ z => no_some ((none_end s.heap).symm.trans (e ▸ z.1))
 refine wpAny_dict_get2 (knd := PySem.strKind prog w) R.not_sys (h { s with heap := h', toks := tk } as _ E R' ?_)
 rintro u d st1 as1 s1 ⟨x, rfl, h1⟩ R1 r1 x1 m1
 refine h1 s1 as1 _ E R1 ?_
 intro u2 d2 st2 as2 s2 f R2 r2 x2 m2
 refine hide fun P hP => ?_
 obtain ⟨⟨tx, rfl⟩, bx⟩ := r1.ext R1 x2
 have x12 := x1.trans R1 x2
 have ho2 : s2.heap.get? s.heap.objs.size = some o := hdat.elim fun es z => z.elim fun ep hd => x12.keep _ _ ho (R'.notMu ho (.inr fun _ _ => ob_no hd rfl)) hloc (R'.notOwn ho fun _ => ob_no hd rfl) (R'.notEx ho (.inl fun _ => ob_no hd rfl))
 refine hP ⟨S x, _, strKind_is prog w _ _, (Heap.dictOf_iff.mpr ⟨o, ho2, hr⟩).mapOf, ?_⟩
 rw [found2 (fun e => hk (S_inj e))]
 refine k _ _ st2 as2 { s2 with toks := s2.toks + 1 } f R2 ?_ (X'.trans R' x12) ⟨m2.os.trans m1.os, fun z => m2.gens (m1.gens z)⟩
 exact rp_two S_iff S_iff ⟨⟨_, rfl⟩, hv1⟩ ⟨⟨_, rfl⟩, hv2⟩ r2
end
end
section
open PySem.Builtin PySem.Builtin.Str
noncomputable def Tells (f : Nat → List Nat) (c : Nat) (m : Mapped) : Prop := (m = .keep ∧ f c = [c]) ∨ ∃ t, m = .text t ∧ cp t = f c
structure TrInv (f : Nat → List Nat) (l rest : List Nat) (p : List Str × Nat × Bool × List (Nat × Option Nat) × Bool) : Prop where
 done : ∃ d, l = d ++ rest ∧ (p.1.reverse.map cp).flatten = d.flatMap f ∧ p.2.1 = (d.flatMap f).length
 known : ∀ c a, p.2.2.2.1.lookup c = some a → ∃ d, a = some d ∧ f c = [d]
 drop : p.2.2.2.2 = false
theorem TrInv.step {f : Nat → List Nat} {l rest : List Nat} {c : Nat} {ps : List Str} {tot : Nat} {fa fa' : Bool} {kn kn' : List (Nat × Option Nat)} {b : Bool} (I : TrInv f l (c :: rest) (ps, tot, fa, kn, b)) {t : Str} (ht : cp t = f c)
  (hk : ∀ c a, kn'.lookup c = some a → ∃ d, a = some d ∧ f c = [d]) : TrInv f l rest (t :: ps, tot + t.length, fa', kn', b) := by
 obtain ⟨d, h1, h2, h3⟩ := I.done
 refine ⟨⟨d ++ [c], by simp [h1], ?_, ?_⟩, hk, I.drop⟩
 ·simp only [List.reverse_cons, List.map_append, List.flatten_append, List.flatMap_append] at h2 ⊢
  rw [h2]; simp [ht]
 ·simp only at h3 ⊢
  rw [h3, List.flatMap_append, List.length_append, ← cp_len, ht]; simp
theorem known_cons {f : Nat → List Nat} {kn : List (Nat × Option Nat)} {c d : Nat} (hk : ∀ c a, kn.lookup c = some a → ∃ d, a = some d ∧ f c = [d]) (hd : f c = [d]) : ∀ c' a, ((c, some d) :: kn).lookup c' = some a → ∃ d, a = some d ∧ f c' = [d] := by
 intro c' a h
 rw [List.lookup_cons] at h
 cases e : c' == c with
 | true => rw [e] at h; cases h; rw [beq_iff_eq.mp e]; exact ⟨d, rfl, hd⟩
 | false => rw [e] at h; exact hk c' a h
theorem one_sign {t : Str} (h : (t.length == 1 && t.cps.all fun x => decide (x < 128)) = true) : ∃ d, t.cps[0]? = some d ∧ cp t = [d] := by
 simp only [Bool.and_eq_true, beq_iff_eq] at h
 obtain ⟨⟨xs⟩⟩ := t
 simp only [Str.length] at h
 match xs, h with
 | [d], _ => exact ⟨d, rfl, rfl⟩
theorem wpIteT {α : Type} {M : Model} {A : Around} {E : Value → Shared → Prop} {s : Shared} {Q : α → Shared → Prop} {b : Bool} {x y : Sem α} (h : b = true) (k : wpAny M A x Q E s) : wpAny M A (if b = true then x else y) Q E s := by rw [if_pos h]; exact k
theorem wpIteF {α : Type} {M : Model} {A : Around} {E : Value → Shared → Prop} {s : Shared} {Q : α → Shared → Prop} {b : Bool} {x y : Sem α} (h : b = false) (k : wpAny M A y Q E s) : wpAny M A (if b = true then x else y) Q E s := by rw [if_neg (by rw [h]; nofun)]; exact k
theorem tup5 {α β γ δ : Type} {P : α × β × γ × δ × Bool → Prop} (k : ∀ a b c d, P (a, b, c, d, false)) : ∀ r : α × β × γ × δ × Bool, r.2.2.2.2 = false → P r := by
 intro r e
 obtain ⟨a, b, c, d, f⟩ := r; subst e; exact k a b c d
theorem TrInv.mem {f : Nat → List Nat} {l rest : List Nat} {c : Nat} {p : List Str × Nat × Bool × List (Nat × Option Nat) × Bool} (I : TrInv f l (c :: rest) p) : c ∈ l :=
 I.done.elim fun _ h => h.1 ▸ List.mem_append_right _ (.head _)
theorem TrInv.short {f : Nat → List Nat} {l rest : List Nat} {p : List Str × Nat × Bool × List (Nat × Option Nat) × Bool} (I : TrInv f l rest p) (hb : (l.flatMap f).length ≤ 1048576) : tooLong p.2.1 = false := by
 obtain ⟨d, h1, h2, h3⟩ := I.done
 unfold tooLong
 rw [sl_is, h3]
 refine decide_eq_false (Nat.not_lt.mpr (Nat.le_trans (Nat.le_trans ?_ hb) (by decide)))
 rw [h1, List.flatMap_append, List.length_append]; exact Nat.le_add_right _ _
theorem TrInv.full {f : Nat → List Nat} {l : List Nat} {p : List Str × Nat × Bool × List (Nat × Option Nat) × Bool} (I : TrInv f l [] p) : (p.1.reverse.map cp).flatten = l.flatMap f :=
 I.done.elim fun _ h => h.2.1.trans (by rw [h.1, List.append_nil])
theorem tells_all {f : Nat → List Nat} {c : Nat} {P : Mapped → Prop} (k : f c = [c] → P .keep) (g : ∀ t, cp t = f c → P (.text t)) : ∀ m, Tells f c m → P m := fun _ h =>
 h.elim (fun q => q.1 ▸ k q.2) fun q => q.elim fun t q => q.1 ▸ g t q.2
theorem look_all {f : Nat → List Nat} {c : Nat} {P : Option (Option Nat) → Prop} (k : P none) (g : ∀ d, f c = [d] → P (some (some d))) : ∀ o : Option (Option Nat), (∀ a, o = some a → ∃ d, a = some d ∧ f c = [d]) → P o
 | none, _ => k
 | some a, h => (h a rfl).elim fun d q => q.1 ▸ g d q.2
theorem ans_is {f : Nat → List Nat} {c : Nat} {t : Str} (e : cp t = f c) : ∀ a, (if (t.length == 1 && t.cps.all fun x => decide (x < 128)) = true then some t.cps[0]? else none) = some a → ∃ d, a = some d ∧ f c = [d] := by
 intro a h
 split at h
 ·obtain ⟨d, e1, e2⟩ := one_sign (by assumption)
  exact ⟨d, (Option.some.inj h).symm.trans e1, e.symm.trans e2⟩
 ·exact no_some h
theorem tr_walk {M : Model} {A : Around} {E : Value → Shared → Prop} {s : Shared} {l : List Nat} {t : Tok} {table : Value} {Q : Fin → Shared → Prop} {Inv : Shared → Prop} {f : Nat → List Nat} (hl : l ≠ [])
  (TL : ∀ c ∈ l, ∀ s' (Q' : Mapped → Shared → Prop), Inv s' → (∀ m s'', Inv s'' → Tells f c m → Q' m s'') → wpAny M A (tableLookup table c) Q' E s')
  (hI : Inv s) (hb : (l.flatMap f).length ≤ 1048576)
  (fin : ∀ s', Inv s' → wpAny M A (retStr (S (l.flatMap f))) Q E s') : wpAny M A («str.translate» ⟨[.str (S l) t, table], []⟩) Q E s := by
 unfold «str.translate»
 refine wpAny_bind (wpAny_of_eq (a := (.str (S l) t, S l, table)) rfl ?_)
 dsimp only
 have h0 : ((S l).length == 0) = false := by rw [S_len]; cases l with | nil => exact absurd rfl hl | cons a b => simp
 simp only [h0, Bool.false_eq_true, if_false]
 rw [show (S l).cps = l.toArray from rfl, List.forIn_toArray]
 refine wpAny_bind ?_
 refine wpAny_forIn_list _ (fun rest p s' => TrInv f l rest p ∧ Inv s') _ ?_ ?_ l _ ⟨⟨⟨[], by simp, by simp, by simp⟩, fun c a h => by simp at h, rfl⟩, hI⟩
 ·intro c rest r s' hh
  have hi := hh.2
  have hd := hh.1.drop
  replace hh := hh.1
  revert hh; revert hd; revert r
  refine tup5 fun ps tot fa kn I => ?_
  have hc := I.mem
  refine wpIteF (I.short hb) ?_
  have slow : ∀ (fa' : Bool) (kn' : List (Nat × Option Nat)) (s1 : Shared), Inv s1 → (∀ c a, kn'.lookup c = some a → ∃ d, a = some d ∧ f c = [d]) → wpAny M A (do
    let __do_lift ← tableLookup table c
    match __do_lift with
    | Mapped.keep => pure (ForInStep.yield (({ cps := #[c] } : Str) :: ps, tot + 1, fa', kn', false))
    | Mapped.drop => pure (ForInStep.yield (ps, tot, fa', kn', true))
    | Mapped.char d => pure (ForInStep.yield (({ cps := #[d] } : Str) :: ps, tot + 1, fa', kn', false))
    | Mapped.text t => pure (ForInStep.yield (t :: ps, tot + t.length, fa', kn', false))) (fun r s' => match r with | .yield b' => TrInv f l rest b' ∧ Inv s' | .done b' => False) E s1 := by
   intro fa' kn' s1 hi1 hk
   refine wpAny_bind (TL c hc s1 _ hi1 fun m s2 hi2 ht => ?_)
   revert ht; revert m
   refine tells_all (fun e => ?_) fun t e => ?_
   ·exact wpAny_pure ⟨I.step (t := ⟨#[c]⟩) (by rw [e]; rfl) hk, hi2⟩
   ·exact wpAny_pure ⟨I.step e hk, hi2⟩
  by_cases hfa : fa = false
  ·refine wpIteF hfa (wpIteF rfl ?_)
   dsimp only
   exact wpAny_mono (slow fa kn s' hi I.known) (fun r s2 h => by cases r with | yield b => exact h | done b => exact h.elim) fun _ _ e => e
  ·refine wpIteT (eq_true_of_ne_false hfa) ?_
   dsimp only
   have hk := I.known c
   revert hk
   generalize List.lookup c kn = o
   revert o
   refine look_all ?_ fun d' e => ?_
   ·dsimp only
    refine wpAny_bind (TL c hc s' _ hi fun m s2 hi2 ht => ?_)
    revert ht; revert m
    refine tells_all (fun e => ?_) fun t e => ?_
    ·refine wpAny_bind (wpAny_pure ?_)
     exact wpAny_pure ⟨I.step (t := ⟨#[c]⟩) (by rw [e]; rfl) (known_cons I.known e), hi2⟩
    ·dsimp only
     have hk := ans_is e
     revert hk
     generalize (if (t.length == 1 && t.cps.all fun x => decide (x < 128)) = true then some t.cps[0]? else none) = o
     revert o
     refine look_all ?_ fun d' e => ?_
     ·refine wpAny_bind (wpAny_pure ?_)
      refine wpAny_bind (wpAny_rule ?_)
      exact wpAny_mono (slow false kn s2 hi2 I.known) (fun r s2 h => by cases r with | yield b => exact h | done b => exact h.elim) fun _ _ e => e
     ·refine wpAny_bind (wpAny_pure ?_)
      exact wpAny_pure ⟨I.step (t := ⟨#[d']⟩) (by rw [e]; rfl) (known_cons I.known e), hi2⟩
   ·refine wpAny_bind (wpAny_pure ?_)
    exact wpAny_pure ⟨I.step (t := ⟨#[d']⟩) (by rw [e]; rfl) I.known, hi⟩
 ·intro r s' hh
  have hi := hh.2
  have hd := hh.1.drop
  replace hh := hh.1
  revert hh; revert hd; revert r
  refine tup5 fun ps tot fa kn I => ?_
  refine wpIteF (I.short hb) ?_
  have e : ∀ (xs : List Str) (acc : Array Nat), xs.foldl (fun acc p => acc ++ p.cps) acc = (acc.toList ++ (xs.map cp).flatten).toArray := by
   intro xs
   induction xs with
   | nil => intro acc; simp
   | cons x r ih => intro acc; rw [List.foldl_cons, ih]; simp [cp]
  dsimp only
  rw [e, I.full]
  exact fin s' hi
end
section
open PySem.Builtin PySem.Builtin.Str
section
variable {Γ : Gl prog w} {C : Cx} {st : St}
structure Kp (s s' : Shared) : Prop where
 keep : ∀ a o, s.heap.get? a = some o → s'.heap.get? a = some o
 sm : Sm s s'
theorem ACall_translate {x : List Nat} {d : D} {l : List D} {f : Nat → List Nat} {Φ : D → St → Prop} (hx : x ≠ []) (e : itemsD st.mu d = some l) (hf : ∀ c ∈ x, l[c]? = some (.str (f c))) (hb : (x.flatMap f).length ≤ 1048576) (h : Φ (.str (x.flatMap f)) st) :
  ACall Γ C (.builtin "str.translate") [.str x, d] st Φ := by
 intro s as vs Q E R r q
 obtain ⟨v, u, rfl, ⟨r1, r2⟩⟩ := RpL.two r
 obtain ⟨⟨t, rfl⟩, bx⟩ := r1
 obtain ⟨a, ws, rfl, hl, bl, ql⟩ := R.items r2 e
 refine wpAny_call_entry PySem.F.slot_str_translate (typeIs_str _ _ _) PySem.F.entry_str_translate ?_ (PySem.F.args_str_translate_2 _ _)
 refine tr_walk (Inv := Kp s) hx ?_ ⟨fun _ _ e => e, Sm.refl s⟩ hb ?_
 ·intro c hc s' Q' hi hq
  unfold tableLookup
  obtain ⟨w', hw, hr⟩ := ql.get (hf c hc)
  obtain ⟨⟨t', rfl⟩, _⟩ := hr
  have hlt : c < l.length := (List.getElem?_eq_some_iff.mp (hf c hc)).1
  obtain ⟨o, ho, hcl, n, hd⟩ := hl
  have hl' : s'.heap.IsList a ws := ⟨o, hi.keep _ _ ho, hcl, n, hd⟩
  refine wpAny_bind (wpAny_attempt (wpAny_bind (wpAny_mkInt ?_)))
  refine wpAny_getItem_list (x := .str (S (f c)) t') hl' (by omega) (by omega) (by simpa using hw) ?_
  refine wpAny_bind (wpAny_of_eq (a := none) (by rfl) ?_)
  refine wpAny_bind (wpAny_of_eq (a := some (S (f c))) (by rfl) ?_)
  exact wpAny_pure (hq _ _ ⟨hi.keep, ⟨hi.sm.os, hi.sm.gens⟩⟩ (.inr ⟨_, rfl, cp_S _⟩))
 ·intro s' hi
  show wpAny _ _ (do ret (← mkStr (S (x.flatMap f)))) _ _ s'
  refine wpAny_bind (wpAny_mkStr (wpAny_pure ⟨_, rfl, ?_⟩) (by rw [S_len, sl_is]; omega))
  have R' : Rel Γ C s'.heap as st := R.sub hi.keep
  exact q _ _ st as { s' with toks := s'.toks + 1 } h R' ⟨⟨_, rfl⟩, hb⟩ (Ext.sub hi.keep) ⟨hi.sm.os, hi.sm.gens⟩
theorem ACall_translate_tab {x : List Nat} {a : Addr} {tf : Int → Option Value} {f : Nat → List Nat} {Φ : D → St → Prop} (hx : x ≠ []) (hd : (a == sysModules) = false) (ht : ∀ h, Γ.ok h → h.MapOf (PySem.intKind prog w) a tf)
  (hf : ∀ c ∈ x, (tf c = none ∧ f c = [c]) ∨ ∃ t, tf c = some (.str (S (f c)) t)) (hb : (x.flatMap f).length ≤ 1048576) (h : Φ (.str (x.flatMap f)) st) :
  ACall Γ C (.builtin "str.translate") [.str x, .val (.ref a)] st Φ := by
 intro s as vs Q E R r q
 obtain ⟨v, u, rfl, ⟨r1, r2⟩⟩ := RpL.two r
 obtain ⟨⟨t, rfl⟩, bx⟩ := r1
 subst r2
 refine wpAny_call_entry PySem.F.slot_str_translate (typeIs_str _ _ _) PySem.F.entry_str_translate ?_ (PySem.F.args_str_translate_2 _ _)
 refine tr_walk (Inv := Kp s) hx ?_ ⟨fun _ _ e => e, Sm.refl s⟩ hb ?_
 ·intro c hc s' Q' hi hq
  have R' : Rel Γ C s'.heap as st := R.sub hi.keep
  have hm := ht _ R'.okh
  unfold tableLookup
  refine wpAny_bind (wpAny_attempt (wpAny_bind (wpAny_mkInt ?_)))
  rcases hf c hc with ⟨e1, e2⟩ | ⟨t', e1⟩
  ·refine wpAny_getItem_missing_of (knd := PySem.intKind prog w) (PySem.intKind_is prog w _ _) hd (by exact R.c.hand) hm e1 fun h' e hne => ?_
   obtain ⟨ob, tt, hob, hcl, _⟩ := hne.there
   have hT : ({ s' with heap := h', toks := s'.toks + 1 + 1 } : Shared).TypeIs (.ref e) "KeyError" := ⟨ob, hob, hcl⟩
   refine wpAny_bind (wpAny_isInstance (T := "KeyError") (b := true) hT (by rw [isSubtype_type]; kernel_rfl) ?_)
   simp only [if_true]
   exact wpAny_bind (wpAny_rule (wpAny_pure (hq _ _ ⟨fun b o ee => hne.keeps b o (hi.keep b o ee), ⟨hi.sm.os, hi.sm.gens⟩⟩ (.inl ⟨rfl, e2⟩))))
  ·refine wpAny_getItem_of (knd := PySem.intKind prog w) (PySem.intKind_is prog w _ _) hm e1 ?_
   refine wpAny_bind (wpAny_of_eq (a := none) (by rfl) ?_)
   refine wpAny_bind (wpAny_of_eq (a := some (S (f c))) (by rfl) ?_)
   exact wpAny_pure (hq _ _ ⟨hi.keep, ⟨hi.sm.os, hi.sm.gens⟩⟩ (.inr ⟨_, rfl, cp_S _⟩))
 ·intro s' hi
  show wpAny _ _ (do ret (← mkStr (S (x.flatMap f)))) _ _ s'
  refine wpAny_bind (wpAny_mkStr (wpAny_pure ⟨_, rfl, ?_⟩) (by rw [S_len, sl_is]; omega))
  have R' : Rel Γ C s'.heap as st := R.sub hi.keep
  exact q _ _ st as { s' with toks := s'.toks + 1 } h R' ⟨⟨_, rfl⟩, hb⟩ (Ext.sub hi.keep) ⟨hi.sm.os, hi.sm.gens⟩
end
end
section
noncomputable def fBody (i : Nat) : List Stmt := match PySem.Challenge.pw_in0172_01.main.body[i]? with
 | some (.FunctionDef _ _ body _ _ _ _ _ _ _) => body
 | _ => []
noncomputable def fScope (i : Nat) : Scope := match PySem.Challenge.pw_in0172_01.main.body[i]? with
 | some (.FunctionDef _ _ _ _ _ _ scope _ _ _) => scope
 | _ => default
end
section
noncomputable section
noncomputable abbrev lf (o : Obj) : BT := .node o .nil .nil
noncomputable abbrev kE (P : Params) (s : String) (n : Nat) (v : Value) : DictEntry := ⟨keyHash P s, .str s n, v⟩
variable (P : Params)
noncomputable def hdOe1 : Obj := (.mk (.type "dict") none (.dict #[(kE P "builtins" 162 (.ref 4)), (kE P "__main__" 163 (.ref 5)), (kE P "_sre" 244 (.ref 12))] 3) #[])
noncomputable def hdOe2 : Obj := (.mk .none none (.dict #[(kE P "\x69mport.loaded._sre" 183 (.bool true)), (kE P "class._frozen_importlib.BuiltinImporter" 185 (.ref 14)), (kE P "watched.\x69mport" 206 (.ref 18)), (kE P "class._frozen_importlib.ModuleSpec" 216 (.ref 22)), (kE P "sys.modules.booked-epoch" 245 (.int 3 0)), (kE P "\x69mport.later-laid._sre" 270 (.bool true)), (kE P "watched.library" 272 (.ref 27)), (kE P "watched.library-objects" 0 (.str "\x0c" 0)), (kE P "watched.library-deep._sre" 273 (.str "\x04\x00\x00\x0b\x04\x00\x00\x0b\x04\x00\x00\x03\x04\x00\x00\x0b\x08\x04dict\x02" 0))] 9) #[])
noncomputable def hdOe3 : Obj := (.mk (.type "dict") none (.dict #[(kE P "__name__" 165 (.str "__main__" 164)), (kE P "__doc__" 166 .none), (kE P "__package__" 167 .none), (kE P "__loader__" 168 (.builtin "__main__.__loader__#opaque")), (kE P "__spec__" 169 .none), (kE P "__annotations__" 170 (.ref 6)), (kE P "__builtins__" 171 (.ref 4)), (kE P "__file__" 173 (.str "/claim/cut.py" 172)), (kE P "__cached__" 174 .none), (kE P "_sre" 275 (.ref 12))] 10) #[])
noncomputable def hdOe11 : Obj := (.mk (.type "dict") none (.dict #[(kE P "__name__" 247 (.str "_sre" 246)), (kE P "__doc__" 248 .none), (kE P "__package__" 250 (.str "" 249)), (kE P "__loader__" 251 (.ref 14)), (kE P "__spec__" 252 (.ref 26)), (kE P "compile" 253 (.builtin "_sre.compile")), (kE P "template" 254 (.builtin "_sre.template")), (kE P "getcodesize" 255 (.builtin "_sre.getcodesize")), (kE P "ascii_iscased" 256 (.builtin "_sre.ascii_iscased")), (kE P "unicode_iscased" 257 (.builtin "_sre.unicode_iscased")), (kE P "ascii_tolower" 258 (.builtin "_sre.ascii_tolower")), (kE P "unicode_tolower" 259 (.builtin "_sre.unicode_tolower")), (kE P "MAGIC" 261 (.int 20230612 260)), (kE P "CODESIZE" 263 (.int 4 262)), (kE P "MAXREPEAT" 265 (.int 4294967295 264)), (kE P "MAXGROUPS" 267 (.int 1073741823 266)), (kE P "copyright" 269 (.str " SRE 2.2.2 Copyright (c) 1997-2002 by Secret Labs AB " 268))] 17) #[])
noncomputable def hdOe12 : Obj := (.mk (.type "module") (some 11) .plain #[])
noncomputable def hdOe13 : Obj := (.mk (.type "dict") none (.dict #[(kE P "__module__" 189 (.str "_frozen_importlib" 186)), (kE P "__firstlineno__" 190 (.int 971 187)), (kE P "__doc__" 191 (.builtin "_frozen_importlib.BuiltinImporter.__doc__:str#opaque")), (kE P "_ORIGIN" 192 (.str "built-in" 188)), (kE P "find_spec" 193 (.builtin "_frozen_importlib.BuiltinImporter.find_spec#opaque")), (kE P "create_module" 194 (.builtin "_frozen_importlib.BuiltinImporter.create_module#opaque")), (kE P "exec_module" 195 (.builtin "_frozen_importlib.BuiltinImporter.exec_module#opaque")), (kE P "get_code" 196 (.builtin "_frozen_importlib.BuiltinImporter.get_code#opaque")), (kE P "get_source" 197 (.builtin "_frozen_importlib.BuiltinImporter.get_source#opaque")), (kE P "is_package" 198 (.builtin "_frozen_importlib.BuiltinImporter.is_package#opaque")), (kE P "load_module" 199 (.builtin "_frozen_importlib.BuiltinImporter.load_module#opaque")), (kE P "__static_attributes__" 200 (.ref 15)), (kE P "__dict__" 202 (.ref 16)), (kE P "__weakref__" 204 (.ref 17))] 14) #[])
noncomputable def hdOe14 : Obj := (.mk (.type "type") none (.cls (ClassData.mk "BuiltinImporter" [(.type "object")] [(.ref 14), (.type "object")] 13 "BuiltinImporter" true [] [] false none false)) #[])
noncomputable def hdOe15 : Obj := (.mk (.type "tuple") none (.seq #[] 0) #[])
noncomputable def hdOe16 : Obj := (.mk (.type "getset_descriptor") none (.fields #[(.str "__dict__" 201), (.ref 14), (.builtin "function.__dict__"), (.builtin "function.__dict__#set")]) #[])
noncomputable def hdOe17 : Obj := (.mk (.type "getset_descriptor") none (.fields #[(.str "__weakref__" 203), (.ref 14), (.builtin "ExceptionGroup.__weakref__"), .none]) #[])
noncomputable def hdOe18 : Obj := (.mk .none none (.seq #[(.int 13 0), (.str "\x06½\n__module__\x06º\x11_frozen_importlib\x06¾\x0f__firstlineno__\x04»\x00ϋ\x06¿\x07__doc__\t4_frozen_importlib.BuiltinImporter.__doc__:str#opaque\x06À\x07_ORIGIN\x06¼\x08built-in\x06Á\tfind_spec\t2_frozen_importlib.BuiltinImporter.find_spec#opaque\x06Â\x0dcreate_module\t6_frozen_importlib.BuiltinImporter.create_module#opaque\x06Ã\x0bexec_module\t4_frozen_importlib.BuiltinImporter.exec_module#opaque\x06Ä\x08get_code\t1_frozen_importlib.BuiltinImporter.get_code#opaque\x06Å\nget_source\t3_frozen_importlib.BuiltinImporter.get_source#opaque\x06Æ\nis_package\t3_frozen_importlib.BuiltinImporter.is_package#opaque\x06Ç\x0bload_module\t4_frozen_importlib.BuiltinImporter.load_module#opaque\x06È\x15__static_attributes__\x04\x00\x00\x0f\x06Ê\x08__dict__\x04\x00\x00\x10\x06Ì\x0b__weakref__\x04\x00\x00\x11" 0), (.bool true), (.bool true), (.str "" 205), (.int 21 0), (.str "\x06ã\n__module__\x06Ù\x11_frozen_importlib\x06ä\x0f__firstlineno__\x04Ú\x00Ȳ\x06å\x07__doc__\t/_frozen_importlib.ModuleSpec.__doc__:str#opaque\x06æ\x08__init__\t,_frozen_importlib.ModuleSpec.__init__#opaque\x06ç\x08__repr__\t,_frozen_importlib.ModuleSpec.__repr__#opaque\x06è\x06__eq__\t*_frozen_importlib.ModuleSpec.__eq__#opaque\x06é\x06cached\t*_frozen_importlib.ModuleSpec.cached#opaque\x06ê\x06parent\t*_frozen_importlib.ModuleSpec.parent#opaque\x06ë\x0chas_location\t0_frozen_importlib.ModuleSpec.has_location#opaque\x06ì\x15__static_attributes__\x04\x00\x00\x17\x06î\x08__dict__\x04\x00\x00\x18\x06ð\x0b__weakref__\x04\x00\x00\x19\x06ñ\x08__hash__\x00" 0), (.bool true), (.bool true), (.str "" 242)] 1) #[])
noncomputable def hdOe19 : Obj := (.mk (.type "list") none (.seq #[] 0) #[])
noncomputable def hdOe20 : Obj := (.mk (.type "dict") none (.dict #[(kE P "name" 208 (.str "_sre" 207)), (kE P "loader" 209 (.ref 14)), (kE P "origin" 210 (.str "built-in" 184)), (kE P "loader_state" 211 .none), (kE P "submodule_search_locations" 212 .none), (kE P "_uninitialized_submodules" 213 (.ref 19)), (kE P "_set_fileattr" 214 (.bool false)), (kE P "_cached" 215 .none), (kE P "_initializing" 243 (.bool false))] 9) #[])
noncomputable def hdOe21 : Obj := (.mk (.type "dict") none (.dict #[(kE P "__module__" 227 (.str "_frozen_importlib" 217)), (kE P "__firstlineno__" 228 (.int 562 218)), (kE P "__doc__" 229 (.builtin "_frozen_importlib.ModuleSpec.__doc__:str#opaque")), (kE P "__init__" 230 (.builtin "_frozen_importlib.ModuleSpec.__init__#opaque")), (kE P "__repr__" 231 (.builtin "_frozen_importlib.ModuleSpec.__repr__#opaque")), (kE P "__eq__" 232 (.builtin "_frozen_importlib.ModuleSpec.__eq__#opaque")), (kE P "cached" 233 (.builtin "_frozen_importlib.ModuleSpec.cached#opaque")), (kE P "parent" 234 (.builtin "_frozen_importlib.ModuleSpec.parent#opaque")), (kE P "has_location" 235 (.builtin "_frozen_importlib.ModuleSpec.has_location#opaque")), (kE P "__static_attributes__" 236 (.ref 23)), (kE P "__dict__" 238 (.ref 24)), (kE P "__weakref__" 240 (.ref 25)), (kE P "__hash__" 241 .none)] 13) #[])
noncomputable def hdOe22 : Obj := (.mk (.type "type") none (.cls (ClassData.mk "ModuleSpec" [(.type "object")] [(.ref 22), (.type "object")] 21 "ModuleSpec" true [] [] false none false)) #[])
noncomputable def hdOe23 : Obj := (.mk (.type "tuple") none (.seq #[(.str "_cached" 219), (.str "_set_fileattr" 220), (.str "_uninitialized_submodules" 221), (.str "loader" 222), (.str "loader_state" 223), (.str "name" 224), (.str "origin" 225), (.str "submodule_search_locations" 226)] 0) #[])
noncomputable def hdOe24 : Obj := (.mk (.type "getset_descriptor") none (.fields #[(.str "__dict__" 237), (.ref 22), (.builtin "function.__dict__"), (.builtin "function.__dict__#set")]) #[])
noncomputable def hdOe25 : Obj := (.mk (.type "getset_descriptor") none (.fields #[(.str "__weakref__" 239), (.ref 22), (.builtin "ExceptionGroup.__weakref__"), .none]) #[])
noncomputable def hdOe26 : Obj := (.mk (.ref 22) (some 20) .plain #[])
noncomputable def hdOe27 : Obj := (.mk .none none (.seq #[(.int 11 0), (.str (Str.mk #[6, 247, 8, 95, 95, 110, 97, 109, 101, 95, 95, 6, 246, 4, 95, 115, 114, 101, 6, 248, 7, 95, 95, 100, 111, 99, 95, 95, 0, 6, 250, 11, 95, 95, 112, 97, 99, 107, 97, 103, 101, 95, 95, 6, 249, 0, 6, 251, 10, 95, 95, 108, 111, 97, 100, 101, 114, 95, 95, 4, 0, 0, 14, 6, 252, 8, 95, 95, 115, 112, 101, 99, 95, 95, 4, 0, 0, 26, 6, 253, 7, 99, 111, 109, 112, 105, 108, 101, 9, 12, 95, 115, 114, 101, 46, 99, 111, 109, 112, 105, 108, 101, 6, 254, 8, 116, 101, 109, 112, 108, 97, 116, 101, 9, 13, 95, 115, 114, 101, 46, 116, 101, 109, 112, 108, 97, 116, 101, 6, 255, 11, 103, 101, 116, 99, 111, 100, 101, 115, 105, 122, 101, 9, 16, 95, 115, 114, 101, 46, 103, 101, 116, 99, 111, 100, 101, 115, 105, 122, 101, 6, 256, 13, 97, 115, 99, 105, 105, 95, 105, 115, 99, 97, 115, 101, 100, 9, 18, 95, 115, 114, 101, 46, 97, 115, 99, 105, 105, 95, 105, 115, 99, 97, 115, 101, 100, 6, 257, 15, 117, 110, 105, 99, 111, 100, 101, 95, 105, 115, 99, 97, 115, 101, 100, 9, 20, 95, 115, 114, 101, 46, 117, 110, 105, 99, 111, 100, 101, 95, 105, 115, 99, 97, 115, 101, 100, 6, 258, 13, 97, 115, 99, 105, 105, 95, 116, 111, 108, 111, 119, 101, 114, 9, 18, 95, 115, 114, 101, 46, 97, 115, 99, 105, 105, 95, 116, 111, 108, 111, 119, 101, 114, 6, 259, 15, 117, 110, 105, 99, 111, 100, 101, 95, 116, 111, 108, 111, 119, 101, 114, 9, 20, 95, 115, 114, 101, 46, 117, 110, 105, 99, 111, 100, 101, 95, 116, 111, 108, 111, 119, 101, 114, 6, 261, 5, 77, 65, 71, 73, 67, 4, 260, 0, 20230612, 6, 263, 8, 67, 79, 68, 69, 83, 73, 90, 69, 4, 262, 0, 4, 6, 265, 9, 77, 65, 88, 82, 69, 80, 69, 65, 84, 4, 264, 0, 4294967295, 6, 267, 9, 77, 65, 88, 71, 82, 79, 85, 80, 83, 4, 266, 0, 1073741823, 6, 269, 9, 99, 111, 112, 121, 114, 105, 103, 104, 116, 6, 268, 53, 32, 83, 82, 69, 32, 50, 46, 50, 46, 50, 32, 67, 111, 112, 121, 114, 105, 103, 104, 116, 32, 40, 99, 41, 32, 49, 57, 57, 55, 45, 50, 48, 48, 50, 32, 98, 121, 32, 83, 101, 99, 114, 101, 116, 32, 76, 97, 98, 115, 32, 65, 66, 32]) 0), (.bool true), (.bool false), (.str "_sre" 271)] 0) #[])
noncomputable def hdOs11 : Obj := (.mk (.type "dict") none (.dict #[(kE P "__name__" 247 (.str "_sre" 246)), (kE P "__doc__" 248 .none), (kE P "__package__" 250 (.str "" 249)), (kE P "__loader__" 251 (.builtin "off-the-table:_sre.__loader__:shared#opaque")), (kE P "__spec__" 252 (.builtin "off-the-table:_sre.__spec__:shared#opaque")), (kE P "compile" 253 (.builtin "_sre.compile")), (kE P "template" 254 (.builtin "off-the-table:_sre.template:shared#opaque")), (kE P "getcodesize" 255 (.builtin "off-the-table:_sre.getcodesize:shared#opaque")), (kE P "ascii_iscased" 256 (.builtin "off-the-table:_sre.ascii_iscased:shared#opaque")), (kE P "unicode_iscased" 257 (.builtin "off-the-table:_sre.unicode_iscased:shared#opaque")), (kE P "ascii_tolower" 258 (.builtin "off-the-table:_sre.ascii_tolower:shared#opaque")), (kE P "unicode_tolower" 259 (.builtin "off-the-table:_sre.unicode_tolower:shared#opaque")), (kE P "MAGIC" 261 (.int 20230612 260)), (kE P "CODESIZE" 263 (.int 4 262)), (kE P "MAXREPEAT" 265 (.int 4294967295 264)), (kE P "MAXGROUPS" 267 (.int 1073741823 266)), (kE P "copyright" 269 (.str " SRE 2.2.2 Copyright (c) 1997-2002 by Secret Labs AB " 268))] 17) #[])
noncomputable def hdOa29 (P : Params) : Obj := (.mk .none none (.fields #[]) #[])
noncomputable def hdOa30 : Obj := (.mk (.type "code") none (.fields #[(.str "<module>" 277), (.str "<module>" 278), (.str "/claim/cut.py" 279), (.int 1 0), (.int 0 0), (.int 0 0), (.int 0 0), (.int 0 0), (.ref 28), (.bool false), (.int 276 0), (.ref 29), .none, .none, .none, .none, (.int 280 0), (.int 1 0), (.str "/claim/cut.py" 281)]) #[])
noncomputable def hdOa31 : Obj := (.mk (.type "frame") none .plain #[(some (.ref 30)), (some (.ref 3)), (some (.ref 3)), none, (some (.str "__main__" 164)), none, (some (.ref 0))])
noncomputable def hdOc3 : Obj := (.mk (.type "dict") none (.dict #[(kE P "__name__" 165 (.str "__main__" 164)), (kE P "__doc__" 166 .none), (kE P "__package__" 167 .none), (kE P "__loader__" 168 (.builtin "__main__.__loader__#opaque")), (kE P "__spec__" 169 .none), (kE P "__annotations__" 170 (.ref 6)), (kE P "__builtins__" 171 (.ref 4)), (kE P "__file__" 173 (.str "/claim/cut.py" 172)), (kE P "__cached__" 174 .none), (kE P "_sre" 275 (.ref 12)), (kE P "CRLF" 283 (.str "\x0d\n" 282)), (kE P "NL" 285 (.str "\n" 284)), (kE P "_QUOPRI_MAP" 1313 (.ref 34))] 13) #[])
noncomputable def hdOc32 : Obj := (.mk (.type "range") none (.fields #[(.int 0 287), (.int 256 286), (.int 1 288)]) #[])
noncomputable def hdOc33 : Obj := (.mk (.type "range_iterator") none (.fields #[(.int 256 0), (.int 0 0), (.int 1 0)]) #[])
noncomputable def hdOc34 : Obj := (.mk (.type "list") none (.seq #[(.str "=00" 292), (.str "=01" 296), (.str "=02" 300), (.str "=03" 304), (.str "=04" 308), (.str "=05" 312), (.str "=06" 316), (.str "=07" 320), (.str "=08" 324), (.str "=09" 328), (.str "=0A" 332), (.str "=0B" 336), (.str "=0C" 340), (.str "=0D" 344), (.str "=0E" 348), (.str "=0F" 352), (.str "=10" 356), (.str "=11" 360), (.str "=12" 364), (.str "=13" 368), (.str "=14" 372), (.str "=15" 376), (.str "=16" 380), (.str "=17" 384), (.str "=18" 388), (.str "=19" 392), (.str "=1A" 396), (.str "=1B" 400), (.str "=1C" 404), (.str "=1D" 408), (.str "=1E" 412), (.str "=1F" 416), (.str "=20" 420), (.str "=21" 424), (.str "=22" 428), (.str "=23" 432), (.str "=24" 436), (.str "=25" 440), (.str "=26" 444), (.str "=27" 448), (.str "=28" 452), (.str "=29" 456), (.str "=2A" 460), (.str "=2B" 464), (.str "=2C" 468), (.str "=2D" 472), (.str "=2E" 476), (.str "=2F" 480), (.str "=30" 484), (.str "=31" 488), (.str "=32" 492), (.str "=33" 496), (.str "=34" 500), (.str "=35" 504), (.str "=36" 508), (.str "=37" 512), (.str "=38" 516), (.str "=39" 520), (.str "=3A" 524), (.str "=3B" 528), (.str "=3C" 532), (.str "=3D" 536), (.str "=3E" 540), (.str "=3F" 544), (.str "=40" 548), (.str "=41" 552), (.str "=42" 556), (.str "=43" 560), (.str "=44" 564), (.str "=45" 568), (.str "=46" 572), (.str "=47" 576), (.str "=48" 580), (.str "=49" 584), (.str "=4A" 588), (.str "=4B" 592), (.str "=4C" 596), (.str "=4D" 600), (.str "=4E" 604), (.str "=4F" 608), (.str "=50" 612), (.str "=51" 616), (.str "=52" 620), (.str "=53" 624), (.str "=54" 628), (.str "=55" 632), (.str "=56" 636), (.str "=57" 640), (.str "=58" 644), (.str "=59" 648), (.str "=5A" 652), (.str "=5B" 656), (.str "=5C" 660), (.str "=5D" 664), (.str "=5E" 668), (.str "=5F" 672), (.str "=60" 676), (.str "=61" 680), (.str "=62" 684), (.str "=63" 688), (.str "=64" 692), (.str "=65" 696), (.str "=66" 700), (.str "=67" 704), (.str "=68" 708), (.str "=69" 712), (.str "=6A" 716), (.str "=6B" 720), (.str "=6C" 724), (.str "=6D" 728), (.str "=6E" 732), (.str "=6F" 736), (.str "=70" 740), (.str "=71" 744), (.str "=72" 748), (.str "=73" 752), (.str "=74" 756), (.str "=75" 760), (.str "=76" 764), (.str "=77" 768), (.str "=78" 772), (.str "=79" 776), (.str "=7A" 780), (.str "=7B" 784), (.str "=7C" 788), (.str "=7D" 792), (.str "=7E" 796), (.str "=7F" 800), (.str "=80" 804), (.str "=81" 808), (.str "=82" 812), (.str "=83" 816), (.str "=84" 820), (.str "=85" 824), (.str "=86" 828), (.str "=87" 832), (.str "=88" 836), (.str "=89" 840), (.str "=8A" 844), (.str "=8B" 848), (.str "=8C" 852), (.str "=8D" 856), (.str "=8E" 860), (.str "=8F" 864), (.str "=90" 868), (.str "=91" 872), (.str "=92" 876), (.str "=93" 880), (.str "=94" 884), (.str "=95" 888), (.str "=96" 892), (.str "=97" 896), (.str "=98" 900), (.str "=99" 904), (.str "=9A" 908), (.str "=9B" 912), (.str "=9C" 916), (.str "=9D" 920), (.str "=9E" 924), (.str "=9F" 928), (.str "=A0" 932), (.str "=A1" 936), (.str "=A2" 940), (.str "=A3" 944), (.str "=A4" 948), (.str "=A5" 952), (.str "=A6" 956), (.str "=A7" 960), (.str "=A8" 964), (.str "=A9" 968), (.str "=AA" 972), (.str "=AB" 976), (.str "=AC" 980), (.str "=AD" 984), (.str "=AE" 988), (.str "=AF" 992), (.str "=B0" 996), (.str "=B1" 1000), (.str "=B2" 1004), (.str "=B3" 1008), (.str "=B4" 1012), (.str "=B5" 1016), (.str "=B6" 1020), (.str "=B7" 1024), (.str "=B8" 1028), (.str "=B9" 1032), (.str "=BA" 1036), (.str "=BB" 1040), (.str "=BC" 1044), (.str "=BD" 1048), (.str "=BE" 1052), (.str "=BF" 1056), (.str "=C0" 1060), (.str "=C1" 1064), (.str "=C2" 1068), (.str "=C3" 1072), (.str "=C4" 1076), (.str "=C5" 1080), (.str "=C6" 1084), (.str "=C7" 1088), (.str "=C8" 1092), (.str "=C9" 1096), (.str "=CA" 1100), (.str "=CB" 1104), (.str "=CC" 1108), (.str "=CD" 1112), (.str "=CE" 1116), (.str "=CF" 1120), (.str "=D0" 1124), (.str "=D1" 1128), (.str "=D2" 1132), (.str "=D3" 1136), (.str "=D4" 1140), (.str "=D5" 1144), (.str "=D6" 1148), (.str "=D7" 1152), (.str "=D8" 1156), (.str "=D9" 1160), (.str "=DA" 1164), (.str "=DB" 1168), (.str "=DC" 1172), (.str "=DD" 1176), (.str "=DE" 1180), (.str "=DF" 1184), (.str "=E0" 1188), (.str "=E1" 1192), (.str "=E2" 1196), (.str "=E3" 1200), (.str "=E4" 1204), (.str "=E5" 1208), (.str "=E6" 1212), (.str "=E7" 1216), (.str "=E8" 1220), (.str "=E9" 1224), (.str "=EA" 1228), (.str "=EB" 1232), (.str "=EC" 1236), (.str "=ED" 1240), (.str "=EE" 1244), (.str "=EF" 1248), (.str "=F0" 1252), (.str "=F1" 1256), (.str "=F2" 1260), (.str "=F3" 1264), (.str "=F4" 1268), (.str "=F5" 1272), (.str "=F6" 1276), (.str "=F7" 1280), (.str "=F8" 1284), (.str "=F9" 1288), (.str "=FA" 1292), (.str "=FB" 1296), (.str "=FC" 1300), (.str "=FD" 1304), (.str "=FE" 1308), (.str "=FF" 1312)] 256) #[])
noncomputable def hdOc35 : Obj := (.mk (.type "dict") none (.dict #[] 2) #[])
noncomputable def hdOc37 : Obj := (.mk (.type "StopIteration") none (.fields #[(.ref 36), .none, .none, .none, (.bool false), .none]) #[])
noncomputable def hdOd3 : Obj := (.mk (.type "dict") none (.dict #[(kE P "__name__" 165 (.str "cpy313.email.quoprimime" 1329)), (kE P "__doc__" 166 .none), (kE P "__package__" 167 .none), (kE P "__loader__" 168 (.builtin "__main__.__loader__#opaque")), (kE P "__spec__" 169 .none), (kE P "__annotations__" 170 (.ref 6)), (kE P "__builtins__" 171 (.ref 4)), (kE P "__file__" 173 (.str "/claim/cut.py" 172)), (kE P "__cached__" 174 .none), (kE P "_sre" 275 (.ref 12)), (kE P "CRLF" 283 (.str "\x0d\n" 282)), (kE P "NL" 285 (.str "\n" 284)), (kE P "_QUOPRI_MAP" 1313 (.ref 34)), (kE P "_QUOPRI_HEADER_MAP" 1314 (.ref 39)), (kE P "_QUOPRI_BODY_MAP" 1315 (.ref 41)), (kE P "ascii_lowercase" 1317 (.str "abcdefghijklmnopqrstuvwxyz" 1316)), (kE P "ascii_uppercase" 1319 (.str "ABCDEFGHIJKLMNOPQRSTUVWXYZ" 1318)), (kE P "ascii_letters" 1321 (.str "abcdefghijklmnopqrstuvwxyzABCDEFGHIJKLMNOPQRSTUVWXYZ" 1320)), (kE P "digits" 1323 (.str "0123456789" 1322)), (kE P "hexdigits" 1328 (.str "0123456789abcdefABCDEF" 1327)), (kE P "c" 1339 (.int 9 1825))] 21) #[])
noncomputable def hdOd38 : Obj := (.mk (.type "slice") none (.fields #[.none, .none, .none]) #[])
noncomputable def hdOd39 : Obj := (.mk (.type "list") none (.seq #[(.str "=00" 292), (.str "=01" 296), (.str "=02" 300), (.str "=03" 304), (.str "=04" 308), (.str "=05" 312), (.str "=06" 316), (.str "=07" 320), (.str "=08" 324), (.str "=09" 328), (.str "=0A" 332), (.str "=0B" 336), (.str "=0C" 340), (.str "=0D" 344), (.str "=0E" 348), (.str "=0F" 352), (.str "=10" 356), (.str "=11" 360), (.str "=12" 364), (.str "=13" 368), (.str "=14" 372), (.str "=15" 376), (.str "=16" 380), (.str "=17" 384), (.str "=18" 388), (.str "=19" 392), (.str "=1A" 396), (.str "=1B" 400), (.str "=1C" 404), (.str "=1D" 408), (.str "=1E" 412), (.str "=1F" 416), (.str "_" 1539), (.str "!" 1343), (.str "=22" 428), (.str "=23" 432), (.str "=24" 436), (.str "=25" 440), (.str "=26" 444), (.str "=27" 448), (.str "=28" 452), (.str "=29" 456), (.str "*" 1346), (.str "+" 1349), (.str "=2C" 468), (.str "-" 1340), (.str "=2E" 476), (.str "/" 1352), (.str "0" 1511), (.str "1" 1514), (.str "2" 1517), (.str "3" 1520), (.str "4" 1523), (.str "5" 1526), (.str "6" 1529), (.str "7" 1532), (.str "8" 1535), (.str "9" 1538), (.str "=3A" 524), (.str "=3B" 528), (.str "=3C" 532), (.str "=3D" 536), (.str "=3E" 540), (.str "=3F" 544), (.str "=40" 548), (.str "A" 1433), (.str "B" 1436), (.str "C" 1439), (.str "D" 1442), (.str "E" 1445), (.str "F" 1448), (.str "G" 1451), (.str "H" 1454), (.str "I" 1457), (.str "J" 1460), (.str "K" 1463), (.str "L" 1466), (.str "M" 1469), (.str "N" 1472), (.str "O" 1475), (.str "P" 1478), (.str "Q" 1481), (.str "R" 1484), (.str "S" 1487), (.str "T" 1490), (.str "U" 1493), (.str "V" 1496), (.str "W" 1499), (.str "X" 1502), (.str "Y" 1505), (.str "Z" 1508), (.str "=5B" 656), (.str "=5C" 660), (.str "=5D" 664), (.str "=5E" 668), (.str "=5F" 672), (.str "=60" 676), (.str "a" 1355), (.str "b" 1358), (.str "c" 1361), (.str "d" 1364), (.str "e" 1367), (.str "f" 1370), (.str "g" 1373), (.str "h" 1376), (.str "i" 1379), (.str "j" 1382), (.str "k" 1385), (.str "l" 1388), (.str "m" 1391), (.str "n" 1394), (.str "o" 1397), (.str "p" 1400), (.str "q" 1403), (.str "r" 1406), (.str "s" 1409), (.str "t" 1412), (.str "u" 1415), (.str "v" 1418), (.str "w" 1421), (.str "x" 1424), (.str "y" 1427), (.str "z" 1430), (.str "=7B" 784), (.str "=7C" 788), (.str "=7D" 792), (.str "=7E" 796), (.str "=7F" 800), (.str "=80" 804), (.str "=81" 808), (.str "=82" 812), (.str "=83" 816), (.str "=84" 820), (.str "=85" 824), (.str "=86" 828), (.str "=87" 832), (.str "=88" 836), (.str "=89" 840), (.str "=8A" 844), (.str "=8B" 848), (.str "=8C" 852), (.str "=8D" 856), (.str "=8E" 860), (.str "=8F" 864), (.str "=90" 868), (.str "=91" 872), (.str "=92" 876), (.str "=93" 880), (.str "=94" 884), (.str "=95" 888), (.str "=96" 892), (.str "=97" 896), (.str "=98" 900), (.str "=99" 904), (.str "=9A" 908), (.str "=9B" 912), (.str "=9C" 916), (.str "=9D" 920), (.str "=9E" 924), (.str "=9F" 928), (.str "=A0" 932), (.str "=A1" 936), (.str "=A2" 940), (.str "=A3" 944), (.str "=A4" 948), (.str "=A5" 952), (.str "=A6" 956), (.str "=A7" 960), (.str "=A8" 964), (.str "=A9" 968), (.str "=AA" 972), (.str "=AB" 976), (.str "=AC" 980), (.str "=AD" 984), (.str "=AE" 988), (.str "=AF" 992), (.str "=B0" 996), (.str "=B1" 1000), (.str "=B2" 1004), (.str "=B3" 1008), (.str "=B4" 1012), (.str "=B5" 1016), (.str "=B6" 1020), (.str "=B7" 1024), (.str "=B8" 1028), (.str "=B9" 1032), (.str "=BA" 1036), (.str "=BB" 1040), (.str "=BC" 1044), (.str "=BD" 1048), (.str "=BE" 1052), (.str "=BF" 1056), (.str "=C0" 1060), (.str "=C1" 1064), (.str "=C2" 1068), (.str "=C3" 1072), (.str "=C4" 1076), (.str "=C5" 1080), (.str "=C6" 1084), (.str "=C7" 1088), (.str "=C8" 1092), (.str "=C9" 1096), (.str "=CA" 1100), (.str "=CB" 1104), (.str "=CC" 1108), (.str "=CD" 1112), (.str "=CE" 1116), (.str "=CF" 1120), (.str "=D0" 1124), (.str "=D1" 1128), (.str "=D2" 1132), (.str "=D3" 1136), (.str "=D4" 1140), (.str "=D5" 1144), (.str "=D6" 1148), (.str "=D7" 1152), (.str "=D8" 1156), (.str "=D9" 1160), (.str "=DA" 1164), (.str "=DB" 1168), (.str "=DC" 1172), (.str "=DD" 1176), (.str "=DE" 1180), (.str "=DF" 1184), (.str "=E0" 1188), (.str "=E1" 1192), (.str "=E2" 1196), (.str "=E3" 1200), (.str "=E4" 1204), (.str "=E5" 1208), (.str "=E6" 1212), (.str "=E7" 1216), (.str "=E8" 1220), (.str "=E9" 1224), (.str "=EA" 1228), (.str "=EB" 1232), (.str "=EC" 1236), (.str "=ED" 1240), (.str "=EE" 1244), (.str "=EF" 1248), (.str "=F0" 1252), (.str "=F1" 1256), (.str "=F2" 1260), (.str "=F3" 1264), (.str "=F4" 1268), (.str "=F5" 1272), (.str "=F6" 1276), (.str "=F7" 1280), (.str "=F8" 1284), (.str "=F9" 1288), (.str "=FA" 1292), (.str "=FB" 1296), (.str "=FC" 1300), (.str "=FD" 1304), (.str "=FE" 1308), (.str "=FF" 1312)] 0) #[])
noncomputable def hdOd41 : Obj := (.mk (.type "list") none (.seq #[(.str "=00" 292), (.str "=01" 296), (.str "=02" 300), (.str "=03" 304), (.str "=04" 308), (.str "=05" 312), (.str "=06" 316), (.str "=07" 320), (.str "=08" 324), (.str "\t" 1827), (.str "=0A" 332), (.str "=0B" 336), (.str "=0C" 340), (.str "=0D" 344), (.str "=0E" 348), (.str "=0F" 352), (.str "=10" 356), (.str "=11" 360), (.str "=12" 364), (.str "=13" 368), (.str "=14" 372), (.str "=15" 376), (.str "=16" 380), (.str "=17" 384), (.str "=18" 388), (.str "=19" 392), (.str "=1A" 396), (.str "=1B" 400), (.str "=1C" 404), (.str "=1D" 408), (.str "=1E" 412), (.str "=1F" 416), (.str " " 1545), (.str "!" 1548), (.str "\"" 1551), (.str "#" 1554), (.str "$" 1557), (.str "%" 1560), (.str "&" 1563), (.str "'" 1566), (.str "(" 1569), (.str ")" 1572), (.str "*" 1575), (.str "+" 1578), (.str "," 1581), (.str "-" 1584), (.str "." 1587), (.str "/" 1590), (.str "0" 1593), (.str "1" 1596), (.str "2" 1599), (.str "3" 1602), (.str "4" 1605), (.str "5" 1608), (.str "6" 1611), (.str "7" 1614), (.str "8" 1617), (.str "9" 1620), (.str ":" 1623), (.str ";" 1626), (.str "<" 1629), (.str "=3D" 536), (.str ">" 1632), (.str "?" 1635), (.str "@" 1638), (.str "A" 1641), (.str "B" 1644), (.str "C" 1647), (.str "D" 1650), (.str "E" 1653), (.str "F" 1656), (.str "G" 1659), (.str "H" 1662), (.str "I" 1665), (.str "J" 1668), (.str "K" 1671), (.str "L" 1674), (.str "M" 1677), (.str "N" 1680), (.str "O" 1683), (.str "P" 1686), (.str "Q" 1689), (.str "R" 1692), (.str "S" 1695), (.str "T" 1698), (.str "U" 1701), (.str "V" 1704), (.str "W" 1707), (.str "X" 1710), (.str "Y" 1713), (.str "Z" 1716), (.str "[" 1719), (.str "\\" 1722), (.str "]" 1725), (.str "^" 1728), (.str "_" 1731), (.str "`" 1734), (.str "a" 1737), (.str "b" 1740), (.str "c" 1743), (.str "d" 1746), (.str "e" 1749), (.str "f" 1752), (.str "g" 1755), (.str "h" 1758), (.str "i" 1761), (.str "j" 1764), (.str "k" 1767), (.str "l" 1770), (.str "m" 1773), (.str "n" 1776), (.str "o" 1779), (.str "p" 1782), (.str "q" 1785), (.str "r" 1788), (.str "s" 1791), (.str "t" 1794), (.str "u" 1797), (.str "v" 1800), (.str "w" 1803), (.str "x" 1806), (.str "y" 1809), (.str "z" 1812), (.str "{" 1815), (.str "|" 1818), (.str "}" 1821), (.str "~" 1824), (.str "=7F" 800), (.str "=80" 804), (.str "=81" 808), (.str "=82" 812), (.str "=83" 816), (.str "=84" 820), (.str "=85" 824), (.str "=86" 828), (.str "=87" 832), (.str "=88" 836), (.str "=89" 840), (.str "=8A" 844), (.str "=8B" 848), (.str "=8C" 852), (.str "=8D" 856), (.str "=8E" 860), (.str "=8F" 864), (.str "=90" 868), (.str "=91" 872), (.str "=92" 876), (.str "=93" 880), (.str "=94" 884), (.str "=95" 888), (.str "=96" 892), (.str "=97" 896), (.str "=98" 900), (.str "=99" 904), (.str "=9A" 908), (.str "=9B" 912), (.str "=9C" 916), (.str "=9D" 920), (.str "=9E" 924), (.str "=9F" 928), (.str "=A0" 932), (.str "=A1" 936), (.str "=A2" 940), (.str "=A3" 944), (.str "=A4" 948), (.str "=A5" 952), (.str "=A6" 956), (.str "=A7" 960), (.str "=A8" 964), (.str "=A9" 968), (.str "=AA" 972), (.str "=AB" 976), (.str "=AC" 980), (.str "=AD" 984), (.str "=AE" 988), (.str "=AF" 992), (.str "=B0" 996), (.str "=B1" 1000), (.str "=B2" 1004), (.str "=B3" 1008), (.str "=B4" 1012), (.str "=B5" 1016), (.str "=B6" 1020), (.str "=B7" 1024), (.str "=B8" 1028), (.str "=B9" 1032), (.str "=BA" 1036), (.str "=BB" 1040), (.str "=BC" 1044), (.str "=BD" 1048), (.str "=BE" 1052), (.str "=BF" 1056), (.str "=C0" 1060), (.str "=C1" 1064), (.str "=C2" 1068), (.str "=C3" 1072), (.str "=C4" 1076), (.str "=C5" 1080), (.str "=C6" 1084), (.str "=C7" 1088), (.str "=C8" 1092), (.str "=C9" 1096), (.str "=CA" 1100), (.str "=CB" 1104), (.str "=CC" 1108), (.str "=CD" 1112), (.str "=CE" 1116), (.str "=CF" 1120), (.str "=D0" 1124), (.str "=D1" 1128), (.str "=D2" 1132), (.str "=D3" 1136), (.str "=D4" 1140), (.str "=D5" 1144), (.str "=D6" 1148), (.str "=D7" 1152), (.str "=D8" 1156), (.str "=D9" 1160), (.str "=DA" 1164), (.str "=DB" 1168), (.str "=DC" 1172), (.str "=DD" 1176), (.str "=DE" 1180), (.str "=DF" 1184), (.str "=E0" 1188), (.str "=E1" 1192), (.str "=E2" 1196), (.str "=E3" 1200), (.str "=E4" 1204), (.str "=E5" 1208), (.str "=E6" 1212), (.str "=E7" 1216), (.str "=E8" 1220), (.str "=E9" 1224), (.str "=EA" 1228), (.str "=EB" 1232), (.str "=EC" 1236), (.str "=ED" 1240), (.str "=EE" 1244), (.str "=EF" 1248), (.str "=F0" 1252), (.str "=F1" 1256), (.str "=F2" 1260), (.str "=F3" 1264), (.str "=F4" 1268), (.str "=F5" 1272), (.str "=F6" 1276), (.str "=F7" 1280), (.str "=F8" 1284), (.str "=F9" 1288), (.str "=FA" 1292), (.str "=FB" 1296), (.str "=FC" 1300), (.str "=FD" 1304), (.str "=FE" 1308), (.str "=FF" 1312)] 0) #[])
noncomputable def hdOd42 : Obj := (.mk (.type "bytes_iterator") none (.fields #[.none, (.int 67 0)]) #[])
noncomputable def hdOd44 : Obj := (.mk (.type "StopIteration") none (.fields #[(.ref 43), .none, .none, .none, (.bool false), .none]) #[])
noncomputable def hdOd45 : Obj := (.mk (.type "bytes_iterator") none (.fields #[.none, (.int 95 0)]) #[])
noncomputable def hdOd47 : Obj := (.mk (.type "StopIteration") none (.fields #[(.ref 46), .none, .none, .none, (.bool false), .none]) #[])
noncomputable def hdOf3 : Obj := (.mk (.type "dict") none (.dict #[(kE P "__name__" 165 (.str "re" 1932)), (kE P "__doc__" 166 .none), (kE P "__package__" 167 .none), (kE P "__loader__" 168 (.builtin "__main__.__loader__#opaque")), (kE P "__spec__" 169 .none), (kE P "__annotations__" 170 (.ref 6)), (kE P "__builtins__" 171 (.ref 4)), (kE P "__file__" 173 (.str "/claim/cut.py" 172)), (kE P "__cached__" 174 .none), (kE P "_sre" 275 (.ref 12)), (kE P "CRLF" 283 (.str "\x0d\n" 282)), (kE P "NL" 285 (.str "\n" 284)), (kE P "_QUOPRI_MAP" 1313 (.ref 34)), (kE P "_QUOPRI_HEADER_MAP" 1314 (.ref 39)), (kE P "_QUOPRI_BODY_MAP" 1315 (.ref 41)), (kE P "ascii_lowercase" 1317 (.str "abcdefghijklmnopqrstuvwxyz" 1316)), (kE P "ascii_uppercase" 1319 (.str "ABCDEFGHIJKLMNOPQRSTUVWXYZ" 1318)), (kE P "ascii_letters" 1321 (.str "abcdefghijklmnopqrstuvwxyzABCDEFGHIJKLMNOPQRSTUVWXYZ" 1320)), (kE P "digits" 1323 (.str "0123456789" 1322)), (kE P "hexdigits" 1328 (.str "0123456789abcdefABCDEF" 1327)), (kE P "unquote" 1834 (.ref 54)), (kE P "quote" 1841 (.ref 61)), (kE P "_QUOPRI_BODY_ENCODE_MAP" 1842 (.ref 63)), (kE P "body_encode" 1869 (.ref 74)), (kE P "decode" 1882 (.ref 82)), (kE P "_twin_re_1" 1922 (.ref 87)), (kE P "translate" 1931 (.ref 94)), (kE P "_special_chars_map" 2079 (.ref 96))] 30) #[])
noncomputable def hdOf29 : Obj := (.mk .none none (.fields #[(.int 18 0), (.int 0 0), (.ref 53), (.int 20 0), (.int 0 0), (.ref 60), (.int 26 0), (.int 0 0), (.ref 73), (.int 64 0), (.int 0 0), (.ref 81), (.int 96 0), (.int 0 0), (.ref 93)]) #[])
noncomputable def hdOf50 : Obj := (.mk (.type "tuple") none (.seq #[(.str "s" 1831)] 0) #[])
noncomputable def hdOf52 : Obj := (.mk .none none (.func (.mk "unquote" "unquote" (.mk [] [(.mk "s" none (.mk 18 12 18 13))] none [] [] none []) (.stmts (fBody 15)) (fScope 15) 0 [] .none .none .none .none none .none .none 0)) #[])
noncomputable def hdOf53 : Obj := (.mk (.type "code") none (.fields #[(.str "unquote" 1828), (.str "unquote" 1829), (.str "/claim/cut.py" 1830), (.int 18 0), (.int 1 0), (.int 0 0), (.int 0 0), (.int 3 0), (.ref 48), (.bool true), (.int 276 0), (.ref 49), .none, (.ref 50), (.ref 51), (.ref 52), (.int 1832 0), (.int 18 0), (.str "/claim/cut.py" 1833)]) #[])
noncomputable def hdOf54 : Obj := (.mk (.type "function") none (.func (.mk "unquote" "unquote" (.mk [] [(.mk "s" none (.mk 18 12 18 13))] none [] [] none []) (.stmts (fBody 15)) (fScope 15) 3 [] .none .none .none (.str "cpy313.email.quoprimime" 1329) none (.ref 53) .none 0)) #[])
noncomputable def hdOf57 : Obj := (.mk (.type "tuple") none (.seq #[(.str "c" 1838)] 0) #[])
noncomputable def hdOf59 : Obj := (.mk .none none (.func (.mk "quote" "quote" (.mk [] [(.mk "c" none (.mk 20 10 20 11))] none [] [] none []) (.stmts (fBody 16)) (fScope 16) 0 [] .none .none .none .none none .none .none 0)) #[])
noncomputable def hdOf60 : Obj := (.mk (.type "code") none (.fields #[(.str "quote" 1835), (.str "quote" 1836), (.str "/claim/cut.py" 1837), (.int 20 0), (.int 1 0), (.int 0 0), (.int 0 0), (.int 3 0), (.ref 55), (.bool true), (.int 276 0), (.ref 56), .none, (.ref 57), (.ref 58), (.ref 59), (.int 1839 0), (.int 20 0), (.str "/claim/cut.py" 1840)]) #[])
noncomputable def hdOf61 : Obj := (.mk (.type "function") none (.func (.mk "quote" "quote" (.mk [] [(.mk "c" none (.mk 20 10 20 11))] none [] [] none []) (.stmts (fBody 16)) (fScope 16) 3 [] .none .none .none (.str "cpy313.email.quoprimime" 1329) none (.ref 60) .none 0)) #[])
noncomputable def hdOf63 : Obj := (.mk (.type "list") none (.seq #[(.str "=00" 292), (.str "=01" 296), (.str "=02" 300), (.str "=03" 304), (.str "=04" 308), (.str "=05" 312), (.str "=06" 316), (.str "=07" 320), (.str "=08" 324), (.str "\t" 1827), (.str "\n" 1849), (.str "=0B" 336), (.str "=0C" 340), (.str "\x0d" 1846), (.str "=0E" 348), (.str "=0F" 352), (.str "=10" 356), (.str "=11" 360), (.str "=12" 364), (.str "=13" 368), (.str "=14" 372), (.str "=15" 376), (.str "=16" 380), (.str "=17" 384), (.str "=18" 388), (.str "=19" 392), (.str "=1A" 396), (.str "=1B" 400), (.str "=1C" 404), (.str "=1D" 408), (.str "=1E" 412), (.str "=1F" 416), (.str " " 1545), (.str "!" 1548), (.str "\"" 1551), (.str "#" 1554), (.str "$" 1557), (.str "%" 1560), (.str "&" 1563), (.str "'" 1566), (.str "(" 1569), (.str ")" 1572), (.str "*" 1575), (.str "+" 1578), (.str "," 1581), (.str "-" 1584), (.str "." 1587), (.str "/" 1590), (.str "0" 1593), (.str "1" 1596), (.str "2" 1599), (.str "3" 1602), (.str "4" 1605), (.str "5" 1608), (.str "6" 1611), (.str "7" 1614), (.str "8" 1617), (.str "9" 1620), (.str ":" 1623), (.str ";" 1626), (.str "<" 1629), (.str "=3D" 536), (.str ">" 1632), (.str "?" 1635), (.str "@" 1638), (.str "A" 1641), (.str "B" 1644), (.str "C" 1647), (.str "D" 1650), (.str "E" 1653), (.str "F" 1656), (.str "G" 1659), (.str "H" 1662), (.str "I" 1665), (.str "J" 1668), (.str "K" 1671), (.str "L" 1674), (.str "M" 1677), (.str "N" 1680), (.str "O" 1683), (.str "P" 1686), (.str "Q" 1689), (.str "R" 1692), (.str "S" 1695), (.str "T" 1698), (.str "U" 1701), (.str "V" 1704), (.str "W" 1707), (.str "X" 1710), (.str "Y" 1713), (.str "Z" 1716), (.str "[" 1719), (.str "\\" 1722), (.str "]" 1725), (.str "^" 1728), (.str "_" 1731), (.str "`" 1734), (.str "a" 1737), (.str "b" 1740), (.str "c" 1743), (.str "d" 1746), (.str "e" 1749), (.str "f" 1752), (.str "g" 1755), (.str "h" 1758), (.str "i" 1761), (.str "j" 1764), (.str "k" 1767), (.str "l" 1770), (.str "m" 1773), (.str "n" 1776), (.str "o" 1779), (.str "p" 1782), (.str "q" 1785), (.str "r" 1788), (.str "s" 1791), (.str "t" 1794), (.str "u" 1797), (.str "v" 1800), (.str "w" 1803), (.str "x" 1806), (.str "y" 1809), (.str "z" 1812), (.str "{" 1815), (.str "|" 1818), (.str "}" 1821), (.str "~" 1824), (.str "=7F" 800), (.str "=80" 804), (.str "=81" 808), (.str "=82" 812), (.str "=83" 816), (.str "=84" 820), (.str "=85" 824), (.str "=86" 828), (.str "=87" 832), (.str "=88" 836), (.str "=89" 840), (.str "=8A" 844), (.str "=8B" 848), (.str "=8C" 852), (.str "=8D" 856), (.str "=8E" 860), (.str "=8F" 864), (.str "=90" 868), (.str "=91" 872), (.str "=92" 876), (.str "=93" 880), (.str "=94" 884), (.str "=95" 888), (.str "=96" 892), (.str "=97" 896), (.str "=98" 900), (.str "=99" 904), (.str "=9A" 908), (.str "=9B" 912), (.str "=9C" 916), (.str "=9D" 920), (.str "=9E" 924), (.str "=9F" 928), (.str "=A0" 932), (.str "=A1" 936), (.str "=A2" 940), (.str "=A3" 944), (.str "=A4" 948), (.str "=A5" 952), (.str "=A6" 956), (.str "=A7" 960), (.str "=A8" 964), (.str "=A9" 968), (.str "=AA" 972), (.str "=AB" 976), (.str "=AC" 980), (.str "=AD" 984), (.str "=AE" 988), (.str "=AF" 992), (.str "=B0" 996), (.str "=B1" 1000), (.str "=B2" 1004), (.str "=B3" 1008), (.str "=B4" 1012), (.str "=B5" 1016), (.str "=B6" 1020), (.str "=B7" 1024), (.str "=B8" 1028), (.str "=B9" 1032), (.str "=BA" 1036), (.str "=BB" 1040), (.str "=BC" 1044), (.str "=BD" 1048), (.str "=BE" 1052), (.str "=BF" 1056), (.str "=C0" 1060), (.str "=C1" 1064), (.str "=C2" 1068), (.str "=C3" 1072), (.str "=C4" 1076), (.str "=C5" 1080), (.str "=C6" 1084), (.str "=C7" 1088), (.str "=C8" 1092), (.str "=C9" 1096), (.str "=CA" 1100), (.str "=CB" 1104), (.str "=CC" 1108), (.str "=CD" 1112), (.str "=CE" 1116), (.str "=CF" 1120), (.str "=D0" 1124), (.str "=D1" 1128), (.str "=D2" 1132), (.str "=D3" 1136), (.str "=D4" 1140), (.str "=D5" 1144), (.str "=D6" 1148), (.str "=D7" 1152), (.str "=D8" 1156), (.str "=D9" 1160), (.str "=DA" 1164), (.str "=DB" 1168), (.str "=DC" 1172), (.str "=DD" 1176), (.str "=DE" 1180), (.str "=DF" 1184), (.str "=E0" 1188), (.str "=E1" 1192), (.str "=E2" 1196), (.str "=E3" 1200), (.str "=E4" 1204), (.str "=E5" 1208), (.str "=E6" 1212), (.str "=E7" 1216), (.str "=E8" 1220), (.str "=E9" 1224), (.str "=EA" 1228), (.str "=EB" 1232), (.str "=EC" 1236), (.str "=ED" 1240), (.str "=EE" 1244), (.str "=EF" 1248), (.str "=F0" 1252), (.str "=F1" 1256), (.str "=F2" 1260), (.str "=F3" 1264), (.str "=F4" 1268), (.str "=F5" 1272), (.str "=F6" 1276), (.str "=F7" 1280), (.str "=F8" 1284), (.str "=F9" 1288), (.str "=FA" 1292), (.str "=FB" 1296), (.str "=FC" 1300), (.str "=FD" 1304), (.str "=FE" 1308), (.str "=FF" 1312)] 0) #[])
noncomputable def hdOf64 : Obj := (.mk (.type "bytes_iterator") none (.fields #[.none, (.int 2 0)]) #[])
noncomputable def hdOf66 : Obj := (.mk (.type "StopIteration") none (.fields #[(.ref 65), .none, .none, .none, (.bool false), .none]) #[])
noncomputable def hdOf67 : Obj := (.mk (.type "tuple") none (.seq #[(.int 76 1850), (.str "\n" 284)] 0) #[])
noncomputable def hdOf70 : Obj := (.mk (.type "tuple") none (.seq #[(.str "body" 1854), (.str "maxlinelen" 1855), (.str "eol" 1856), (.str "soft_break" 1857), (.str "maxlinelen1" 1858), (.str "encoded_body" 1859), (.str "append" 1860), (.str "line" 1861), (.str "start" 1862), (.str "laststart" 1863), (.str "stop" 1864), (.str "room" 1865), (.str "q" 1866)] 0) #[])
noncomputable def hdOf72 : Obj := (.mk .none none (.func (.mk "body_encode" "body_encode" (.mk [] [(.mk "body" none (.mk 26 16 26 20)), (.mk "maxlinelen" none (.mk 26 22 26 32)), (.mk "eol" none (.mk 26 37 26 40))] none [] [] none [(Expr.Constant (Const.int 76) 0 (.mk 26 33 26 35)), (Expr.Name "NL" (.mk 26 41 26 43))]) (.stmts (fBody 20)) (fScope 20) 0 [] .none .none .none .none none .none .none 0)) #[])
noncomputable def hdOf73 : Obj := (.mk (.type "code") none (.fields #[(.str "body_encode" 1851), (.str "body_encode" 1852), (.str "/claim/cut.py" 1853), (.int 26 0), (.int 3 0), (.int 0 0), (.int 0 0), (.int 3 0), (.ref 68), (.bool true), (.int 276 0), (.ref 69), .none, (.ref 70), (.ref 71), (.ref 72), (.int 1867 0), (.int 26 0), (.str "/claim/cut.py" 1868)]) #[])
noncomputable def hdOf74 : Obj := (.mk (.type "function") none (.func (.mk "body_encode" "body_encode" (.mk [] [(.mk "body" none (.mk 26 16 26 20)), (.mk "maxlinelen" none (.mk 26 22 26 32)), (.mk "eol" none (.mk 26 37 26 40))] none [] [] none [(Expr.Constant (Const.int 76) 0 (.mk 26 33 26 35)), (Expr.Name "NL" (.mk 26 41 26 43))]) (.stmts (fBody 20)) (fScope 20) 3 [] (.ref 67) .none .none (.str "cpy313.email.quoprimime" 1329) none (.ref 73) .none 0)) #[])
noncomputable def hdOf75 : Obj := (.mk (.type "tuple") none (.seq #[(.str "\n" 284)] 0) #[])
noncomputable def hdOf78 : Obj := (.mk (.type "tuple") none (.seq #[(.str "encoded" 1873), (.str "eol" 1874), (.str "decoded" 1875), (.str "line" 1876), (.str "i" 1877), (.str "n" 1878), (.str "c" 1879)] 0) #[])
noncomputable def hdOf80 : Obj := (.mk .none none (.func (.mk "decode" "decode" (.mk [] [(.mk "encoded" none (.mk 64 11 64 18)), (.mk "eol" none (.mk 64 20 64 23))] none [] [] none [(Expr.Name "NL" (.mk 64 24 64 26))]) (.stmts (fBody 21)) (fScope 21) 0 [] .none .none .none .none none .none .none 0)) #[])
noncomputable def hdOf81 : Obj := (.mk (.type "code") none (.fields #[(.str "decode" 1870), (.str "decode" 1871), (.str "/claim/cut.py" 1872), (.int 64 0), (.int 2 0), (.int 0 0), (.int 0 0), (.int 3 0), (.ref 76), (.bool true), (.int 276 0), (.ref 77), .none, (.ref 78), (.ref 79), (.ref 80), (.int 1880 0), (.int 64 0), (.str "/claim/cut.py" 1881)]) #[])
noncomputable def hdOf82 : Obj := (.mk (.type "function") none (.func (.mk "decode" "decode" (.mk [] [(.mk "encoded" none (.mk 64 11 64 18)), (.mk "eol" none (.mk 64 20 64 23))] none [] [] none [(Expr.Name "NL" (.mk 64 24 64 26))]) (.stmts (fBody 21)) (fScope 21) 3 [] (.ref 75) .none .none (.str "cpy313.email.quoprimime" 1329) none (.ref 81) .none 0)) #[])
noncomputable def hdOf83 : Obj := (.mk (.type "list") none (.seq #[(.int 14 1888), (.int 14 1889), (.int 4 1890), (.int 1 1891), (.int 1 1892), (.int 9 1893), (.int 0 1894), (.int 64 1895), (.int 0 1896), (.int 1342177280 1897), (.int 0 1898), (.int 0 1899), (.int 0 1900), (.int 0 1901), (.int 0 1902), (.int 17 1903), (.int 0 1904), (.int 13 1905), (.int 11 1906), (.int 9 1907), (.int 0 1908), (.int 64 1909), (.int 0 1910), (.int 1342177280 1911), (.int 0 1912), (.int 0 1913), (.int 0 1914), (.int 0 1915), (.int 0 1916), (.int 17 1917), (.int 1 1918), (.int 1 1919)] 0) #[])
noncomputable def hdOf84 : Obj := (.mk (.type "dict") none (.dict #[] 0) #[])
noncomputable def hdOf85 : Obj := (.mk (.type "tuple") none (.seq #[.none, .none] 0) #[])
noncomputable def hdOf86 : Obj := (.mk (.type "tuple") none (.seq #[(.int 14 0), (.int 14 0), (.int 4 0), (.int 1 0), (.int 1 0), (.int 9 0), (.int 0 0), (.int 64 0), (.int 0 0), (.int 1342177280 0), (.int 0 0), (.int 0 0), (.int 0 0), (.int 0 0), (.int 0 0), (.int 17 0), (.int 0 0), (.int 13 0), (.int 11 0), (.int 9 0), (.int 0 0), (.int 64 0), (.int 0 0), (.int 1342177280 0), (.int 0 0), (.int 0 0), (.int 0 0), (.int 0 0), (.int 0 0), (.int 17 0), (.int 1 0), (.int 1 0)] 0) #[])
noncomputable def hdOf87 : Obj := (.mk (.type "re.Pattern") none (.fields #[(.str "([&~|])" 1886), (.int 32 1921), (.int 1 0), .none, .none, (.ref 86), (.int 0 0)]) #[])
noncomputable def hdOf90 : Obj := (.mk (.type "tuple") none (.seq #[(.str "pat" 1926), (.str "STAR" 1927), (.str "parts" 1928)] 0) #[])
noncomputable def hdOf92 : Obj := (.mk .none none (.func (.mk "translate" "translate" (.mk [] [(.mk "pat" none (.mk 96 14 96 17))] none [] [] none []) (.stmts (fBody 24)) (fScope 24) 0 [] .none .none .none .none none .none .none 0)) #[])
noncomputable def hdOf93 : Obj := (.mk (.type "code") none (.fields #[(.str "translate" 1923), (.str "translate" 1924), (.str "/claim/cut.py" 1925), (.int 96 0), (.int 1 0), (.int 0 0), (.int 0 0), (.int 3 0), (.ref 88), (.bool true), (.int 276 0), (.ref 89), .none, (.ref 90), (.ref 91), (.ref 92), (.int 1929 0), (.int 96 0), (.str "/claim/cut.py" 1930)]) #[])
noncomputable def hdOf94 : Obj := (.mk (.type "function") none (.func (.mk "translate" "translate" (.mk [] [(.mk "pat" none (.mk 96 14 96 17))] none [] [] none []) (.stmts (fBody 24)) (fScope 24) 3 [] .none .none .none (.str "cpy313.fnmatch" 1883) none (.ref 93) .none 0)) #[])
noncomputable def hdOf95 : Obj := (.mk (.type "bytes_iterator") none (.fields #[.none, (.int 24 0)]) #[])
noncomputable def hdOf96 : Obj := (.mk (.type "dict") none (.dict #[(.mk 40 (.int 40 1935) (.str "\\(" 1939)), (.mk 41 (.int 41 1941) (.str "\\)" 1945)), (.mk 91 (.int 91 1947) (.str "\\[" 1951)), (.mk 93 (.int 93 1953) (.str "\\]" 1957)), (.mk 123 (.int 123 1959) (.str "\\{" 1963)), (.mk 125 (.int 125 1965) (.str "\\}" 1969)), (.mk 63 (.int 63 1971) (.str "\\?" 1975)), (.mk 42 (.int 42 1977) (.str "\\*" 1981)), (.mk 43 (.int 43 1983) (.str "\\+" 1987)), (.mk 45 (.int 45 1989) (.str "\\-" 1993)), (.mk 124 (.int 124 1995) (.str "\\|" 1999)), (.mk 94 (.int 94 2001) (.str "\\^" 2005)), (.mk 36 (.int 36 2007) (.str "\\$" 2011)), (.mk 92 (.int 92 2013) (.str "\\\\" 2017)), (.mk 46 (.int 46 2019) (.str "\\." 2023)), (.mk 38 (.int 38 2025) (.str "\\&" 2029)), (.mk 126 (.int 126 2031) (.str "\\~" 2035)), (.mk 35 (.int 35 2037) (.str "\\#" 2041)), (.mk 32 (.int 32 2043) (.str "\\ " 2047)), (.mk 9 (.int 9 2049) (.str "\\\t" 2053)), (.mk 10 (.int 10 2055) (.str "\\\n" 2059)), (.mk 13 (.int 13 2061) (.str "\\\x0d" 2065)), (.mk 11 (.int 11 2067) (.str "\\\x0b" 2071)), (.mk 12 (.int 12 2073) (.str "\\\x0c" 2077))] 24) #[])
noncomputable def hdOf99 : Obj := (.mk (.type "StopIteration") none (.fields #[(.ref 98), .none, .none, .none, (.bool false), .none]) #[])
noncomputable def hdOg3 : Obj := (.mk (.type "dict") none (.dict #[(kE P "__name__" 165 (.str "law_in0172_01" 2206)), (kE P "__doc__" 166 .none), (kE P "__package__" 167 .none), (kE P "__loader__" 168 (.builtin "__main__.__loader__#opaque")), (kE P "__spec__" 169 .none), (kE P "__annotations__" 170 (.ref 6)), (kE P "__builtins__" 171 (.ref 4)), (kE P "__file__" 173 (.str "/claim/cut.py" 172)), (kE P "__cached__" 174 .none), (kE P "_sre" 275 (.ref 12)), (kE P "CRLF" 283 (.str "\x0d\n" 282)), (kE P "NL" 285 (.str "\n" 284)), (kE P "_QUOPRI_MAP" 1313 (.ref 34)), (kE P "_QUOPRI_HEADER_MAP" 1314 (.ref 39)), (kE P "_QUOPRI_BODY_MAP" 1315 (.ref 41)), (kE P "ascii_lowercase" 1317 (.str "abcdefghijklmnopqrstuvwxyz" 1316)), (kE P "ascii_uppercase" 1319 (.str "ABCDEFGHIJKLMNOPQRSTUVWXYZ" 1318)), (kE P "ascii_letters" 1321 (.str "abcdefghijklmnopqrstuvwxyzABCDEFGHIJKLMNOPQRSTUVWXYZ" 1320)), (kE P "digits" 1323 (.str "0123456789" 1322)), (kE P "hexdigits" 1328 (.str "0123456789abcdefABCDEF" 1327)), (kE P "unquote" 1834 (.ref 54)), (kE P "quote" 1841 (.ref 61)), (kE P "_QUOPRI_BODY_ENCODE_MAP" 1842 (.ref 63)), (kE P "body_encode" 1869 (.ref 74)), (kE P "decode" 1882 (.ref 82)), (kE P "_twin_re_1" 1922 (.ref 87)), (kE P "translate" 1931 (.ref 94)), (kE P "_special_chars_map" 2079 (.ref 96)), (kE P "escape" 2086 (.ref 106)), (kE P "_translate" 2107 (.ref 113)), (kE P "_join_translated_parts" 2120 (.ref 120)), (kE P "S_IFMT" 2129 (.ref 127)), (kE P "S_IFDIR" 2131 (.int 16384 2130)), (kE P "S_IFCHR" 2133 (.int 8192 2132)), (kE P "S_IFBLK" 2135 (.int 24576 2134)), (kE P "S_IFREG" 2137 (.int 32768 2136)), (kE P "S_IFIFO" 2139 (.int 4096 2138)), (kE P "S_IFLNK" 2141 (.int 40960 2140)), (kE P "S_IFSOCK" 2143 (.int 49152 2142)), (kE P "S_ISUID" 2145 (.int 2048 2144)), (kE P "S_ISGID" 2147 (.int 1024 2146)), (kE P "S_ISVTX" 2149 (.int 512 2148)), (kE P "S_IRUSR" 2151 (.int 256 2150)), (kE P "S_IWUSR" 2153 (.int 128 2152)), (kE P "S_IXUSR" 2155 (.int 64 2154)), (kE P "S_IRGRP" 2157 (.int 32 2156)), (kE P "S_IWGRP" 2159 (.int 16 2158)), (kE P "S_IXGRP" 2161 (.int 8 2160)), (kE P "S_IROTH" 2163 (.int 4 2162)), (kE P "S_IWOTH" 2165 (.int 2 2164)), (kE P "S_IXOTH" 2167 (.int 1 2166)), (kE P "_filemode_table" 2193 (.ref 160)), (kE P "filemode" 2205 (.ref 167)), (kE P "_law_listed" 2219 (.ref 174)), (kE P "_law_set" 2225 (.ref 179)), (kE P "_law_read" 2231 (.ref 184)), (kE P "_law_fits" 2241 (.ref 191)), (kE P "_law_takes" 2252 (.ref 198)), (kE P "_law_meant" 2258 (.ref 203)), (kE P "_law_written" 2266 (.ref 210)), (kE P "_law_lines" 2272 (.ref 215)), (kE P "_law_tail" 2278 (.ref 220)), (kE P "_law_pattern" 2284 (.ref 225)), (kE P "_law_groups" 2295 (.ref 232)), (kE P "_law_run" 2301 (.ref 237)), (kE P "law" 2307 (.ref 242))] 68) #[])
noncomputable def hdOg29 : Obj := (.mk .none none (.fields #[(.int 18 0), (.int 0 0), (.ref 53), (.int 20 0), (.int 0 0), (.ref 60), (.int 26 0), (.int 0 0), (.ref 73), (.int 64 0), (.int 0 0), (.ref 81), (.int 96 0), (.int 0 0), (.ref 93), (.int 102 0), (.int 0 0), (.ref 105), (.int 109 0), (.int 0 0), (.ref 112), (.int 171 0), (.int 0 0), (.ref 119), (.int 199 0), (.int 0 0), (.ref 126), (.int 221 0), (.int 0 0), (.ref 166), (.int 239 0), (.int 0 0), (.ref 173), (.int 246 0), (.int 0 0), (.ref 178), (.int 262 0), (.int 0 0), (.ref 183), (.int 294 0), (.int 0 0), (.ref 190), (.int 301 0), (.int 0 0), (.ref 197), (.int 313 0), (.int 0 0), (.ref 202), (.int 321 0), (.int 0 0), (.ref 209), (.int 326 0), (.int 0 0), (.ref 214), (.int 337 0), (.int 0 0), (.ref 219), (.int 340 0), (.int 0 0), (.ref 224), (.int 358 0), (.int 0 0), (.ref 231), (.int 367 0), (.int 0 0), (.ref 236), (.int 386 0), (.int 0 0), (.ref 241)]) #[])
noncomputable def hdOg102 : Obj := (.mk (.type "tuple") none (.seq #[(.str "pattern" 2083)] 0) #[])
noncomputable def hdOg104 : Obj := (.mk .none none (.func (.mk "escape" "escape" (.mk [] [(.mk "pattern" none (.mk 102 11 102 18))] none [] [] none []) (.stmts (fBody 27)) (fScope 27) 0 [] .none .none .none .none none .none .none 0)) #[])
noncomputable def hdOg105 : Obj := (.mk (.type "code") none (.fields #[(.str "escape" 2080), (.str "escape" 2081), (.str "/claim/cut.py" 2082), (.int 102 0), (.int 1 0), (.int 0 0), (.int 0 0), (.int 3 0), (.ref 100), (.bool true), (.int 276 0), (.ref 101), .none, (.ref 102), (.ref 103), (.ref 104), (.int 2084 0), (.int 102 0), (.str "/claim/cut.py" 2085)]) #[])
noncomputable def hdOg106 : Obj := (.mk (.type "function") none (.func (.mk "escape" "escape" (.mk [] [(.mk "pattern" none (.mk 102 11 102 18))] none [] [] none []) (.stmts (fBody 27)) (fScope 27) 3 [] .none .none .none (.str "re" 1932) none (.ref 105) .none 0)) #[])
noncomputable def hdOg109 : Obj := (.mk (.type "tuple") none (.seq #[(.str "pat" 2092), (.str "STAR" 2093), (.str "QUESTION_MARK" 2094), (.str "res" 2095), (.str "add" 2096), (.str "i" 2097), (.str "n" 2098), (.str "c" 2099), (.str "j" 2100), (.str "stuff" 2101), (.str "chunks" 2102), (.str "k" 2103), (.str "chunk" 2104)] 0) #[])
noncomputable def hdOg111 : Obj := (.mk .none none (.func (.mk "_translate" "_translate" (.mk [] [(.mk "pat" none (.mk 109 15 109 18)), (.mk "STAR" none (.mk 109 20 109 24)), (.mk "QUESTION_MARK" none (.mk 109 26 109 39))] none [] [] none []) (.stmts (fBody 29)) (fScope 29) 0 [] .none .none .none .none none .none .none 0)) #[])
noncomputable def hdOg112 (P : Params) : Obj := (.mk (.type "code") none (.fields #[(.str "_translate" 2089), (.str "_translate" 2090), (.str "/claim/cut.py" 2091), (.int 109 0), (.int 3 0), (.int 0 0), (.int 0 0), (.int 3 0), (.ref 107), (.bool true), (.int 276 0), (.ref 108), .none, (.ref 109), (.ref 110), (.ref 111), (.int 2105 0), (.int 109 0), (.str "/claim/cut.py" 2106)]) #[])
noncomputable def hdOg113 : Obj := (.mk (.type "function") none (.func (.mk "_translate" "_translate" (.mk [] [(.mk "pat" none (.mk 109 15 109 18)), (.mk "STAR" none (.mk 109 20 109 24)), (.mk "QUESTION_MARK" none (.mk 109 26 109 39))] none [] [] none []) (.stmts (fBody 29)) (fScope 29) 3 [] .none .none .none (.str "cpy313.fnmatch" 2087) none (.ref 112) .none 0)) #[])
noncomputable def hdOg116 : Obj := (.mk (.type "tuple") none (.seq #[(.str "inp" 2111), (.str "STAR" 2112), (.str "res" 2113), (.str "add" 2114), (.str "i" 2115), (.str "n" 2116), (.str "fixed" 2117)] 0) #[])
noncomputable def hdOg118 : Obj := (.mk .none none (.func (.mk "_join_translated_parts" "_join_translated_parts" (.mk [] [(.mk "inp" none (.mk 171 27 171 30)), (.mk "STAR" none (.mk 171 32 171 36))] none [] [] none []) (.stmts (fBody 30)) (fScope 30) 0 [] .none .none .none .none none .none .none 0)) #[])
noncomputable def hdOg119 : Obj := (.mk (.type "code") none (.fields #[(.str "_join_translated_parts" 2108), (.str "_join_translated_parts" 2109), (.str "/claim/cut.py" 2110), (.int 171 0), (.int 2 0), (.int 0 0), (.int 0 0), (.int 3 0), (.ref 114), (.bool true), (.int 276 0), (.ref 115), .none, (.ref 116), (.ref 117), (.ref 118), (.int 2118 0), (.int 171 0), (.str "/claim/cut.py" 2119)]) #[])
noncomputable def hdOg120 : Obj := (.mk (.type "function") none (.func (.mk "_join_translated_parts" "_join_translated_parts" (.mk [] [(.mk "inp" none (.mk 171 27 171 30)), (.mk "STAR" none (.mk 171 32 171 36))] none [] [] none []) (.stmts (fBody 30)) (fScope 30) 3 [] .none .none .none (.str "cpy313.fnmatch" 2087) none (.ref 119) .none 0)) #[])
noncomputable def hdOg123 : Obj := (.mk (.type "tuple") none (.seq #[(.str "mode" 2126)] 0) #[])
noncomputable def hdOg125 : Obj := (.mk .none none (.func (.mk "S_IFMT" "S_IFMT" (.mk [] [(.mk "mode" none (.mk 199 11 199 15))] none [] [] none []) (.stmts (fBody 32)) (fScope 32) 0 [] .none .none .none .none none .none .none 0)) #[])
noncomputable def hdOg126 : Obj := (.mk (.type "code") none (.fields #[(.str "S_IFMT" 2123), (.str "S_IFMT" 2124), (.str "/claim/cut.py" 2125), (.int 199 0), (.int 1 0), (.int 0 0), (.int 0 0), (.int 3 0), (.ref 121), (.bool true), (.int 276 0), (.ref 122), .none, (.ref 123), (.ref 124), (.ref 125), (.int 2127 0), (.int 199 0), (.str "/claim/cut.py" 2128)]) #[])
noncomputable def hdOg127 : Obj := (.mk (.type "function") none (.func (.mk "S_IFMT" "S_IFMT" (.mk [] [(.mk "mode" none (.mk 199 11 199 15))] none [] [] none []) (.stmts (fBody 32)) (fScope 32) 3 [] .none .none .none (.str "cpy313.stat" 2121) none (.ref 126) .none 0)) #[])
noncomputable def hdOg128 : Obj := (.mk (.type "tuple") none (.seq #[(.int 40960 2140), (.str "l" 2168)] 0) #[])
noncomputable def hdOg129 : Obj := (.mk (.type "tuple") none (.seq #[(.int 49152 2142), (.str "s" 2169)] 0) #[])
noncomputable def hdOg130 : Obj := (.mk (.type "tuple") none (.seq #[(.int 32768 2136), (.str "-" 2170)] 0) #[])
noncomputable def hdOg131 : Obj := (.mk (.type "tuple") none (.seq #[(.int 24576 2134), (.str "b" 2171)] 0) #[])
noncomputable def hdOg132 : Obj := (.mk (.type "tuple") none (.seq #[(.int 16384 2130), (.str "d" 2172)] 0) #[])
noncomputable def hdOg133 : Obj := (.mk (.type "tuple") none (.seq #[(.int 8192 2132), (.str "c" 2173)] 0) #[])
noncomputable def hdOg134 : Obj := (.mk (.type "tuple") none (.seq #[(.int 4096 2138), (.str "p" 2174)] 0) #[])
noncomputable def hdOg135 : Obj := (.mk (.type "tuple") none (.seq #[(.ref 128), (.ref 129), (.ref 130), (.ref 131), (.ref 132), (.ref 133), (.ref 134)] 0) #[])
noncomputable def hdOg136 : Obj := (.mk (.type "tuple") none (.seq #[(.int 256 2150), (.str "r" 2175)] 0) #[])
noncomputable def hdOg137 : Obj := (.mk (.type "tuple") none (.seq #[(.ref 136)] 0) #[])
noncomputable def hdOg138 : Obj := (.mk (.type "tuple") none (.seq #[(.int 128 2152), (.str "w" 2176)] 0) #[])
noncomputable def hdOg139 : Obj := (.mk (.type "tuple") none (.seq #[(.ref 138)] 0) #[])
noncomputable def hdOg140 : Obj := (.mk (.type "tuple") none (.seq #[(.int 2112 2177), (.str "s" 2178)] 0) #[])
noncomputable def hdOg141 : Obj := (.mk (.type "tuple") none (.seq #[(.int 2048 2144), (.str "S" 2179)] 0) #[])
noncomputable def hdOg142 : Obj := (.mk (.type "tuple") none (.seq #[(.int 64 2154), (.str "x" 2180)] 0) #[])
noncomputable def hdOg143 : Obj := (.mk (.type "tuple") none (.seq #[(.ref 140), (.ref 141), (.ref 142)] 0) #[])
noncomputable def hdOg144 : Obj := (.mk (.type "tuple") none (.seq #[(.int 32 2156), (.str "r" 2181)] 0) #[])
noncomputable def hdOg145 : Obj := (.mk (.type "tuple") none (.seq #[(.ref 144)] 0) #[])
noncomputable def hdOg146 : Obj := (.mk (.type "tuple") none (.seq #[(.int 16 2158), (.str "w" 2182)] 0) #[])
noncomputable def hdOg147 : Obj := (.mk (.type "tuple") none (.seq #[(.ref 146)] 0) #[])
noncomputable def hdOg148 : Obj := (.mk (.type "tuple") none (.seq #[(.int 1032 2183), (.str "s" 2184)] 0) #[])
noncomputable def hdOg149 : Obj := (.mk (.type "tuple") none (.seq #[(.int 1024 2146), (.str "S" 2185)] 0) #[])
noncomputable def hdOg150 : Obj := (.mk (.type "tuple") none (.seq #[(.int 8 2160), (.str "x" 2186)] 0) #[])
noncomputable def hdOg151 : Obj := (.mk (.type "tuple") none (.seq #[(.ref 148), (.ref 149), (.ref 150)] 0) #[])
noncomputable def hdOg152 : Obj := (.mk (.type "tuple") none (.seq #[(.int 4 2162), (.str "r" 2187)] 0) #[])
noncomputable def hdOg153 : Obj := (.mk (.type "tuple") none (.seq #[(.ref 152)] 0) #[])
noncomputable def hdOg154 : Obj := (.mk (.type "tuple") none (.seq #[(.int 2 2164), (.str "w" 2188)] 0) #[])
noncomputable def hdOg155 : Obj := (.mk (.type "tuple") none (.seq #[(.ref 154)] 0) #[])
noncomputable def hdOg156 : Obj := (.mk (.type "tuple") none (.seq #[(.int 513 2189), (.str "t" 2190)] 0) #[])
noncomputable def hdOg157 : Obj := (.mk (.type "tuple") none (.seq #[(.int 512 2148), (.str "T" 2191)] 0) #[])
noncomputable def hdOg158 : Obj := (.mk (.type "tuple") none (.seq #[(.int 1 2166), (.str "x" 2192)] 0) #[])
noncomputable def hdOg159 : Obj := (.mk (.type "tuple") none (.seq #[(.ref 156), (.ref 157), (.ref 158)] 0) #[])
noncomputable def hdOg160 : Obj := (.mk (.type "tuple") none (.seq #[(.ref 135), (.ref 137), (.ref 139), (.ref 143), (.ref 145), (.ref 147), (.ref 151), (.ref 153), (.ref 155), (.ref 159)] 0) #[])
noncomputable def hdOg163 : Obj := (.mk (.type "tuple") none (.seq #[(.str "mode" 2197), (.str "perm" 2198), (.str "index" 2199), (.str "table" 2200), (.str "bit" 2201), (.str "char" 2202)] 0) #[])
noncomputable def hdOg165 : Obj := (.mk .none none (.func (.mk "filemode" "filemode" (.mk [] [(.mk "mode" none (.mk 221 13 221 17))] none [] [] none []) (.stmts (fBody 53)) (fScope 53) 0 [] .none .none .none .none none .none .none 0)) #[])
noncomputable def hdOg166 : Obj := (.mk (.type "code") none (.fields #[(.str "filemode" 2194), (.str "filemode" 2195), (.str "/claim/cut.py" 2196), (.int 221 0), (.int 1 0), (.int 0 0), (.int 0 0), (.int 3 0), (.ref 161), (.bool true), (.int 276 0), (.ref 162), .none, (.ref 163), (.ref 164), (.ref 165), (.int 2203 0), (.int 221 0), (.str "/claim/cut.py" 2204)]) #[])
noncomputable def hdOg167 : Obj := (.mk (.type "function") none (.func (.mk "filemode" "filemode" (.mk [] [(.mk "mode" none (.mk 221 13 221 17))] none [] [] none []) (.stmts (fBody 53)) (fScope 53) 3 [] .none .none .none (.str "cpy313.stat" 2121) none (.ref 166) .none 0)) #[])
noncomputable def hdOg170 : Obj := (.mk (.type "tuple") none (.seq #[(.str "mode" 2211), (.str "told" 2212), (.str "k" 2213), (.str "figure" 2214), (.str "above" 2215), (.str "ends" 2216)] 0) #[])
noncomputable def hdOg172 : Obj := (.mk .none none (.func (.mk "_law_listed" "_law_listed" (.mk [] [(.mk "mode" none (.mk 239 16 239 20))] none [] [] none []) (.stmts (fBody 55)) (fScope 55) 0 [] .none .none .none .none none .none .none 0)) #[])
noncomputable def hdOg173 : Obj := (.mk (.type "code") none (.fields #[(.str "_law_listed" 2208), (.str "_law_listed" 2209), (.str "/claim/cut.py" 2210), (.int 239 0), (.int 1 0), (.int 0 0), (.int 0 0), (.int 3 0), (.ref 168), (.bool true), (.int 276 0), (.ref 169), .none, (.ref 170), (.ref 171), (.ref 172), (.int 2217 0), (.int 239 0), (.str "/claim/cut.py" 2218)]) #[])
noncomputable def hdOg174 : Obj := (.mk (.type "function") none (.func (.mk "_law_listed" "_law_listed" (.mk [] [(.mk "mode" none (.mk 239 16 239 20))] none [] [] none []) (.stmts (fBody 55)) (fScope 55) 3 [] .none .none .none (.str "law_in0172_01" 2206) none (.ref 173) .none 0)) #[])
noncomputable def hdOg177 : Obj := (.mk .none none (.func (.mk "_law_set" "_law_set" (.mk [] [(.mk "inside" none (.mk 246 13 246 19))] none [] [] none []) (.stmts (fBody 56)) (fScope 56) 0 [] .none .none .none .none none .none .none 0)) #[])
noncomputable def hdOg178 : Obj := (.mk (.type "code") none (.fields #[(.str "_law_set" 2220), (.str "_law_set" 2221), (.str "/claim/cut.py" 2222), (.int 246 0), (.int 1 0), (.int 0 0), (.int 0 0), (.int 3 0), (.ref 175), (.bool true), (.int 276 0), (.ref 176), .none, .none, .none, (.ref 177), (.int 2223 0), (.int 246 0), (.str "/claim/cut.py" 2224)]) #[])
noncomputable def hdOg179 : Obj := (.mk (.type "function") none (.func (.mk "_law_set" "_law_set" (.mk [] [(.mk "inside" none (.mk 246 13 246 19))] none [] [] none []) (.stmts (fBody 56)) (fScope 56) 3 [] .none .none .none (.str "law_in0172_01" 2206) none (.ref 178) .none 0)) #[])
noncomputable def hdOg182 : Obj := (.mk .none none (.func (.mk "_law_read" "_law_read" (.mk [] [(.mk "told" none (.mk 262 14 262 18))] none [] [] none []) (.stmts (fBody 57)) (fScope 57) 0 [] .none .none .none .none none .none .none 0)) #[])
noncomputable def hdOg183 : Obj := (.mk (.type "code") none (.fields #[(.str "_law_read" 2226), (.str "_law_read" 2227), (.str "/claim/cut.py" 2228), (.int 262 0), (.int 1 0), (.int 0 0), (.int 0 0), (.int 3 0), (.ref 180), (.bool true), (.int 276 0), (.ref 181), .none, .none, .none, (.ref 182), (.int 2229 0), (.int 262 0), (.str "/claim/cut.py" 2230)]) #[])
noncomputable def hdOg184 : Obj := (.mk (.type "function") none (.func (.mk "_law_read" "_law_read" (.mk [] [(.mk "told" none (.mk 262 14 262 18))] none [] [] none []) (.stmts (fBody 57)) (fScope 57) 3 [] .none .none .none (.str "law_in0172_01" 2206) none (.ref 183) .none 0)) #[])
noncomputable def hdOg187 : Obj := (.mk (.type "tuple") none (.seq #[(.str "atoms" 2235), (.str "name" 2236), (.str "at" 2237), (.str "k" 2238)] 0) #[])
noncomputable def hdOg189 : Obj := (.mk .none none (.func (.mk "_law_fits" "_law_fits" (.mk [] [(.mk "atoms" none (.mk 294 14 294 19)), (.mk "name" none (.mk 294 21 294 25)), (.mk "at" none (.mk 294 27 294 29))] none [] [] none []) (.stmts (fBody 58)) (fScope 58) 0 [] .none .none .none .none none .none .none 0)) #[])
noncomputable def hdOg190 : Obj := (.mk (.type "code") none (.fields #[(.str "_law_fits" 2232), (.str "_law_fits" 2233), (.str "/claim/cut.py" 2234), (.int 294 0), (.int 3 0), (.int 0 0), (.int 0 0), (.int 3 0), (.ref 185), (.bool true), (.int 276 0), (.ref 186), .none, (.ref 187), (.ref 188), (.ref 189), (.int 2239 0), (.int 294 0), (.str "/claim/cut.py" 2240)]) #[])
noncomputable def hdOg191 : Obj := (.mk (.type "function") none (.func (.mk "_law_fits" "_law_fits" (.mk [] [(.mk "atoms" none (.mk 294 14 294 19)), (.mk "name" none (.mk 294 21 294 25)), (.mk "at" none (.mk 294 27 294 29))] none [] [] none []) (.stmts (fBody 58)) (fScope 58) 3 [] .none .none .none (.str "law_in0172_01" 2206) none (.ref 190) .none 0)) #[])
noncomputable def hdOg194 : Obj := (.mk (.type "tuple") none (.seq #[(.str "parts" 2245), (.str "name" 2246), (.str "at" 2247), (.str "kind" 2248), (.str "atoms" 2249)] 0) #[])
noncomputable def hdOg196 : Obj := (.mk .none none (.func (.mk "_law_takes" "_law_takes" (.mk [] [(.mk "parts" none (.mk 301 15 301 20)), (.mk "name" none (.mk 301 22 301 26))] none [] [] none []) (.stmts (fBody 59)) (fScope 59) 0 [] .none .none .none .none none .none .none 0)) #[])
noncomputable def hdOg197 : Obj := (.mk (.type "code") none (.fields #[(.str "_law_takes" 2242), (.str "_law_takes" 2243), (.str "/claim/cut.py" 2244), (.int 301 0), (.int 2 0), (.int 0 0), (.int 0 0), (.int 3 0), (.ref 192), (.bool true), (.int 276 0), (.ref 193), .none, (.ref 194), (.ref 195), (.ref 196), (.int 2250 0), (.int 301 0), (.str "/claim/cut.py" 2251)]) #[])
noncomputable def hdOg198 : Obj := (.mk (.type "function") none (.func (.mk "_law_takes" "_law_takes" (.mk [] [(.mk "parts" none (.mk 301 15 301 20)), (.mk "name" none (.mk 301 22 301 26))] none [] [] none []) (.stmts (fBody 59)) (fScope 59) 3 [] .none .none .none (.str "law_in0172_01" 2206) none (.ref 197) .none 0)) #[])
noncomputable def hdOg201 : Obj := (.mk .none none (.func (.mk "_law_meant" "_law_meant" (.mk [] [(.mk "items" none (.mk 313 15 313 20)), (.mk "name" none (.mk 313 22 313 26))] none [] [] none []) (.stmts (fBody 60)) (fScope 60) 0 [] .none .none .none .none none .none .none 0)) #[])
noncomputable def hdOg202 : Obj := (.mk (.type "code") none (.fields #[(.str "_law_meant" 2253), (.str "_law_meant" 2254), (.str "/claim/cut.py" 2255), (.int 313 0), (.int 2 0), (.int 0 0), (.int 0 0), (.int 3 0), (.ref 199), (.bool true), (.int 276 0), (.ref 200), .none, .none, .none, (.ref 201), (.int 2256 0), (.int 313 0), (.str "/claim/cut.py" 2257)]) #[])
noncomputable def hdOg203 : Obj := (.mk (.type "function") none (.func (.mk "_law_meant" "_law_meant" (.mk [] [(.mk "items" none (.mk 313 15 313 20)), (.mk "name" none (.mk 313 22 313 26))] none [] [] none []) (.stmts (fBody 60)) (fScope 60) 3 [] .none .none .none (.str "law_in0172_01" 2206) none (.ref 202) .none 0)) #[])
noncomputable def hdOg206 : Obj := (.mk (.type "tuple") none (.seq #[(.str "sign" 2262), (.str "figures" 2263)] 0) #[])
noncomputable def hdOg208 : Obj := (.mk .none none (.func (.mk "_law_written" "_law_written" (.mk [] [(.mk "sign" none (.mk 321 17 321 21))] none [] [] none []) (.stmts (fBody 61)) (fScope 61) 0 [] .none .none .none .none none .none .none 0)) #[])
noncomputable def hdOg209 : Obj := (.mk (.type "code") none (.fields #[(.str "_law_written" 2259), (.str "_law_written" 2260), (.str "/claim/cut.py" 2261), (.int 321 0), (.int 1 0), (.int 0 0), (.int 0 0), (.int 3 0), (.ref 204), (.bool true), (.int 276 0), (.ref 205), .none, (.ref 206), (.ref 207), (.ref 208), (.int 2264 0), (.int 321 0), (.str "/claim/cut.py" 2265)]) #[])
noncomputable def hdOg210 : Obj := (.mk (.type "function") none (.func (.mk "_law_written" "_law_written" (.mk [] [(.mk "sign" none (.mk 321 17 321 21))] none [] [] none []) (.stmts (fBody 61)) (fScope 61) 3 [] .none .none .none (.str "law_in0172_01" 2206) none (.ref 209) .none 0)) #[])
noncomputable def hdOg213 : Obj := (.mk .none none (.func (.mk "_law_lines" "_law_lines" (.mk [] [(.mk "row" none (.mk 326 15 326 18)), (.mk "room" none (.mk 326 20 326 24))] none [] [] none []) (.stmts (fBody 62)) (fScope 62) 0 [] .none .none .none .none none .none .none 0)) #[])
noncomputable def hdOg214 : Obj := (.mk (.type "code") none (.fields #[(.str "_law_lines" 2267), (.str "_law_lines" 2268), (.str "/claim/cut.py" 2269), (.int 326 0), (.int 2 0), (.int 0 0), (.int 0 0), (.int 3 0), (.ref 211), (.bool true), (.int 276 0), (.ref 212), .none, .none, .none, (.ref 213), (.int 2270 0), (.int 326 0), (.str "/claim/cut.py" 2271)]) #[])
noncomputable def hdOg215 : Obj := (.mk (.type "function") none (.func (.mk "_law_lines" "_law_lines" (.mk [] [(.mk "row" none (.mk 326 15 326 18)), (.mk "room" none (.mk 326 20 326 24))] none [] [] none []) (.stmts (fBody 62)) (fScope 62) 3 [] .none .none .none (.str "law_in0172_01" 2206) none (.ref 214) .none 0)) #[])
noncomputable def hdOg218 : Obj := (.mk .none none (.func (.mk "_law_tail" "_law_tail" (.mk [] [(.mk "x" none (.mk 337 14 337 15))] none [] [] none []) (.stmts (fBody 63)) (fScope 63) 0 [] .none .none .none .none none .none .none 0)) #[])
noncomputable def hdOg219 : Obj := (.mk (.type "code") none (.fields #[(.str "_law_tail" 2273), (.str "_law_tail" 2274), (.str "/claim/cut.py" 2275), (.int 337 0), (.int 1 0), (.int 0 0), (.int 0 0), (.int 3 0), (.ref 216), (.bool true), (.int 276 0), (.ref 217), .none, .none, .none, (.ref 218), (.int 2276 0), (.int 337 0), (.str "/claim/cut.py" 2277)]) #[])
noncomputable def hdOg220 : Obj := (.mk (.type "function") none (.func (.mk "_law_tail" "_law_tail" (.mk [] [(.mk "x" none (.mk 337 14 337 15))] none [] [] none []) (.stmts (fBody 63)) (fScope 63) 3 [] .none .none .none (.str "law_in0172_01" 2206) none (.ref 219) .none 0)) #[])
noncomputable def hdOg223 : Obj := (.mk .none none (.func (.mk "_law_pattern" "_law_pattern" (.mk [] [(.mk "rows" none (.mk 340 17 340 21)), (.mk "x" none (.mk 340 23 340 24))] none [] [] none []) (.stmts (fBody 64)) (fScope 64) 0 [] .none .none .none .none none .none .none 0)) #[])
noncomputable def hdOg224 : Obj := (.mk (.type "code") none (.fields #[(.str "_law_pattern" 2279), (.str "_law_pattern" 2280), (.str "/claim/cut.py" 2281), (.int 340 0), (.int 2 0), (.int 0 0), (.int 0 0), (.int 3 0), (.ref 221), (.bool true), (.int 276 0), (.ref 222), .none, .none, .none, (.ref 223), (.int 2282 0), (.int 340 0), (.str "/claim/cut.py" 2283)]) #[])
noncomputable def hdOg225 : Obj := (.mk (.type "function") none (.func (.mk "_law_pattern" "_law_pattern" (.mk [] [(.mk "rows" none (.mk 340 17 340 21)), (.mk "x" none (.mk 340 23 340 24))] none [] [] none []) (.stmts (fBody 64)) (fScope 64) 3 [] .none .none .none (.str "law_in0172_01" 2206) none (.ref 224) .none 0)) #[])
noncomputable def hdOg228 : Obj := (.mk (.type "tuple") none (.seq #[(.str "lines" 2288), (.str "soft" 2289), (.str "groups" 2290), (.str "going" 2291), (.str "line" 2292)] 0) #[])
noncomputable def hdOg230 : Obj := (.mk .none none (.func (.mk "_law_groups" "_law_groups" (.mk [] [(.mk "lines" none (.mk 358 16 358 21))] none [] [] none []) (.stmts (fBody 65)) (fScope 65) 0 [] .none .none .none .none none .none .none 0)) #[])
noncomputable def hdOg231 : Obj := (.mk (.type "code") none (.fields #[(.str "_law_groups" 2285), (.str "_law_groups" 2286), (.str "/claim/cut.py" 2287), (.int 358 0), (.int 1 0), (.int 0 0), (.int 0 0), (.int 3 0), (.ref 226), (.bool true), (.int 276 0), (.ref 227), .none, (.ref 228), (.ref 229), (.ref 230), (.int 2293 0), (.int 358 0), (.str "/claim/cut.py" 2294)]) #[])
noncomputable def hdOg232 : Obj := (.mk (.type "function") none (.func (.mk "_law_groups" "_law_groups" (.mk [] [(.mk "lines" none (.mk 358 16 358 21))] none [] [] none []) (.stmts (fBody 65)) (fScope 65) 3 [] .none .none .none (.str "law_in0172_01" 2206) none (.ref 231) .none 0)) #[])
noncomputable def hdOg235 : Obj := (.mk .none none (.func (.mk "_law_run" "_law_run" (.mk [] [(.mk "rows" none (.mk 367 13 367 17)), (.mk "asked" none (.mk 367 19 367 24)), (.mk "room" none (.mk 367 26 367 30)), (.mk "end" none (.mk 367 32 367 35)), (.mk "mark" none (.mk 367 37 367 41))] none [] [] none []) (.stmts (fBody 66)) (fScope 66) 0 [] .none .none .none .none none .none .none 0)) #[])
noncomputable def hdOg236 : Obj := (.mk (.type "code") none (.fields #[(.str "_law_run" 2296), (.str "_law_run" 2297), (.str "/claim/cut.py" 2298), (.int 367 0), (.int 5 0), (.int 0 0), (.int 0 0), (.int 3 0), (.ref 233), (.bool true), (.int 276 0), (.ref 234), .none, .none, .none, (.ref 235), (.int 2299 0), (.int 367 0), (.str "/claim/cut.py" 2300)]) #[])
noncomputable def hdOg237 : Obj := (.mk (.type "function") none (.func (.mk "_law_run" "_law_run" (.mk [] [(.mk "rows" none (.mk 367 13 367 17)), (.mk "asked" none (.mk 367 19 367 24)), (.mk "room" none (.mk 367 26 367 30)), (.mk "end" none (.mk 367 32 367 35)), (.mk "mark" none (.mk 367 37 367 41))] none [] [] none []) (.stmts (fBody 66)) (fScope 66) 3 [] .none .none .none (.str "law_in0172_01" 2206) none (.ref 236) .none 0)) #[])
noncomputable def hdOg240 : Obj := (.mk .none none (.func (.mk "law" "law" (.mk [] [(.mk "script" none (.mk 386 8 386 14))] none [] [] none []) (.stmts (fBody 67)) (fScope 67) 0 [] .none .none .none .none none .none .none 0)) #[])
noncomputable def hdOg241 : Obj := (.mk (.type "code") none (.fields #[(.str "law" 2302), (.str "law" 2303), (.str "/claim/cut.py" 2304), (.int 386 0), (.int 1 0), (.int 0 0), (.int 0 0), (.int 3 0), (.ref 238), (.bool true), (.int 276 0), (.ref 239), .none, .none, .none, (.ref 240), (.int 2305 0), (.int 386 0), (.str "/claim/cut.py" 2306)]) #[])
noncomputable def hdOg242 : Obj := (.mk (.type "function") none (.func (.mk "law" "law" (.mk [] [(.mk "script" none (.mk 386 8 386 14))] none [] [] none []) (.stmts (fBody 67)) (fScope 67) 3 [] .none .none .none (.str "law_in0172_01" 2206) none (.ref 241) .none 0)) #[])
noncomputable def hdTe : BT := (.node (boot_o_0 P) (.node (hdOe1 P) (.node (hdOe3 P) (.node (boot_o_7 P) (lf hdOe15) (lf hdOe23)) (.node (hdOe11 P) (lf hdOe19) (lf hdOe27))) (.node (boot_o_5 P) (.node (boot_o_9 P) (lf hdOe17) (lf hdOe25)) (.node (hdOe13 P) (lf (hdOe21 P)) .nil))) (.node (hdOe2 P) (.node (boot_o_4 P) (.node (boot_o_8 P) (lf hdOe16) (lf hdOe24)) (.node hdOe12 (lf (hdOe20 P)) .nil)) (.node (boot_o_6 P) (.node (boot_o_10 P) (lf hdOe18) (lf hdOe26)) (.node hdOe14 (lf hdOe22) .nil))))
noncomputable def hdTs : BT := (.node (boot_o_0 P) (.node (hdOe1 P) (.node (hdOe3 P) (.node (boot_o_7 P) (lf hdOe15) (lf hdOe23)) (.node (hdOs11 P) (lf hdOe19) (lf hdOe27))) (.node (boot_o_5 P) (.node (boot_o_9 P) (lf hdOe17) (lf hdOe25)) (.node (hdOe13 P) (lf (hdOe21 P)) .nil))) (.node (hdOe2 P) (.node (boot_o_4 P) (.node (boot_o_8 P) (lf hdOe16) (lf hdOe24)) (.node hdOe12 (lf (hdOe20 P)) .nil)) (.node (boot_o_6 P) (.node (boot_o_10 P) (lf hdOe18) (lf hdOe26)) (.node hdOe14 (lf hdOe22) .nil))))
noncomputable def hdTa : BT := (.node (boot_o_0 P) (.node (hdOe1 P) (.node (hdOe3 P) (.node (boot_o_7 P) (.node hdOe15 (lf hdOa31) .nil) (lf hdOe23)) (.node (hdOs11 P) (lf hdOe19) (lf hdOe27))) (.node (boot_o_5 P) (.node (boot_o_9 P) (lf hdOe17) (lf hdOe25)) (.node (hdOe13 P) (lf (hdOe21 P)) (lf (hdOa29 P))))) (.node (hdOe2 P) (.node (boot_o_4 P) (.node (boot_o_8 P) (lf hdOe16) (lf hdOe24)) (.node hdOe12 (lf (hdOe20 P)) (lf hdOe15))) (.node (boot_o_6 P) (.node (boot_o_10 P) (lf hdOe18) (lf hdOe26)) (.node hdOe14 (lf hdOe22) (lf hdOa30)))))
noncomputable def hdTb : BT := (.node (boot_o_0 P) (.node (hdOe1 P) (.node (hdOe3 P) (.node (boot_o_7 P) (.node hdOe15 (lf hdOa31) .nil) (lf hdOe23)) (.node (hdOs11 P) (lf hdOe19) (lf hdOe27))) (.node (boot_o_5 P) (.node (boot_o_9 P) (lf hdOe17) (lf hdOe25)) (.node (hdOe13 P) (lf (hdOe21 P)) (lf (hdOa29 P))))) (.node (hdOe2 P) (.node (boot_o_4 P) (.node (boot_o_8 P) (lf hdOe16) (lf hdOe24)) (.node hdOe12 (lf (hdOe20 P)) (lf hdOe15))) (.node (boot_o_6 P) (.node (boot_o_10 P) (lf hdOe18) (lf hdOe26)) (.node hdOe14 (lf hdOe22) (lf hdOa30)))))
noncomputable def hdTc : BT := (.node (boot_o_0 P) (.node (hdOe1 P) (.node (hdOc3 P) (.node (boot_o_7 P) (.node hdOe15 (lf hdOa31) .nil) (lf hdOe23)) (.node (hdOs11 P) (.node hdOe19 (lf hdOc35) .nil) (lf hdOe27))) (.node (boot_o_5 P) (.node (boot_o_9 P) (.node hdOe17 (lf hdOc33) .nil) (lf hdOe25)) (.node (hdOe13 P) (.node (hdOe21 P) (lf hdOc37) .nil) (lf (hdOa29 P))))) (.node (hdOe2 P) (.node (boot_o_4 P) (.node (boot_o_8 P) (.node hdOe16 (lf hdOc32) .nil) (lf hdOe24)) (.node hdOe12 (.node (hdOe20 P) (lf hdOe15) .nil) (lf hdOe15))) (.node (boot_o_6 P) (.node (boot_o_10 P) (.node hdOe18 (lf hdOc34) .nil) (lf hdOe26)) (.node hdOe14 (lf hdOe22) (lf hdOa30)))))
noncomputable def hdTd : BT := (.node (boot_o_0 P) (.node (hdOe1 P) (.node (hdOd3 P) (.node (boot_o_7 P) (.node hdOe15 (lf hdOa31) (lf hdOd47)) (.node hdOe23 (lf hdOd39) .nil)) (.node (hdOs11 P) (.node hdOe19 (lf hdOc35) .nil) (.node hdOe27 (lf hdOe15) .nil))) (.node (boot_o_5 P) (.node (boot_o_9 P) (.node hdOe17 (lf hdOc33) .nil) (.node hdOe25 (lf hdOd41) .nil)) (.node (hdOe13 P) (.node (hdOe21 P) (lf hdOc37) .nil) (.node (hdOa29 P) (lf hdOd45) .nil)))) (.node (hdOe2 P) (.node (boot_o_4 P) (.node (boot_o_8 P) (.node hdOe16 (lf hdOc32) .nil) (.node hdOe24 (lf hdOd38) .nil)) (.node hdOe12 (.node (hdOe20 P) (lf hdOe15) .nil) (.node hdOe15 (lf hdOd44) .nil))) (.node (boot_o_6 P) (.node (boot_o_10 P) (.node hdOe18 (lf hdOc34) .nil) (.node hdOe26 (lf hdOd42) .nil)) (.node hdOe14 (.node hdOe22 (lf hdOd38) .nil) (.node hdOa30 (lf hdOe15) .nil)))))
noncomputable def hdTf : BT := (.node (boot_o_0 P) (.node (hdOe1 P) (.node (hdOf3 P) (.node (boot_o_7 P) (.node hdOe15 (.node hdOa31 (lf hdOf63) (lf hdOf95)) (.node hdOd47 (lf hdOe15) .nil)) (.node hdOe23 (.node hdOd39 (lf hdOe15) .nil) (.node hdOe15 (lf hdOf87) .nil))) (.node (hdOs11 P) (.node hdOe19 (.node hdOc35 (lf hdOf67) (lf hdOf99)) (.node hdOe15 (lf hdOf83) .nil)) (.node hdOe27 (.node hdOe15 (lf hdOf75) .nil) (.node hdOf59 (lf hdOe15) .nil)))) (.node (boot_o_5 P) (.node (boot_o_9 P) (.node hdOe17 (.node hdOc33 (lf hdOe15) (lf hdOc35)) (.node (hdOa29 P) (lf hdOf81) .nil)) (.node hdOe25 (.node hdOd41 (lf hdOf73) .nil) (.node hdOf57 (lf (hdOa29 P)) .nil))) (.node (hdOe13 P) (.node (hdOe21 P) (.node hdOc37 (lf (hdOa29 P)) .nil) (.node hdOf53 (lf hdOf85) .nil)) (.node hdOf29 (.node hdOd45 (lf (hdOa29 P)) .nil) (.node hdOf61 (lf hdOf93) .nil))))) (.node (hdOe2 P) (.node (boot_o_4 P) (.node (boot_o_8 P) (.node hdOe16 (.node hdOc32 (lf hdOf64) (lf hdOf96)) (.node hdOe15 (lf hdOf80) .nil)) (.node hdOe24 (.node hdOd38 (lf hdOf72) .nil) (.node (hdOa29 P) (lf hdOe15) .nil))) (.node hdOe12 (.node (hdOe20 P) (.node hdOe15 (lf hdOe15) .nil) (.node hdOf52 (lf hdOf84) .nil)) (.node hdOe15 (.node hdOd44 (lf hdOe15) .nil) (.node hdOf60 (lf hdOf92) .nil)))) (.node (boot_o_6 P) (.node (boot_o_10 P) (.node hdOe18 (.node hdOc34 (lf hdOf66) (lf hdOe15)) (.node hdOf50 (lf hdOf82) .nil)) (.node hdOe26 (.node hdOd42 (lf hdOf74) .nil) (.node hdOe15 (lf hdOf90) .nil))) (.node hdOe14 (.node hdOe22 (.node hdOd38 (lf hdOf70) .nil) (.node hdOf54 (lf hdOf86) .nil)) (.node hdOa30 (.node hdOe15 (lf hdOf78) .nil) (.node hdOd38 (lf hdOf94) .nil))))))
noncomputable def hdTg : BT := (.node (boot_o_0 P) (.node (hdOe1 P) (.node (hdOg3 P) (.node (boot_o_7 P) (.node hdOe15 (.node hdOa31 (.node hdOf63 (lf hdOg127) (lf hdOg191)) (.node hdOf95 (lf hdOg159) (lf hdOg223))) (.node hdOd47 (.node hdOe15 (lf hdOg143) (lf hdOe15)) (.node hdOg111 (lf hdOe15) (lf (hdOa29 P))))) (.node hdOe23 (.node hdOd39 (.node hdOe15 (lf hdOg135) (lf hdOe15)) (.node hdOe15 (lf hdOg167) (lf hdOg231))) (.node hdOe15 (.node hdOf87 (lf hdOg151) (lf hdOg215)) (.node hdOg119 (lf hdOg183) .nil)))) (.node (hdOs11 P) (.node hdOe19 (.node hdOc35 (.node hdOf67 (lf hdOg131) (lf hdOe15)) (.node hdOf99 (lf hdOg163) (lf (hdOa29 P)))) (.node hdOe15 (.node hdOf83 (lf hdOg147) (lf hdOe15)) (.node (hdOa29 P) (lf hdOg179) .nil))) (.node hdOe27 (.node hdOe15 (.node hdOf75 (lf hdOg139) (lf hdOg203)) (.node hdOe15 (lf hdOe15) (lf hdOg235))) (.node hdOf59 (.node hdOe15 (lf hdOg155) (lf hdOg219)) (.node hdOg123 (lf hdOg187) .nil))))) (.node (boot_o_5 P) (.node (boot_o_9 P) (.node hdOe17 (.node hdOc33 (.node hdOe15 (lf hdOg129) (lf (hdOa29 P))) (.node hdOc35 (lf hdOe15) (lf hdOg225))) (.node (hdOa29 P) (.node hdOf81 (lf hdOg145) (lf hdOg209)) (.node hdOg113 (lf hdOg177) (lf hdOg241)))) (.node hdOe25 (.node hdOd41 (.node hdOf73 (lf hdOg137) (lf hdOg201)) (.node hdOg105 (lf (hdOa29 P)) (lf hdOe15))) (.node hdOf57 (.node (hdOa29 P) (lf hdOg153) (lf (hdOa29 P))) (.node hdOe15 (lf hdOe15) .nil)))) (.node (hdOe13 P) (.node (hdOe21 P) (.node hdOc37 (.node (hdOa29 P) (lf hdOg133) (lf hdOg197)) (.node (hdOa29 P) (lf hdOg165) (lf hdOe15))) (.node hdOf53 (.node hdOf85 (lf hdOg149) (lf hdOg213)) (.node hdOe15 (lf (hdOa29 P)) .nil))) (.node hdOg29 (.node hdOd45 (.node (hdOa29 P) (lf hdOg141) (lf (hdOa29 P))) (.node hdOg109 (lf hdOg173) (lf hdOg237))) (.node hdOf61 (.node hdOf93 (lf hdOg157) (lf hdOe15)) (.node hdOg125 (lf hdOg189) .nil)))))) (.node (hdOe2 P) (.node (boot_o_4 P) (.node (boot_o_8 P) (.node hdOe16 (.node hdOc32 (.node hdOf64 (lf hdOg128) (lf hdOe15)) (.node hdOf96 (lf hdOg160) (lf hdOg224))) (.node hdOe15 (.node hdOf80 (lf hdOg144) (lf hdOg208)) (.node (hdOg112 P) (lf (hdOa29 P)) (lf hdOg240)))) (.node hdOe24 (.node hdOd38 (.node hdOf72 (lf hdOg136) (lf (hdOa29 P))) (.node hdOg104 (lf hdOe15) (lf hdOg232))) (.node (hdOa29 P) (.node hdOe15 (lf hdOg152) (lf hdOe15)) (.node hdOg120 (lf hdOg184) .nil)))) (.node hdOe12 (.node (hdOe20 P) (.node hdOe15 (.node hdOe15 (lf hdOg132) (lf hdOg196)) (.node hdOe15 (lf hdOe15) (lf hdOg228))) (.node hdOf52 (.node hdOf84 (lf hdOg148) (lf (hdOa29 P))) (.node hdOg116 (lf hdOe15) .nil))) (.node hdOe15 (.node hdOd44 (.node hdOe15 (lf hdOg140) (lf hdOe15)) (.node (hdOa29 P) (lf hdOg172) (lf hdOg236))) (.node hdOf60 (.node hdOf92 (lf hdOg156) (lf hdOg220)) (.node hdOe15 (lf hdOe15) .nil))))) (.node (boot_o_6 P) (.node (boot_o_10 P) (.node hdOe18 (.node hdOc34 (.node hdOf66 (lf hdOg130) (lf hdOg194)) (.node hdOe15 (lf (hdOa29 P)) (lf hdOe15))) (.node hdOf50 (.node hdOf82 (lf hdOg146) (lf hdOg210)) (.node hdOe15 (lf hdOg178) (lf hdOg242)))) (.node hdOe26 (.node hdOd42 (.node hdOf74 (lf hdOg138) (lf hdOg202)) (.node hdOg106 (lf hdOg170) (lf (hdOa29 P)))) (.node hdOe15 (.node hdOf90 (lf hdOg154) (lf hdOg218)) (.node (hdOa29 P) (lf (hdOa29 P)) .nil)))) (.node hdOe14 (.node hdOe22 (.node hdOd38 (.node hdOf70 (lf hdOg134) (lf hdOg198)) (.node hdOg102 (lf hdOg166) (lf hdOg230))) (.node hdOf54 (.node hdOf86 (lf hdOg150) (lf hdOg214)) (.node hdOg118 (lf hdOg182) .nil))) (.node hdOa30 (.node hdOe15 (.node hdOf78 (lf hdOg142) (lf hdOg206)) (.node hdOe15 (lf hdOg174) (lf hdOe15))) (.node hdOd38 (.node hdOf94 (lf hdOg158) (lf (hdOa29 P))) (.node hdOg126 (lf hdOg190) .nil)))))))
noncomputable def hdTz : BT := (.node (boot_o_0 P) (.node (hdOe1 P) (.node (hdOg3 P) (.node (boot_o_7 P) (.node hdOe15 (.node hdOa31 (.node hdOf63 (lf hdOg127) (lf hdOg191)) (.node hdOf95 (lf hdOg159) (lf hdOg223))) (.node hdOd47 (.node hdOe15 (lf hdOg143) (lf hdOe15)) (.node hdOg111 (lf hdOe15) (lf (hdOa29 P))))) (.node hdOe23 (.node hdOd39 (.node hdOe15 (lf hdOg135) (lf hdOe15)) (.node hdOe15 (lf hdOg167) (lf hdOg231))) (.node hdOe15 (.node hdOf87 (lf hdOg151) (lf hdOg215)) (.node hdOg119 (lf hdOg183) .nil)))) (.node (hdOs11 P) (.node hdOe19 (.node hdOc35 (.node hdOf67 (lf hdOg131) (lf hdOe15)) (.node hdOf99 (lf hdOg163) (lf (hdOa29 P)))) (.node hdOe15 (.node hdOf83 (lf hdOg147) (lf hdOe15)) (.node (hdOa29 P) (lf hdOg179) .nil))) (.node hdOe27 (.node hdOe15 (.node hdOf75 (lf hdOg139) (lf hdOg203)) (.node hdOe15 (lf hdOe15) (lf hdOg235))) (.node hdOf59 (.node hdOe15 (lf hdOg155) (lf hdOg219)) (.node hdOg123 (lf hdOg187) .nil))))) (.node (boot_o_5 P) (.node (boot_o_9 P) (.node hdOe17 (.node hdOc33 (.node hdOe15 (lf hdOg129) (lf (hdOa29 P))) (.node hdOc35 (lf hdOe15) (lf hdOg225))) (.node (hdOa29 P) (.node hdOf81 (lf hdOg145) (lf hdOg209)) (.node hdOg113 (lf hdOg177) (lf hdOg241)))) (.node hdOe25 (.node hdOd41 (.node hdOf73 (lf hdOg137) (lf hdOg201)) (.node hdOg105 (lf (hdOa29 P)) (lf hdOe15))) (.node hdOf57 (.node (hdOa29 P) (lf hdOg153) (lf (hdOa29 P))) (.node hdOe15 (lf hdOe15) .nil)))) (.node (hdOe13 P) (.node (hdOe21 P) (.node hdOc37 (.node (hdOa29 P) (lf hdOg133) (lf hdOg197)) (.node (hdOa29 P) (lf hdOg165) (lf hdOe15))) (.node hdOf53 (.node hdOf85 (lf hdOg149) (lf hdOg213)) (.node hdOe15 (lf (hdOa29 P)) .nil))) (.node hdOg29 (.node hdOd45 (.node (hdOa29 P) (lf hdOg141) (lf (hdOa29 P))) (.node hdOg109 (lf hdOg173) (lf hdOg237))) (.node hdOf61 (.node hdOf93 (lf hdOg157) (lf hdOe15)) (.node hdOg125 (lf hdOg189) .nil)))))) (.node (hdOe2 P) (.node (boot_o_4 P) (.node (boot_o_8 P) (.node hdOe16 (.node hdOc32 (.node hdOf64 (lf hdOg128) (lf hdOe15)) (.node hdOf96 (lf hdOg160) (lf hdOg224))) (.node hdOe15 (.node hdOf80 (lf hdOg144) (lf hdOg208)) (.node (hdOg112 P) (lf (hdOa29 P)) (lf hdOg240)))) (.node hdOe24 (.node hdOd38 (.node hdOf72 (lf hdOg136) (lf (hdOa29 P))) (.node hdOg104 (lf hdOe15) (lf hdOg232))) (.node (hdOa29 P) (.node hdOe15 (lf hdOg152) (lf hdOe15)) (.node hdOg120 (lf hdOg184) .nil)))) (.node hdOe12 (.node (hdOe20 P) (.node hdOe15 (.node hdOe15 (lf hdOg132) (lf hdOg196)) (.node hdOe15 (lf hdOe15) (lf hdOg228))) (.node hdOf52 (.node hdOf84 (lf hdOg148) (lf (hdOa29 P))) (.node hdOg116 (lf hdOe15) .nil))) (.node hdOe15 (.node hdOd44 (.node hdOe15 (lf hdOg140) (lf hdOe15)) (.node (hdOa29 P) (lf hdOg172) (lf hdOg236))) (.node hdOf60 (.node hdOf92 (lf hdOg156) (lf hdOg220)) (.node hdOe15 (lf hdOe15) .nil))))) (.node (boot_o_6 P) (.node (boot_o_10 P) (.node hdOe18 (.node hdOc34 (.node hdOf66 (lf hdOg130) (lf hdOg194)) (.node hdOe15 (lf (hdOa29 P)) (lf hdOe15))) (.node hdOf50 (.node hdOf82 (lf hdOg146) (lf hdOg210)) (.node hdOe15 (lf hdOg178) (lf hdOg242)))) (.node hdOe26 (.node hdOd42 (.node hdOf74 (lf hdOg138) (lf hdOg202)) (.node hdOg106 (lf hdOg170) (lf (hdOa29 P)))) (.node hdOe15 (.node hdOf90 (lf hdOg154) (lf hdOg218)) (.node (hdOa29 P) (lf (hdOa29 P)) .nil)))) (.node hdOe14 (.node hdOe22 (.node hdOd38 (.node hdOf70 (lf hdOg134) (lf hdOg198)) (.node hdOg102 (lf hdOg166) (lf hdOg230))) (.node hdOf54 (.node hdOf86 (lf hdOg150) (lf hdOg214)) (.node hdOg118 (lf hdOg182) .nil))) (.node hdOa30 (.node hdOe15 (.node hdOf78 (lf hdOg142) (lf hdOg206)) (.node hdOe15 (lf hdOg174) (lf hdOe15))) (.node hdOd38 (.node hdOf94 (lf hdOg158) (lf (hdOa29 P))) (.node hdOg126 (lf hdOg190) .nil)))))))
noncomputable abbrev pw : Program := PySem.Challenge.pw_in0172_01
noncomputable def hdE : Env := { scope := pw.main.scope, locals := mainNs, globals := mainNs, cells := [], code := .ref 30, frame := some 31 }
noncomputable def hdB : List Stmt := behindTheImports pw
noncomputable def hdC : Code := .body hdB hdE
noncomputable def hdAnn : Option Value := some (.ref 6)
noncomputable def hdS (t : Params → BT) (n toks : Nat) (w : World) (os : OsState) : SharedT := ⟨t w.params, n, {}, #[], {}, toks, os⟩
noncomputable def hdF : List Frame := [topFrame ⟨0, 0, 0, 0⟩]
end
end
section
noncomputable def looseT : List Str := (["_sre", "CRLF", "NL", "_QUOPRI_MAP", "_QUOPRI_HEADER_MAP", "_QUOPRI_BODY_MAP", "ascii_lowercase", "ascii_uppercase", "ascii_letters", "digits", "hexdigits", "unquote", "quote", "_QUOPRI_BODY_ENCODE_MAP", "body_encode", "decode", "_twin_re_1", "translate", "_special_chars_map", "escape", "_translate", "_join_translated_parts", "S_IFMT", "S_IFDIR", "S_IFCHR", "S_IFBLK", "S_IFREG", "S_IFIFO", "S_IFLNK", "S_IFSOCK", "S_ISUID", "S_ISGID", "S_ISVTX", "S_IRUSR", "S_IWUSR", "S_IXUSR", "S_IRGRP", "S_IWGRP", "S_IXGRP", "S_IROTH", "S_IWOTH", "S_IXOTH", "_filemode_table", "filemode", "_law_listed", "_law_set", "_law_read", "_law_fits", "_law_takes", "_law_meant", "_law_written", "_law_lines", "_law_tail", "_law_pattern", "_law_groups", "_law_run"] : List String).map Str.ofString
noncomputable def qT : Program := view pw [67]
abbrev rT : OpenRow := PySem.Challenge.rw_in0172_01.row
noncomputable def H0 (P : Params) : Heap := absHeap (hdTs P) 28 {}
noncomputable def H1 (P : Params) : Heap := absHeap (hdTz P) 243 {}
theorem h1_get {P : Params} {a : Addr} {o : Obj} (g : (hdTz P).get a = some o) (hl : a < 243) (al : alive o = some o) : (H1 P).get? a = some o := (abs_get hl g).trans al
end
section
theorem sd1 : sreFenced rT.prog.main = true := by kernel_rfl
theorem sd2 : ((moduleNames rT.prog.main.body).isEmpty || lookedIntoSs (moduleNames rT.prog.main.body) rT.prog.main.body) = true := by kernel_rfl
theorem sd3 : namesResolve rT.prog = true := by kernel_rfl
theorem sd4 : (rT.prog.boundNames.all fun n => !worldNames.contains n) = true := by kernel_rfl
theorem sd5 : noRoadLSs { strict := !(importedModules rT.prog.main.body).all cThrough.contains, foot := none, bare := (["vars", "dir", "locals"] : List Str).filter (readsOut rT.prog rT.prog.main.body) } rT.prog.main.body = true := by kernel_rfl
theorem sd6 : (namesMeet rT.prog rT.prog.main.body fun _ n => attrL n) = true := by kernel_rfl
theorem law_said : PySem.Challenge.rw_in0172_01.wellSaid = true := by
 unfold OpenLaw.wellSaid OpenRow.wellSaid OpenRow.partSaid looksOpen
 repeat' (with_reducible refine look_both ?_ ?_)
 with_reducible exact sd1
 with_reducible exact sd2
 with_reducible exact sd3
 with_reducible exact sd4
 with_reducible exact sd5
 with_reducible exact sd6
 all_goals kernel_rfl
theorem law_wit : rT.toRowW.promised := by w_witness2
theorem law_ok : (chainsOk qT && opensWell rT.prog && (frees rT.toRowW && rT.within.isEmpty)) = true := by kernel_rfl
theorem law_bare : rT.prog.bare := ⟨rfl, rfl, rfl, rfl, rfl, by decide +kernel⟩
theorem law_writes : (!rT.writes || rT.records.isEmpty) = true := by kernel_rfl
noncomputable def defT : DefRec × List (Str × Expr) := (defOf qT rT.name).get (by kernel_rfl)
theorem law_def : defOf qT rT.name = some (defT.1, defT.2) := by kernel_rfl
theorem law_def2 : rT.prog.theDef rT.name = some (defT.1.params, defT.1.body, defT.1.scope) := by kernel_rfl
theorem law_def3 : kwWritten? defT.1.params.kwonlyargs defT.1.params.kw_defaults = some defT.2 := by kernel_rfl
end
section
theorem op_run : ∀ w : World, Fast.tw10274390034422433532 Fast.tw14364793385576792824 (opening pw) w 800 (start (opening pw)).1 (start (opening pw)).2 = some ⟨absHeap (hdTe w.params) 28 {}, #[], {}, 276, (start (opening pw)).1.os⟩ := fun w => by kernel_rfl
theorem op_fence : ∀ w : World, (fun os => (Fast.tw14289696077712309145 pw ⟨absHeap (hdTe w.params) 28 {}, #[], {}, 276, os⟩).map (fun s => (s.heap, s.gens, s.drawn, s.toks))) = fun _ => some (absHeap (hdTs w.params) 28 {}, #[], {}, 276) := fun w => by kernel_rfl
theorem op_size : ∀ w : World, ((absHeap (hdTs w.params) 28 {}).isNs mainGlobals && (#[] : Array GenState).size == 0, (absHeap (hdTs w.params) 28 {}).objs.size, (absHeap (hdTs w.params) 28 {}).nsMap mainGlobals "__annotations__") = (true, 28, hdAnn) := fun w => by kernel_rfl
theorem op_pre : ∀ w : World, (fun os => Fast.tw15667345088766844465 Fast.tw14364793385576792824 pw w 28 hdAnn 12 (hdS hdTs 28 276 w os).abs (topStub pw)) = fun os => some ((hdS hdTa 32 282 w os).abs, ⟨Fast.tw11892475500146522536 Fast.tw14364793385576792824 hdC, hdC, ⟨0, 0, 0, 0⟩, hdF⟩) := fun w => by kernel_rfl
theorem op_block : ∀ w : World, (fun os => Fast.tw14374325043358763698 Fast.tw14364793385576792824 pw w 28 hdAnn 1 1 (hdS hdTa 32 282 w os).abs ⟨(Fast.tw1066825118222455980 hdB hdE).wrap (fun _ => doneF .next) deadEnd id id, hdC, ⟨0, 0, 0, 0⟩, hdF⟩) = fun os => some (.next, (hdS hdTb 32 282 w os).abs, hdC, ⟨0, 0, 0, 0⟩) := fun w => by kernel_rfl
theorem op_fin : ∀ w : World, (fun os => Fast.tw14082659384304107361 Fast.tw14364793385576792824 pw w 28 hdAnn 2 (hdS hdTg 243 2308 w os).abs ⟨doneF .next, hdC, ⟨386, 0, 398, 20⟩, hdF⟩) = fun os => some (hdS hdTz 243 2308 w os).abs := fun w => by kernel_rfl
end
section
theorem pc_g : ∀ w : World, (fun os => Fast.tw10110043849684766642 Fast.tw14364793385576792824 pw w 28 hdAnn 1 900 (hdS hdTf 100 2080 w os) ⟨(Fast.tw12563942051412417395 (hdB.drop 26) hdE).wrap doneF deadEnd id id, hdC, ⟨101, 0, 101, 18⟩, hdF⟩) = fun os => some (.next, hdS hdTg 243 2308 w os, hdC, ⟨386, 0, 398, 20⟩) := fun w => by kernel_rfl
end
section
noncomputable abbrev HdPd (w : World) : Prop := (fun os => Fast.tw10110043849684766642 Fast.tw14364793385576792824 pw w 28 hdAnn 1 7540 (hdS hdTc 38 1314 w os) ⟨(Fast.tw12563942051412417395 ((hdB.drop 3).take 11) hdE).wrap doneF deadEnd id id, hdC, ⟨4, 0, 4, 11⟩, hdF⟩) = fun os => some (.next, hdS hdTd 48 1828 w os, hdC, ⟨16, 9, 16, 110⟩)
theorem pc_d_f : ∀ w : World, HdPd (w.withFollow "special-get-raises" false) := fun w => by kernel_rfl
theorem pc_d_t : ∀ w : World, HdPd (w.withFollow "special-get-raises" true) := fun w => by kernel_rfl
theorem pc_d : ∀ w : World, HdPd w := (byRow2 "special-get-raises" pc_d_f pc_d_t)
end
section
noncomputable abbrev HdPf (w : World) : Prop := (fun os => Fast.tw10110043849684766642 Fast.tw14364793385576792824 pw w 28 hdAnn 1 1680 (hdS hdTd 48 1828 w os) ⟨(Fast.tw12563942051412417395 ((hdB.drop 14).take 12) hdE).wrap doneF deadEnd id id, hdC, ⟨16, 9, 16, 110⟩, hdF⟩) = fun os => some (.next, hdS hdTf 100 2080 w os, hdC, ⟨101, 0, 101, 18⟩)
theorem pc_f_ff : ∀ w : World, HdPf ((w.withFollow "special-get-raises" false).withFollow "comprehension-iter-twice" false) := fun w => by kernel_rfl
theorem pc_f_ft : ∀ w : World, HdPf ((w.withFollow "special-get-raises" true).withFollow "comprehension-iter-twice" false) := fun w => by kernel_rfl
theorem pc_f_tf : ∀ w : World, HdPf ((w.withFollow "special-get-raises" false).withFollow "comprehension-iter-twice" true) := fun w => by kernel_rfl
theorem pc_f_tt : ∀ w : World, HdPf ((w.withFollow "special-get-raises" true).withFollow "comprehension-iter-twice" true) := fun w => by kernel_rfl
theorem pc_f : ∀ w : World, HdPf w := (byRow2 "comprehension-iter-twice" (byRow2 "special-get-raises" pc_f_ff pc_f_ft) (byRow2 "special-get-raises" pc_f_tf pc_f_tt))
end
section
noncomputable abbrev HdPc (w : World) : Prop := (fun os => Fast.tw10110043849684766642 Fast.tw14364793385576792824 pw w 28 hdAnn 1 9580 (hdS hdTb 32 282 w os) ⟨(Fast.tw12563942051412417395 (hdB.take 3) hdE).wrap doneF deadEnd id id, hdC, ⟨0, 0, 0, 0⟩, hdF⟩) = fun os => some (.next, hdS hdTc 38 1314 w os, hdC, ⟨4, 0, 4, 11⟩)
theorem pc_c_ff : ∀ w : World, HdPc ((w.withFollow "special-get-raises" false).withFollow "comprehension-iter-twice" false) := fun w => by kernel_rfl
theorem pc_c_ft : ∀ w : World, HdPc ((w.withFollow "special-get-raises" true).withFollow "comprehension-iter-twice" false) := fun w => by kernel_rfl
theorem pc_c_tf : ∀ w : World, HdPc ((w.withFollow "special-get-raises" false).withFollow "comprehension-iter-twice" true) := fun w => by kernel_rfl
theorem pc_c_tt : ∀ w : World, HdPc ((w.withFollow "special-get-raises" true).withFollow "comprehension-iter-twice" true) := fun w => by kernel_rfl
theorem pc_c : ∀ w : World, HdPc w := (byRow2 "comprehension-iter-twice" (byRow2 "special-get-raises" pc_c_ff pc_c_ft) (byRow2 "special-get-raises" pc_c_tf pc_c_tt))
end
section
theorem hdBs : hdB = hdB.take 3 ++ ((hdB.drop 3).take 11 ++ ((hdB.drop 14).take 12 ++ (hdB.drop 26 ++ []))) := by kernel_rfl
theorem runT (w : World) (os : OsState) : topRun treeTable pw w 28 hdAnn (12 + (1 + (9580 + (7540 + (1680 + (900 + 2)))))) ⟨H0 w.params, #[], {}, 276, os⟩ (topStub pw) = some ⟨H1 w.params, #[], {}, 2308, os⟩ := by
 have f := congrFun (op_fin w) os
 have g := congrFun (pc_g w) os
 have e := congrFun (pc_f w) os
 have d := congrFun (pc_d w) os
 have c := congrFun (pc_c w) os
 have b := congrFun (op_block w) os
 have a := congrFun (op_pre w) os
 rw [← PySem.W.Fast.te14082659384304107361, ← PySem.W.Fast.te14364793385576792824] at f
 rw [← PySem.W.Fast.te10110043849684766642, ← PySem.W.Fast.te14364793385576792824, ← PySem.W.Fast.te12563942051412417395] at g e d c
 rw [← PySem.W.Fast.te14374325043358763698, ← PySem.W.Fast.te14364793385576792824, ← PySem.W.Fast.te1066825118222455980] at b
 rw [← PySem.W.Fast.te15667345088766844465, ← PySem.W.Fast.te14364793385576792824, ← PySem.W.Fast.te11892475500146522536] at a
 have k0 : topRun treeTable pw w 28 hdAnn 2 (hdS hdTg 243 2308 w os).abs (restOf [] hdE hdC ⟨386, 0, 398, 20⟩ hdF) = some (hdS hdTz 243 2308 w os).abs := piece_nil f
 have k1 := piece_app (rest := []) (q := ⟨0, 0, 0, 0⟩) (segRun_of g) k0
 have k2 := piece_app (q := ⟨0, 0, 0, 0⟩) (segRun_of e) k1
 have k3 := piece_app (q := ⟨0, 0, 0, 0⟩) (segRun_of d) k2
 have k4 := piece_app (q := ⟨0, 0, 0, 0⟩) (segRun_of c) k3
 rw [← hdBs] at k4
 have k5 := piece_block (q := ⟨0, 0, 0, 0⟩) b k4
 exact go_top a k5
theorem openT : ∀ w : World, (fencedOpening treeTable pw w 42000).map (fun s => (s.heap, s.gens, s.drawn, s.toks)) = some (H0 w.params, #[], {}, 276) :=
 open_cut (M := 800) (He := fun P => absHeap (hdTe P) 28 {}) (H₀ := H0) (ge := #[]) (de := {}) (ke := 276) (fun w => by rw [PySem.W.Fast.te10274390034422433532, PySem.W.Fast.te14364793385576792824]; exact op_run w) (by decide) (fun w => by rw [PySem.W.Fast.te14289696077712309145]; exact op_fence w)
theorem lookA : ∀ w : World, (fun os : OsState => (staticsOk (importedModules pw.main.body) (H0 w.params) (H1 w.params) && namesBound pw (H1 w.params) && gensDone ⟨H1 w.params, #[], {}, 2308, os⟩ && laidKept (H0 w.params) (H1 w.params))) = fun _ => true := fun w => by kernel_rfl
theorem lookB : ∀ w : World, (fun os : OsState => PySem.W.Fast.tw4187177175401517315 qT looseT (PySem.W.Fast.tw5923862056798008813 pw.main.body) (fun s => recOk rT.toRowW.records s) true ⟨H1 w.params, #[], {}, 2308, os⟩) = fun _ => openGood qT looseT := fun w => by kernel_rfl
theorem leftT : LeftO pw qT looseT (fun s => recOk rT.toRowW.records s) (fun s => s.heap) (fun w => H1 w.params) 42000 :=
 LeftO.of_pieces openT (m₀ := 28) (ann := hdAnn) (gs₁ := #[]) (d₁ := {}) (k₁ := 2308) (H₁ := H1) (M := 12 + (1 + (9580 + (7540 + (1680 + (900 + 2)))))) op_size runT (by decide) fun w => by
  funext os
  refine Prod.ext (congrFun (lookA w) os) (Prod.ext ?_ rfl)
  have := congrFun (lookB w) os
  rw [← PySem.W.Fast.te4187177175401517315, ← PySem.W.Fast.te5923862056798008813] at this
  exact this
end
section
noncomputable def fParams (i : Nat) : Arguments := match PySem.Challenge.pw_in0172_01.main.body[i]? with
 | some (.FunctionDef _ args _ _ _ _ _ _ _ _) => args
 | _ => default
noncomputable def fPs (i : Nat) : List Str := (fParams i).args.map (·.arg)
noncomputable def fOk (i : Nat) : Bool := (fScope i).kind == .function && !(fScope i).isCoroutine && !(fScope i).isGenerator && (fParams i).posonlyargs.isEmpty && (fParams i).vararg.isNone && (fParams i).kwonlyargs.isEmpty && (fParams i).kw_defaults.isEmpty && (fParams i).kwarg.isNone &&
 decide ((fPs i).Nodup) && (fPs i).all (fun x => (fScope i).names.lookup x == some .local || (fScope i).names.lookup x == some .cell)
noncomputable def bT : List (Str × Value) := [("len", .builtin "len"), ("ord", .builtin "ord"), ("chr", .builtin "chr"), ("int", .type "int"), ("range", .type "range"), ("list", .type "list"), ("object", .type "object"), ("isinstance", .builtin "isinstance"), ("str", .type "str"), ("enumerate", .type "enumerate")]
structure GF (Γ : Gl prog w) : Prop where
 bv : ∀ x v, bT.lookup x = some v → Γ.nv x = some v
structure GFn (Γ : Gl prog w) (a : Addr) (i : Nat) : Prop where
 fd : ∃ fd, Γ.fn a = some fd ∧ fd.body = .stmts (fBody i) ∧ fd.scope = fScope i ∧ fd.params = fParams i ∧ fd.closure = [] ∧ (∀ (s : Shared) (vs : List Value), Γ.ok s.heap → vs.length = (fPs i).length → BindsTo s fd ⟨vs, []⟩ ((fPs i).zip vs))
noncomputable abbrev Res (k : Nat) (r : D) (fl : Fl) (st' : St) : Prop := ∃ d, fl = .ret d ∧ fz k st'.mu d = r ∧ noMut r = true
theorem Fn.of {Γ : Gl prog w} {n k i : Nat} {a : Addr} {ds : List D} {r : D} (hf : GFn Γ a i) (hok : fOk i = true) (hps : ds.length = (fPs i).length) (hnm : noMutL ds = true) (m' : List (Str × D))
  (hs : ∀ p ∈ m', ((fPs i).zip ds).lookup p.1 = some p.2) (hbody : ∀ C : Cx, C.kn = (fScope i).names → C.A.depth + n ≤ 600 → C.A.units + 10 * n ≤ 5000 → AB Γ C (fBody i) ⟨m', []⟩ (Res k r)) : Fn Γ (n + 1) (.ref a) ds r := by
 obtain ⟨fd, h1, h2, h3, h4, h5, h6⟩ := hf.fd
 unfold fOk at hok
 simp only [Bool.and_eq_true, Bool.not_eq_true', beq_iff_eq, decide_eq_true_eq] at hok
 obtain ⟨⟨⟨⟨⟨⟨⟨⟨⟨k1, k2⟩, k3⟩, k4⟩, k5⟩, k6⟩, k7⟩, k8⟩, k9⟩, k10⟩ := hok
 refine Fn.intro (k := k) (ps := fPs i) h1 h2 h5 (by rw [h3]; exact k1) (by rw [h3]; exact k2) (by rw [h3]; exact k3) h6 hps k9 (by rw [h3]; exact k10) hnm fun C hk hd hu => ?_
 intro s as Q E R kk
 refine hbody C (by rw [hk, h3]) hd hu s as Q E ?_ kk
 exact { R with vars := fun x d e => R.vars x d (hs (x, d) (mem_of_lookup e)) }
section
variable {Γ : Gl prog w} {C : Cx} {st : St}
theorem gE_Name {x : Str} {p d} {Φ : D → St → Prop} (hn : nmOk x = true) (e : st.m.lookup x = some d) (h : Φ d st) : AE Γ C (.Name x p) st Φ := AE_Name hn e h
theorem gE_CallB {kn : List (Str × NameKind)} (hG : GF Γ) (hk : C.kn = kn) {x : Str} {p f args pos} {Φ : D → St → Prop} (hn : (nmOk x && (kn.lookup x == some .globalImplicit) && noStar args) = true) (hv : bT.lookup x = some f) (hf : callable Γ f)
  (h : AEs Γ C args st fun ds st1 => ACall Γ C f ds st1 Φ) : AE Γ C (.Call (.Name x p) args [] pos) st Φ := by
 simp only [Bool.and_eq_true, beq_iff_eq] at hn
 exact AE_Call hn.1.1 (by rw [hk]; exact hn.1.2) (hG.bv x f hv) hn.2 hf h
theorem gE_Glob {kn : List (Str × NameKind)} (hk : C.kn = kn) {x : Str} {p d} {Φ : D → St → Prop} (hn : (nmOk x && (kn.lookup x == some .globalImplicit)) = true) (hd : Γ.gd x = some d) (h : Φ d st) : AE Γ C (.Name x p) st Φ := by
 simp only [Bool.and_eq_true, beq_iff_eq] at hn
 exact AE_NameG hn.1 (by rw [hk]; exact hn.2) hd h
theorem gStore {kn : List (Str × NameKind)} (hk : C.kn = kn) {x : Str} (h : (storable kn x) = true) : storable C.kn x = true := by rw [hk]; exact h
theorem AEs_c {e : Expr} {es : List Expr} {Φ : List D → St → Prop} (h : AE Γ C e st fun d st1 => AEs Γ C es st1 fun ds st2 => Φ (d :: ds) st2) : AEs Γ C (e :: es) st Φ := h
theorem AEs_n {Φ : List D → St → Prop} (h : Φ [] st) : AEs Γ C [] st Φ := h
theorem AO_s {e : Expr} {Φ : Option Int → St → Prop} (h : AE Γ C e st fun d st1 => ∃ k, d = .int k ∧ Φ (some k) st1) : AO Γ C (some e) st Φ := h
theorem AJ_c {e : Expr} {es : List Expr} {out : List Nat} {Φ : List Nat → St → Prop} (h : AE Γ C e st fun d st1 => ∃ l, d = .str l ∧ AJ Γ C es (out ++ l) st1 Φ) : AJ Γ C (e :: es) out st Φ := h
theorem AAsL_n {Φ : St → Prop} (h : Φ st) : AAsL Γ C [] [] st Φ := h
theorem AAsL_c {t : Expr} {ts : List Expr} {d : D} {ds : List D} {Φ : St → Prop} (h : AAs Γ C t d st fun st1 => AAsL Γ C ts ds st1 Φ) : AAsL Γ C (t :: ts) (d :: ds) st Φ := h
theorem AIfs_n {Φ : Bool → St → Prop} (h : Φ true st) : AIfs Γ C [] st Φ := h
theorem AIfs_c {c : Expr} {Φ : Bool → St → Prop} (h : AT Γ C c st Φ) : AIfs Γ C [c] st Φ := h
theorem gE_str {x : Str} {k pos} {Φ : D → St → Prop} (hb : x.length ≤ 1048576) (h : Φ (.str (cp x)) st) : AE Γ C (.Constant (.str x) k pos) st Φ := by
 have e : AE Γ C (.Constant (.str (S (cp x))) k pos) st Φ := AE_str h (by rw [cp_len]; exact hb)
 rwa [S_cp] at e
theorem AS_ForR {target iter body orelse pos} {Φ : Fl → St → Prop} (hn : noSet iter = true) (h : AE Γ C iter st fun d st1 => ∃ a b c, d = .rng a b c ∧ Builtin.Range.small a b c = true ∧ ∀ I, AFor Γ C I (rngD a b c) target body orelse st1 Φ) : AS Γ C (.For target iter body orelse pos) st Φ := by
 refine AS_For hn (AW.mono h fun d st1 hh => ?_)
 obtain ⟨a, b, c, rfl, hs, f⟩ := hh
 exact ⟨_, by simp only [iterD, hs, if_true], f⟩
theorem small_ok {a b : Int} (h1 : -1000000000 ≤ a) (h2 : a ≤ 1000000000) (h3 : -1000000000 ≤ b) (h4 : b ≤ 1000000000) : Builtin.Range.small a b 1 = true := by
 have ft : ∀ i : Int, -4000000000 ≤ i → i ≤ 4000000000 → Builtin.Range.rangeFitsLong i = true := fun i x y => Bool.and_eq_true_iff.mpr ⟨decide_eq_true (Int.le_trans (by decide) x), decide_eq_true (Int.lt_of_le_of_lt y (by decide))⟩
 have hb := ft b (Int.le_trans (by decide) h3) (Int.le_trans h4 (by decide))
 have hz : Builtin.Range.rangeFitsLong (Builtin.Range.rangeSize a b 1) = true := by
  unfold Builtin.Range.rangeSize
  simp only [show (1 : Int) > 0 from by decide, if_true, Int.ediv_one]
  split
  ·rw [Int.sub_add_cancel]; exact ft _ (Int.le_trans (by decide) (Int.sub_nonneg_of_le (Int.le_of_lt (by assumption)))) (Int.le_trans (Int.sub_le_sub h4 h1) (by decide))
  ·decide
 unfold Builtin.Range.small
 rw [ft a (Int.le_trans (by decide) h1) (Int.le_trans h2 (by decide)), hb, hz, show b + (1 - 1) = b from Int.add_zero b, hb, if_pos (by decide), Bool.or_true]
 rfl
/-! forgetting names -/
noncomputable def Sub : List (Str × D) → List (Str × D) → Prop
 | [], _ => True
 | (x, d) :: r, m => m.lookup x = some d ∧ Sub r m
theorem Sub.get : ∀ {m' m : List (Str × D)}, Sub m' m → ∀ x d, m'.lookup x = some d → m.lookup x = some d
 | [], _, _, x, d, e => by cases e
 | (y, d') :: r, m, h, x, d, e => by
  rw [List.lookup_cons] at e
  cases hx : x == y with
  | true => rw [hx] at e; cases e; rw [beq_iff_eq.mp hx]; exact h.1
  | false => rw [hx] at e; exact h.2.get x d e
theorem Rel.weak {h as m'} (R : Rel Γ C h as st) (s : Sub m' st.m) : Rel Γ C h as ⟨m', st.mu⟩ := { R with vars := fun x d e => R.vars x d (s.get x d e) }
theorem AC_weak {c : Code} {m' m mu} {Φ : Fl → St → Prop} (s : Sub m' m) (h : AC Γ C c ⟨m', mu⟩ Φ) : AC Γ C c ⟨m, mu⟩ Φ := fun sh as R' R k => h sh as R' (R.weak s) k
theorem AFor_weak {I ds t b o m' m mu} {Φ : Fl → St → Prop} (s : Sub m' m) (h : AFor Γ C I ds t b o ⟨m', mu⟩ Φ) : AFor Γ C I ds t b o ⟨m, mu⟩ Φ := fun sh as Ia wr R' e R it k => h sh as Ia wr R' e (R.weak s) it k
theorem AB_weak {b m' m mu} {Φ : Fl → St → Prop} (s : Sub m' m) (h : AB Γ C b ⟨m', mu⟩ Φ) : AB Γ C b ⟨m, mu⟩ Φ := fun sh as Q E R k => h sh as Q E (R.weak s) k
/-! loops by what holds at their heads -/
noncomputable def Turn (Φ : Fl → St → Prop) (W : St → Prop) (fl : Fl) (st : St) : Prop :=
 match fl with
 | .next => ∃ m', Sub m' st.m ∧ W ⟨m', st.mu⟩
 | .cont => ∃ m', Sub m' st.m ∧ W ⟨m', st.mu⟩
 | .brk => Φ .next st
 | .ret d => Φ (.ret d) st
theorem T_brk {Φ Φ' : Fl → St → Prop} {W : St → Prop} (hΦ : ∀ fl st, Φ fl st → Φ' fl st) (h : Φ .next st) : Turn Φ' W .brk st := hΦ _ _ h
theorem T_ret {Φ Φ' : Fl → St → Prop} {W : St → Prop} {d : D} (hΦ : ∀ fl st, Φ fl st → Φ' fl st) (h : Φ (.ret d) st) : Turn Φ' W (.ret d) st := hΦ _ _ h
noncomputable abbrev Cont (Γ : Gl prog w) (C : Cx) (rest : List Stmt) (Φ : Fl → St → Prop) (fl : Fl) (st : St) : Prop :=
 match fl with
 | .next => AB Γ C rest st Φ
 | fl => Φ fl st
theorem C_next {rest} {Φ : Fl → St → Prop} (h : AB Γ C rest st Φ) : Cont Γ C rest Φ .next st := h
theorem C_brk {rest} {Φ : Fl → St → Prop} (h : Φ .brk st) : Cont Γ C rest Φ .brk st := h
theorem C_cont {rest} {Φ : Fl → St → Prop} (h : Φ .cont st) : Cont Γ C rest Φ .cont st := h
theorem C_ret {rest} {Φ : Fl → St → Prop} {d : D} (h : Φ (.ret d) st) : Cont Γ C rest Φ (.ret d) st := h
theorem AB_c {t rest} {Φ : Fl → St → Prop} (h : AS Γ C t st (Cont Γ C rest Φ)) : AB Γ C (t :: rest) st Φ := AB_cons (AW.mono h fun fl st1 h => by cases fl <;> exact h)
theorem AB_1 {t} {Φ : Fl → St → Prop} (h : AS Γ C t st Φ) : AB Γ C [t] st Φ := AB_cons (AW.mono h fun fl st1 h => by
 cases fl with
 | next => exact AB_nil h
 | _ => exact h)
theorem AFor_inv {I : Value} {t : Expr} {b o : List Stmt} {Φ : Fl → St → Prop} (W : List D → St → Prop) (turn : ∀ d r (Φ' : Fl → St → Prop) (W' : St → Prop), (∀ fl st, Φ fl st → Φ' fl st) → (∀ st, W r st → W' st) → ∀ st, W (d :: r) st → AAs Γ C t d st fun st1 => AB Γ C b st1 (Turn Φ' W')) (fin : ∀ st, W [] st → AB Γ C o st Φ) : ∀ (ds : List D) (st : St), W ds st → AFor Γ C I ds t b o st Φ
 | [], st, h => AFor_nil (fin st h)
 | d :: r, st, h => by
  refine AFor_cons ?_
  intro s as v Q E R rv k
  refine turn d r _ _ (fun _ _ x => x) (fun _ x => x) st h s as v Q E R rv fun st1 s1 h1 R1 x1 m1 => k st1 s1 (AW.mono h1 fun fl st2 hT => ?_) R1 x1 m1
  cases fl with
  | next => obtain ⟨m', sb, hw⟩ := hT; exact AFor_weak sb (AFor_inv W turn fin r _ hw)
  | cont => obtain ⟨m', sb, hw⟩ := hT; exact AFor_weak sb (AFor_inv W turn fin r _ hw)
  | brk => exact hT
  | ret d => exact hT
theorem AC_inv {test : Expr} {b o : List Stmt} {Φ : Fl → St → Prop} (W : Nat → St → Prop) (turn : ∀ n (Φ' : Fl → St → Prop) (W' : St → Prop), (∀ fl st, Φ fl st → Φ' fl st) → (∀ st, (∃ n', n' < n ∧ W n' st) → W' st) → ∀ st, W n st → AT Γ C test st fun c st1 => (c = true → AB Γ C b st1 (Turn Φ' W')) ∧ (c = false → AB Γ C o st1 Φ)) : ∀ (n : Nat) (st : St), W n st → AC Γ C (.whileLoop test b o C.env) st Φ := by
 intro n
 induction n using Nat.strongRecOn with
 | _ n ih =>
  intro st h
  refine AC_while (AW.mono (turn n _ _ (fun _ _ x => x) (fun _ x => x) st h) fun c st1 hc => ⟨fun e => AW.mono (hc.1 e) fun fl st2 hT => ?_, hc.2⟩)
  cases fl with
  | next => obtain ⟨m', sb, n', hlt, hw⟩ := hT; exact AC_weak sb (ih n' hlt _ hw)
  | cont => obtain ⟨m', sb, n', hlt, hw⟩ := hT; exact AC_weak sb (ih n' hlt _ hw)
  | brk => exact hT
  | ret d => exact hT
end
end
section
theorem kc39 : cp (Str.ofString "\t") = [9] := by rfl
theorem kc40 : cp (Str.ofString " ") = [32] := by rfl
theorem kc42 : cp (Str.ofString "=20") = [61, 50, 48] := by rfl
theorem kc43 : cp (Str.ofString "=09") = [61, 48, 57] := by rfl
noncomputable def fT : List (Str × Nat) := [("unquote", 15), ("quote", 16), ("body_encode", 20), ("decode", 21), ("translate", 24), ("escape", 27), ("_translate", 29), ("_join_translated_parts", 30), ("S_IFMT", 32), ("filemode", 53), ("_law_listed", 55), ("_law_set", 56), ("_law_read", 57), ("_law_fits", 58), ("_law_takes", 59), ("_law_meant", 60), ("_law_written", 61), ("_law_lines", 62), ("_law_tail", 63), ("_law_pattern", 64), ("_law_groups", 65), ("_law_run", 66)]
structure GC (Γ : Gl prog w) (F : Nat → Addr) : Prop extends GF Γ where
 fv : ∀ x i, fT.lookup x = some i → Γ.nv x = some (.ref (F i)) ∧ ∃ fd, Γ.fn (F i) = some fd
section
variable {Γ : Gl prog w} {C : Cx} {st : St} {F : Nat → Addr}
theorem AEs.mono : ∀ {es : List Expr} {st : St} {Φ Ψ : List D → St → Prop}, AEs Γ C es st Φ → (∀ ds st1, Φ ds st1 → Ψ ds st1) → AEs Γ C es st Ψ
 | [], _, _, _, h, k => k _ _ h
 | _ :: _, _, _, _, h, k => AW.mono h fun d st1 h1 => AEs.mono h1 fun ds st2 h2 => k _ _ h2
theorem gE_CallF {kn : List (Str × NameKind)} (hG : GC Γ F) (hk : C.kn = kn) {x : Str} {i : Nat} {p args pos} {Φ : D → St → Prop} (hn : (nmOk x && (kn.lookup x == some .globalImplicit) && noStar args) = true) (hv : fT.lookup x = some i)
  (h : AEs Γ C args st fun ds st1 => ∃ r m, Fn Γ m (.ref (F i)) ds r ∧ C.A.depth + m ≤ 600 ∧ C.A.units + 10 * m ≤ 5000 ∧ Φ r st1) : AE Γ C (.Call (.Name x p) args [] pos) st Φ := by
 simp only [Bool.and_eq_true, beq_iff_eq] at hn
 have hf := hG.fv x i hv
 exact AE_Call hn.1.1 (by rw [hk]; exact hn.1.2) hf.1 hn.2 hf.2 (AEs.mono h fun ds st1 ⟨r, m, h1, h2, h3, h4⟩ => h1 C st1 Φ h2 h3 h4)
theorem gE_strL {x : Str} {l : List Nat} {k pos} {Φ : D → St → Prop} (hx : cp x = l) (hb : x.length ≤ 1048576) (h : Φ (.str l) st) : AE Γ C (.Constant (.str x) k pos) st Φ := by subst hx; exact gE_str hb h
theorem B_tt {P Q : Prop} (h : P) : (true = true → P) ∧ (true = false → Q) := ⟨fun _ => h, fun e => absurd e (by decide)⟩
theorem B_ff {P Q : Prop} (h : Q) : (false = true → P) ∧ (false = false → Q) := ⟨fun e => absurd e (by decide), fun _ => h⟩
theorem AE_joinL0 {l : List Nat} : joinL [] (l.map fun c => [c]) = l := by
 induction l with
 | nil => rfl
 | cons a r ih => cases r with
  | nil => rfl
  | cons b r => simp only [List.map_cons, joinL] at ih ⊢; rw [ih]; rfl
theorem strsD_map {α : Type} (f : α → List Nat) : ∀ l : List α, strsD (l.map fun a => D.str (f a)) = some (l.map f)
 | [] => rfl
 | a :: r => by simp only [List.map_cons, strsD, strsD_map f r]; rfl
theorem noMutL_map {α : Type} (f : α → List Nat) : ∀ l : List α, noMutL (l.map fun a => D.str (f a)) = true
 | [] => rfl
 | a :: r => by simp only [List.map_cons, noMutL, noMut, noMutL_map f r]; rfl
theorem joinSum0 {l : List Nat} : joinSum [] (l.map fun c => [c]) = l.length := by
 simp only [joinSum, List.map_map, List.length_nil, Nat.mul_zero, Nat.add_zero]
 induction l with
 | nil => rfl
 | cons a r ih => simp only [List.map_cons, List.sum_cons, ih, List.length_cons, Function.comp, List.length_nil]; omega
theorem gE_Mstr {o : Expr} {name : Str} {apos args pos id} {Φ : D → St → Prop} (slot : Slot "str" name id) (hty : typeOf (.builtin id) = pure (.type "method_descriptor")) (hc : (baseOk o && decide (args.length < 30) && noStar args && (apos.endLine == pos.line)) = true)
  (h : AE Γ C o st fun d st1 => ∃ l, d = .str l ∧ AEs Γ C args st1 fun ds st2 => ACall Γ C (.builtin id) (d :: ds) st2 Φ) : AE Γ C (.Call (.Attribute o name apos) args [] pos) st Φ := by
 simp only [Bool.and_eq_true] at hc
 exact AE_Meth hc.1.1.1 hc.1.1.2 hc.1.2 hc.2 PySem.F.plainAttrs_str slot hty (AW.mono h fun d st1 ⟨l, e, k⟩ => ⟨by subst e; exact ofType_str, k⟩)
theorem gE_Mapp {o : Expr} {apos args pos} {Φ : D → St → Prop} (hc : (baseOk o && decide (args.length < 30) && noStar args && (apos.endLine == pos.line)) = true)
  (h : AE Γ C o st fun d st1 => ∃ i l, d = .mut i ∧ st1.mu[i]? = some l ∧ AEs Γ C args st1 fun ds st2 => ACall Γ C (.builtin "list.append") (d :: ds) st2 Φ) : AE Γ C (.Call (.Attribute o "append" apos) args [] pos) st Φ := by
 simp only [Bool.and_eq_true] at hc
 exact AE_Meth hc.1.1.1 hc.1.1.2 hc.1.2 hc.2 PySem.F.plainAttrs_list PySem.F.slot_list_append (by rfl) (AW.mono h fun d st1 ⟨i, l, e, e2, k⟩ => ⟨by subst e; exact ofType_mut e2, k⟩)
theorem gE_DictGet {x1 x2 y1 y2 : Str} {k1 k2 v1 v2 : List Nat} {n1 n2 m1 m2 : Nat} {p1 p2 q1 q2 dp ap pos : Pos} {e1 e2 : Expr} {Φ : D → St → Prop} (h1 : cp x1 = k1) (h2 : cp x2 = k2) (h3 : cp y1 = v1) (h4 : cp y2 = v2) (hk : k1 ≠ k2) (hv1 : v1.length ≤ 1048576) (hv2 : v2.length ≤ 1048576) (hs : noStar [e1, e2] = true) (hl : (ap.endLine == pos.line) = true)
  (h : AE Γ C e1 st fun d st1 => ∃ x, d = .str x ∧ AE Γ C e2 st1 fun d2 st2 => Φ (if x = k1 then .str v1 else if x = k2 then .str v2 else d2) st2) :
  AE Γ C (.Call (.Attribute (.Dict [some (.Constant (.str x1) n1 p1), some (.Constant (.str x2) n2 p2)] [.Constant (.str y1) m1 q1, .Constant (.str y2) m2 q2] dp) "get" ap) [e1, e2] [] pos) st Φ := by
 obtain rfl : x1 = S k1 := by rw [← h1, S_cp]
 obtain rfl : x2 = S k2 := by rw [← h2, S_cp]
 obtain rfl : y1 = S v1 := by rw [← h3, S_cp]
 obtain rfl : y2 = S v2 := by rw [← h4, S_cp]
 with_reducible exact AE_DictGet hk hv1 hv2 hs hl h
end
end
section
/-! a block run over what its names are known to be; what the run must be told stands in a list -/
inductive Or where
 | b (g : Bool)
 | v (d : D)
 | l (x : List D)
noncomputable def kcT : List (Str × List Nat) := [(Str.ofString "=", [61]), (Str.ofString "", []), (Str.ofString " \t", [32, 9]), (Str.ofString "\r\n", [13, 10]), (Str.ofString ".", [46]), (Str.ofString "*", [42]), (Str.ofString "?", [63]), (Str.ofString "[", [91]), (Str.ofString "!", [33]), (Str.ofString "]", [93]), (Str.ofString "\\[", [92, 91]), (Str.ofString "-", [45]), (Str.ofString "([&~|])", [40, 91, 38, 126, 124, 93, 41]), (Str.ofString "\\\\\\1", [92, 92, 92, 49]), (Str.ofString "\\", [92]), (Str.ofString "\\\\", [92, 92]), (Str.ofString "(?!)", [40, 63, 33, 41]), (Str.ofString "\\-", [92, 45]), (Str.ofString "^", [94]), (Str.ofString "(?s:", [40, 63, 115, 58]), (Str.ofString ")\\Z", [41, 92, 90]), (Str.ofString ".*", [46, 42]), (Str.ofString "(?>.*?", [40, 63, 62, 46, 42, 63]), (Str.ofString ")", [41]), (Str.ofString "latin1", [108, 97, 116, 105, 110, 49]), (Str.ofString "?pc?d?b?-?l?s???", [63, 112, 99, 63, 100, 63, 98, 63, 45, 63, 108, 63, 115, 63, 63, 63]), (Str.ofString "-x", [45, 120]), (Str.ofString "Tt", [84, 116]), (Str.ofString "Ss", [83, 115]), (Str.ofString "-r", [45, 114]), (Str.ofString "-w", [45, 119]), (Str.ofString "a range that goes down", [97, 32, 114, 97, 110, 103, 101, 32, 116, 104, 97, 116, 32, 103, 111, 101, 115, 32, 100, 111, 119, 110]), (Str.ofString "no frame", [110, 111, 32, 102, 114, 97, 109, 101]), (Str.ofString "free", [102, 114, 101, 101]), (Str.ofString "held", [104, 101, 108, 100]), (Str.ofString "no such row of groups", [110, 111, 32, 115, 117, 99, 104, 32, 114, 111, 119, 32, 111, 102, 32, 103, 114, 111, 117, 112, 115]), (Str.ofString "run", [114, 117, 110]), (Str.ofString "()*+?{}|^$", [40, 41, 42, 43, 63, 123, 125, 124, 94, 36]), (Str.ofString "0123456789ABCDEF", [48, 49, 50, 51, 52, 53, 54, 55, 56, 57, 65, 66, 67, 68, 69, 70]), (Str.ofString "\t", [9]), (Str.ofString " ", [32]), (Str.ofString "~", [126]), (Str.ofString "=20", [61, 50, 48]), (Str.ofString "=09", [61, 48, 57]), (Str.ofString " \t=éE9a3*?[D", [32, 9, 61, 233, 69, 57, 97, 51, 42, 63, 91, 68]), (Str.ofString "[ \t]", [91, 32, 9, 93]), (Str.ofString "=??", [61, 63, 63]), (Str.ofString "=E9", [61, 69, 57]), (Str.ofString "=3D", [61, 51, 68]), (Str.ofString "é", [233]), (Str.ofString "[!", [91, 33]), (Str.ofString "[z-a", [91, 122, 45, 97]), (Str.ofString "*=", [42, 61]), (Str.ofString "\n", [10]), (Str.ofString "<br>", [60, 98, 114, 62])]
theorem kcT_ok : kcT.all (fun p => decide (cp p.1 = p.2 ∧ p.1.length ≤ 1048576)) = true := by decide +kernel
noncomputable abbrev All : List Prop → Prop
 | [] => True
 | p :: r => p ∧ All r
noncomputable abbrev EvR (α : Type) := Option (α × St × List Or × List Prop)
noncomputable def stPt : Stmt → List Stmt × List Stmt
 | .If _ t e _ => (t, e)
 | .While _ t e _ => (t, e)
 | .For _ _ t e _ => (t, e)
 | _ => ([], [])
noncomputable def subB (b : List Stmt) (k : Nat) : List Stmt := (stPt (b.getD k default)).1
noncomputable def subE (b : List Stmt) (k : Nat) : List Stmt := (stPt (b.getD k default)).2
theorem hmu {Z : List D} {mu : List (List D)} : (mu ++ [Z])[mu.length]? = some Z := List.getElem?_concat_length
theorem hset {Y Z : List D} {mu : List (List D)} : (mu ++ [Y]).set mu.length Z = mu ++ [Z] := by
 rw [List.set_append_right _ _ (Nat.le_refl _), Nat.sub_self]; rfl
section
variable {α β : Type}
noncomputable def evG (b : Bool) (x : Option α) : Option α := match b with
 | true => x
 | false => none
noncomputable def evD (x : EvR α) (f : α → St → List Or → List Prop → Option β) : Option β := match x with
 | some (a, st, os, cs) => f a st os cs
 | none => none
noncomputable def evP (x : Option α) (f : α → Option β) : Option β := match x with
 | some a => f a
 | none => none
noncomputable def evM (st : St) (f : List (Str × D) → List (List D) → α) : α := match st with
 | ⟨m, mu⟩ => f m mu
noncomputable def evOb (os : List Or) (f : Bool → List Or → Option β) : Option β := match os with
 | .b g :: os => f g os
 | _ => none
noncomputable def evOv (os : List Or) (f : D → List Or → Option β) : Option β := match os with
 | .v g :: os => f g os
 | _ => none
noncomputable def evOl (os : List Or) (f : List D → List Or → Option β) : Option β := match os with
 | .l g :: os => f g os
 | _ => none
noncomputable def evT2 (d1 d2 : D) (f : Int → Int → Option β) (g : List Nat → List Nat → Option β) : Option β := match d1 with
 | .int a => match d2 with
  | .int b => f a b
  | _ => none
 | .str x => match d2 with
  | .str y => g x y
  | _ => none
 | _ => none
noncomputable def evB2 (d1 d2 : D) (f : Bool → Bool → Option β) (g : Option β) : Option β := match d1 with
 | .bool a => match d2 with
  | .bool b => f a b
  | _ => g
 | _ => g
noncomputable def evOne (x : List Nat) (f : Nat → Option β) : Option β := match x with
 | [c] => f c
 | _ => none
noncomputable def evInt (d : D) (f : Int → Option β) : Option β := match d with
 | .int k => f k
 | _ => none
noncomputable def evMut (d : D) (f : Nat → Option β) (g : Option β) : Option β := match d with
 | .mut k => f k
 | _ => g
noncomputable def evStr (d : D) (f : List Nat → Option β) : Option β := match d with
 | .str k => f k
 | _ => none
noncomputable def evTpl (d : D) (f : List D → Option β) : Option β := match d with
 | .tup k => f k
 | _ => none
end
noncomputable def mT : List (Str × String) := [("join", "str.join"), ("splitlines", "str.splitlines"), ("split", "str.split"), ("rstrip", "str.rstrip"), ("endswith", "str.endswith"), ("find", "str.find"), ("index", "str.index"), ("replace", "str.replace"), ("translate", "str.translate")]
theorem mT_ok : ∀ p ∈ mT, Slot "str" p.1 p.2 ∧ typeOf (.builtin p.2) = pure (.type "method_descriptor") :=
 List.forall_mem_cons.mpr ⟨⟨PySem.F.slot_str_join, PySem.F.type_str_join⟩, List.forall_mem_cons.mpr ⟨⟨PySem.F.slot_str_splitlines, PySem.F.type_str_splitlines⟩, List.forall_mem_cons.mpr ⟨⟨PySem.F.slot_str_split, PySem.F.type_str_split⟩,
 List.forall_mem_cons.mpr ⟨⟨PySem.F.slot_str_rstrip, PySem.F.type_str_rstrip⟩, List.forall_mem_cons.mpr ⟨⟨PySem.F.slot_str_endswith, PySem.F.type_str_endswith⟩, List.forall_mem_cons.mpr ⟨⟨PySem.F.slot_str_find, PySem.F.type_str_find⟩,
 List.forall_mem_cons.mpr ⟨⟨PySem.F.slot_str_index, PySem.F.type_str_index⟩, List.forall_mem_cons.mpr ⟨⟨PySem.F.slot_str_replace, PySem.F.type_str_replace⟩, List.forall_mem_cons.mpr ⟨⟨PySem.F.slot_str_translate, PySem.F.type_str_translate⟩, fun _ h => absurd h List.not_mem_nil⟩⟩⟩⟩⟩⟩⟩⟩⟩
structure Evs where
 E : Expr → St → List Or → List Prop → EvR D
 T : Expr → St → List Or → List Prop → EvR Bool
 B : List Stmt → St → List Or → List Prop → EvR Fl
noncomputable section
variable (Γ : Gl prog w) (C : Cx) (F : Nat → Addr) (kn : List (Str × NameKind)) (r : Evs)
noncomputable def SE (e : Expr) (st : St) (d : D) (st' : St) : Prop := ∀ Φ : D → St → Prop, Φ d st' → AE Γ C e st Φ
noncomputable def ST (e : Expr) (st : St) (b : Bool) (st' : St) : Prop := ∀ Φ : Bool → St → Prop, Φ b st' → AT Γ C e st Φ
noncomputable def SS (s : Stmt) (st : St) (fl : Fl) (st' : St) : Prop := ∀ Φ : Fl → St → Prop, Φ fl st' → AS Γ C s st Φ
noncomputable def SB (b : List Stmt) (st : St) (fl : Fl) (st' : St) : Prop := ∀ Φ : Fl → St → Prop, Φ fl st' → AB Γ C b st Φ
noncomputable def SV (k : Value → Value → Sem Value) (d1 d2 d : D) : Prop := ∀ (st : St) (Φ : D → St → Prop), Φ d st → AV2 Γ C k d1 d2 st Φ
noncomputable def SA (f : Value) (ds : List D) (st : St) (d : D) (st' : St) : Prop := ∀ Φ : D → St → Prop, Φ d st' → ACall Γ C f ds st Φ
noncomputable def evVo (x : Option (D × List Prop)) (st : St) (os : List Or) (cs : List Prop) (P : D → Prop) : EvR D := match x with
 | some (d, cs) => some (d, st, os, cs)
 | none => evOv os fun d os => some (d, st, os, P d :: cs)
noncomputable def evCo (x : Option Bool) (st : St) (os : List Or) (cs : List Prop) (P : Bool → Prop) : EvR Bool := match x with
 | some b => some (b, st, os, cs)
 | none => evOb os fun g os => some (g, st, os, P g :: cs)
noncomputable def FnOk (i : Nat) (ds : List D) (d : D) : Prop := ∃ m, Fn Γ m (.ref (F i)) ds d ∧ C.A.depth + m ≤ 600 ∧ C.A.units + 10 * m ≤ 5000
noncomputable def evV (op : Operator) (d1 d2 : D) (cs : List Prop) : Option (D × List Prop) := match op with
 | .Add => evT2 d1 d2 (fun a b => some (.int (a + b), cs)) fun x y => some (.str (x ++ y), ((x ++ y).length ≤ 1048576) :: cs)
 | .Sub => evT2 d1 d2 (fun a b => some (.int (a - b), cs)) fun _ _ => none
 | .BitAnd => evT2 d1 d2 (fun a b => some (.int (Builtin.bitAnd a b), cs)) fun _ _ => none
 | .Mod => evT2 d1 d2 (fun a b => some (.int (a.fmod b), (b ≠ 0) :: cs)) fun _ _ => none
 | .FloorDiv => evT2 d1 d2 (fun a b => some (.int (a.fdiv b), (b ≠ 0 ∧ Builtin.divisionGoesByPylong a b = false) :: cs)) fun _ _ => none
 | _ => none
noncomputable def evI (op : Operator) (d1 d2 : D) (cs : List Prop) : Option (D × List Prop) := match op with
 | .Add => evT2 d1 d2 (fun a b => some (.int (a + b), cs)) fun x y => some (.str (x ++ y), ((x ++ y).length ≤ 1048576) :: cs)
 | _ => none
noncomputable def evC (op : CmpOp) (d1 d2 : D) : Option Bool := match op with
 | .Lt => evT2 d1 d2 (fun a b => some (decide (a < b))) fun x y => some (decide (x < y))
 | .Gt => evT2 d1 d2 (fun a b => some (decide (b < a))) fun x y => some (decide (y < x))
 | .LtE => evT2 d1 d2 (fun a b => some (decide (a ≤ b))) fun x y => some (!decide (y < x))
 | .GtE => evT2 d1 d2 (fun a b => some (decide (b ≤ a))) fun _ _ => none
 | .Eq => evB2 d1 d2 (fun a b => some (a == b)) (evT2 d1 d2 (fun a b => some (decide (a = b))) fun x y => some (decide (x = y)))
 | .NotEq => evB2 d1 d2 (fun a b => some (!(a == b))) (evT2 d1 d2 (fun a b => some (!decide (a = b))) fun x y => some (!decide (x = y)))
 | .In => evT2 d1 d2 (fun _ _ => none) fun x y => evOne x fun c => some (decide (c ∈ y))
 | .NotIn => evT2 d1 d2 (fun _ _ => none) fun x y => evOne x fun c => some (!decide (c ∈ y))
 | _ => none
noncomputable def ordE (e : Expr) (st : St) (os : List Or) (cs : List Prop) : EvR D := evOv os fun d os => some (d, st, os, SE Γ C e st d st :: cs)
noncomputable def ordT (e : Expr) (st : St) (os : List Or) (cs : List Prop) : EvR Bool := evOb os fun d os => some (d, st, os, ST Γ C e st d st :: cs)
noncomputable def evL (E : Expr → St → List Or → List Prop → EvR D) : List Expr → St → List Or → List Prop → EvR (List D)
 | [], st, os, cs => some ([], st, os, cs)
 | e :: es, st, os, cs => evD (E e st os cs) fun d st os cs => evD (evL E es st os cs) fun ds st os cs => some (d :: ds, st, os, cs)
noncomputable def evO (E : Expr → St → List Or → List Prop → EvR D) (e : Option Expr) (st : St) (os : List Or) (cs : List Prop) : EvR (Option Int) := match e with
 | none => some (none, st, os, cs)
 | some e => evD (E e st os cs) fun d st os cs => evInt d fun k => some (some k, st, os, cs)
noncomputable def GV (x : Str) : D → Prop
 | .val v => Γ.nv x = some v
 | d => Γ.gd x = some d
noncomputable def evName (x : Str) (st : St) (os : List Or) (cs : List Prop) : EvR D := evG (nmOk x) (match st.m.lookup x with
  | some d => some (d, st, os, cs)
  | none => evG (kn.lookup x == some .globalImplicit) (evOv os fun d os => some (d, st, os, GV Γ x d :: cs)))
noncomputable def evK (c : Const) (st : St) (os : List Or) (cs : List Prop) : EvR D :=
 match c with
 | .int i => some (.int i, st, os, cs)
 | .bool b => some (.bool b, st, os, cs)
 | .none => some (.none, st, os, cs)
 | .str x => evP (kcT.lookup x) fun l => some (.str l, st, os, cs)
 | _ => none
noncomputable def evBin (l : Expr) (op : Operator) (q : Expr) (st : St) (os : List Or) (cs : List Prop) : EvR D :=
 evD (r.E l st os cs) fun d1 st os cs => evD (r.E q st os cs) fun d2 st os cs => evVo (evV op d1 d2 cs) st os cs (SV Γ C (binaryOp op) d1 d2)
noncomputable def evCmp (l : Expr) (ops : List CmpOp) (rs : List Expr) (st : St) (os : List Or) (cs : List Prop) (dflt : EvR Bool) : EvR Bool :=
 match ops, rs with
 | [op], [q] => evG (!behindInMarks op q) (evD (r.E l st os cs) fun d1 st os cs => evD (r.E q st os cs) fun d2 st os cs => evCo (evC op d1 d2) st os cs fun b => SV Γ C (compareOp op) d1 d2 (.bool b))
 | _, _ => dflt
noncomputable def evLen (d : D) (st : St) (os : List Or) (cs : List Prop) : EvR D :=
 evMut d (fun i => evOv os fun n os => evInt n fun k => some (.int k, st, os, (∃ n : Nat, k = n ∧ lenD st.mu (.mut i) = some n) :: cs)) (evP (lenD [] d) fun n => some (.int n, st, os, cs))
noncomputable def evBo (x : Str) (ds : List D) (st : St) (os : List Or) (cs : List Prop) : EvR D := evP (bT.lookup x) fun f => evOv os fun d os => some (d, st, os, SA Γ C f ds st d st :: cs)
noncomputable def evBt (x : Str) (ds : List D) (st : St) (os : List Or) (cs : List Prop) : EvR D :=
 match ds with
 | [d] => match x == "len" with
  | true => evLen d st os cs
  | false => match x == "ord" with
   | true => evStr d fun y => evOne y fun c => some (.int c, st, os, cs)
   | false => evBo Γ C x [d] st os cs
 | ds => evBo Γ C x ds st os cs
noncomputable def evPut (i : Nat) (x : EvR D) : EvR D :=
 evD x fun d st os cs => evM st fun m mu => evOl os fun l os => some (.none, ⟨m, mu.set i (l ++ [d])⟩, os, (mu[i]? = some l ∧ l.length < 1048576) :: cs)
noncomputable def evCallN (x : Str) (args : List Expr) (st : St) (os : List Or) (cs : List Prop) : EvR D := match nmOk x && (kn.lookup x == some .globalImplicit) && noStar args with
  | true => evD (evL r.E args st os cs) fun ds st os cs => match fT.lookup x with
   | some i => evOv os fun d os => some (d, st, os, FnOk Γ C F i ds d :: cs)
   | none => evBt Γ C x ds st os cs
  | false => match args with
   | [arg] => evG (nmOk x && noStar [arg]) (evP (st.m.lookup x) fun g => match g with
    | .meth i => evPut i (r.E arg st os cs)
    | _ => none)
   | _ => none
noncomputable def evCallA (o : Expr) (n : Str) (apos : Pos) (args : List Expr) (pos : Pos) (st : St) (os : List Or) (cs : List Prop) : EvR D := match n == "append" with
  | true => match args with
   | [a] => evG (baseOk o && decide (args.length < 30) && noStar args && (apos.endLine == pos.line)) (evD (r.E o st os cs) fun d st os cs => evMut d (fun i => evOl os fun l os => evPut i (r.E a st os ((st.mu[i]? = some l) :: cs))) none)
   | _ => none
  | false => match mT.lookup n with
   | some id => evG (baseOk o && decide (args.length < 30) && noStar args && (apos.endLine == pos.line)) (evD (r.E o st os cs) fun d st os cs => evStr d fun l => evD (evL r.E args st os cs) fun ds st os cs => evOv os fun d' os => some (d', st, os, SA Γ C (.builtin id) (.str l :: ds) st d' st :: cs))
   | none => ordE Γ C (.Call (.Attribute o n apos) args [] pos) st os cs
noncomputable def evCall (f : Expr) (args : List Expr) (kws : List Keyword) (pos : Pos) (st : St) (os : List Or) (cs : List Prop) : EvR D :=
 match kws with
 | [] => match f with
  | .Name x p => evCallN Γ C F kn r x args st os cs
  | .Attribute o n apos => evCallA Γ C r o n apos args pos st os cs
  | f => ordE Γ C (.Call f args [] pos) st os cs
 | _ => none
noncomputable def evSub (v s : Expr) (st : St) (os : List Or) (cs : List Prop) : EvR D :=
 match s with
 | .Slice lo hi none p => evD (r.E v st os cs) fun d st os cs => evD (evO r.E lo st os cs) fun a st os cs => evD (evO r.E hi st os cs) fun b st os cs =>
   evMut d (fun i => evOv os fun q os => some (q, st, os, (sliceD st.mu (.mut i) a b = some q) :: cs)) (evP (sliceD [] d a b) fun q => some (q, st, os, cs))
 | .Slice _ _ (some _) _ => none
 | s => evD (r.E v st os cs) fun d st os cs => evD (r.E s st os cs) fun k st os cs => evInt k fun k => evOv os fun q os => some (q, st, os, (subD st.mu d k = some q) :: cs)
noncomputable def evTup (es : List Expr) (st : St) (os : List Or) (cs : List Prop) : EvR D :=
 evG (noStar es) (evD (evL r.E es st os cs) fun ds st os cs => evG (decide (ds.length ≤ 1048576)) (some (.tup ds, st, os, cs)))
noncomputable def evLst (es : List Expr) (st : St) (os : List Or) (cs : List Prop) : EvR D :=
 evG (noStar es) (evD (evL r.E es st os cs) fun ds st os cs => evG (decide (ds.length ≤ 1048576)) (evOb os fun g os => match g with
  | true => evM st fun m mu => some (.mut mu.length, ⟨m, mu ++ [ds]⟩, os, cs)
  | false => some (.lst ds, st, os, cs)))
noncomputable def evIf {α : Type} (t : Expr) (a b : St → List Or → List Prop → EvR α) (st : St) (os : List Or) (cs : List Prop) : EvR α :=
 evD (r.T t st os cs) fun g st os cs => match g with
  | true => a st os cs
  | false => b st os cs
noncomputable def isNm : Expr → Bool
 | .Name _ _ => true
 | _ => false
noncomputable def evAtt (o : Expr) (n : Str) (pos : Pos) (st : St) (os : List Or) (cs : List Prop) : EvR D := match n == "append" with
 | true => evG (baseOk o && isNm o) (evD (r.E o st os cs) fun d st os cs => evMut d (fun i => some (.meth i, st, os, cs)) none)
 | false => ordE Γ C (.Attribute o n pos) st os cs
noncomputable def evUn (op : UnaryOp) (x : Expr) (st : St) (os : List Or) (cs : List Prop) : EvR D := match op with
 | .USub => evD (r.E x st os cs) fun d st os cs => evInt d fun i => some (.int (-i), st, os, cs)
 | _ => none
noncomputable def stepE (e : Expr) (st : St) (os : List Or) (cs : List Prop) : EvR D :=
 match e with
 | .Name x _ => evName Γ kn x st os cs
 | .Constant c _ _ => evK c st os cs
 | .BinOp l op q _ => evBin Γ C r l op q st os cs
 | .Compare l ops rs _ => evD (evCmp Γ C r l ops rs st os cs none) fun b st os cs => some (.bool b, st, os, cs)
 | .Attribute o n p => evAtt Γ C r o n p st os cs
 | .Call f args kws pos => evCall Γ C F kn r f args kws pos st os cs
 | .Subscript v s _ => evSub r v s st os cs
 | .Tuple es _ _ => evTup r es st os cs
 | .List es _ => evLst r es st os cs
 | .UnaryOp op x _ => evUn r op x st os cs
 | .IfExp t a b _ => evIf r t (r.E a) (r.E b) st os cs
 | e => ordE Γ C e st os cs
noncomputable def evTs (op : BoolOp) : List Expr → St → List Or → List Prop → EvR Bool
 | [], st, os, cs => match op with
  | .And => some (true, st, os, cs)
  | .Or => some (false, st, os, cs)
 | e :: es, st, os, cs => evD (r.T e st os cs) fun g st os cs => match op with
  | .And => match g with
   | true => evTs op es st os cs
   | false => some (false, st, os, cs)
  | .Or => match g with
   | true => some (true, st, os, cs)
   | false => evTs op es st os cs
noncomputable def evPl (e : Expr) (st : St) (os : List Or) (cs : List Prop) : EvR Bool :=
 match plainT e with
 | true => evD (r.E e st os cs) fun d st os cs => evOb os fun g os => some (g, st, os, (truthyD st.mu d = some g) :: cs)
 | false => ordT Γ C e st os cs
noncomputable def evNot (op : UnaryOp) (x : Expr) (st : St) (os : List Or) (cs : List Prop) (dflt : EvR Bool) : EvR Bool := match op with
 | .Not => evD (r.T x st os cs) fun b st os cs => some (!b, st, os, cs)
 | _ => dflt
noncomputable def stepT (e : Expr) (st : St) (os : List Or) (cs : List Prop) : EvR Bool :=
 match e with
 | .Compare l ops rs p => match ops.length == 1 with
  | true => evD (evCmp Γ C r l ops rs st os cs none) fun b st os cs => evOb os fun g os => some (g, st, os, (b = g) :: cs)
  | false => ordT Γ C (.Compare l ops rs p) st os cs
 | .BoolOp op es _ => evTs r op es st os cs
 | .UnaryOp op x p => evNot r op x st os cs (evPl Γ C r (.UnaryOp op x p) st os cs)
 | e => evPl Γ C r e st os cs
noncomputable def evAsg (ts : List Expr) (e : Expr) (st : St) (os : List Or) (cs : List Prop) : EvR Fl :=
 match ts with
 | [t] => match t with
  | .Name x _ => evG (!isComp e && storable kn x) (evD (r.E e st os cs) fun d st os cs => evM st fun m mu => some (.next, ⟨upd m x d, mu⟩, os, cs))
  | .Tuple ts' _ _ => match e with
   | .Tuple vs k p => evP (swapNames kn ts' vs) fun names => evD (r.E (.Tuple vs k p) st os cs) fun d st os cs => evTpl d fun ds => evG (decide (ds.length = names.length)) (evM st fun m mu =>
     some (.next, ⟨(names.reverse.zip ds.reverse).foldl (fun m p => upd m p.1 p.2) m, mu⟩, os, cs))
   | _ => none
  | _ => none
 | _ => none
noncomputable def evI2 {α : Type} (x : Option (D × List Prop)) (f : D → List Prop → Option α) : Option α := match x with
 | some (d, cs) => f d cs
 | none => none
noncomputable def evGrow (x : Str) (i : Nat) (d : D) (st : St) (os : List Or) (cs : List Prop) : EvR Fl :=
 evOl os fun l os => evOl os fun l2 os => evM st fun m mu => some (.next, ⟨upd m x (.mut i), mu.set i (l ++ l2)⟩, os, (mu[i]? = some l ∧ itemsD mu d = some l2 ∧ (l ++ l2).length ≤ 1048576) :: cs)
noncomputable def evAug (t : Expr) (op : Operator) (e : Expr) (st : St) (os : List Or) (cs : List Prop) : EvR Fl :=
 match t with
 | .Name x _ => evG (storable kn x && nmOk x) (evP (st.m.lookup x) fun d0 => evD (r.E e st os cs) fun d st os cs => evMut d0 (fun i => evG (op == .Add) (evGrow x i d st os cs)) (evI2 (evI op d0 d cs) fun d cs => evM st fun m mu => some (.next, ⟨upd m x d, mu⟩, os, cs)))
 | _ => none
noncomputable def stepS (s : Stmt) (st : St) (os : List Or) (cs : List Prop) : EvR Fl :=
 match s with
 | .Assign ts e _ => evAsg kn r ts e st os cs
 | .AugAssign t op e _ => evAug kn r t op e st os cs
 | .Expr e _ => evG (!isComp e) (evD (r.E e st os cs) fun _ st os cs => some (.next, st, os, cs))
 | .Return e _ => evP e fun e => evD (r.E e st os cs) fun d st os cs => some (.ret d, st, os, cs)
 | .Break _ => some (.brk, st, os, cs)
 | .Continue _ => some (.cont, st, os, cs)
 | .If t a b _ => evIf r t (r.B a) (r.B b) st os cs
 | .Assert t _ _ => evD (r.T t st os cs) fun g st os cs => evG g (some (.next, st, os, cs))
 | _ => none
noncomputable def stepB : List Stmt → St → List Or → List Prop → EvR Fl
 | [], st, os, cs => some (.next, st, os, cs)
 | s :: rest, st, os, cs => evD (stepS kn r s st os cs) fun fl st os cs => match fl with
  | .next => stepB rest st os cs
  | .brk => some (.brk, st, os, cs)
  | .cont => some (.cont, st, os, cs)
  | .ret d => some (.ret d, st, os, cs)
noncomputable def evs : Nat → Evs
 | 0 => ⟨fun _ _ _ _ => none, fun _ _ _ _ => none, fun _ _ _ _ => none⟩
 | n + 1 => ⟨stepE Γ C F kn (evs n), stepT Γ C (evs n), stepB kn (evs n)⟩
noncomputable def runB : Nat → List Stmt → St → List Or → List Prop → Option (List Stmt × St × List Or × List Prop)
 | 0, b, st, os, cs => some (b, st, os, cs)
 | k + 1, b, st, os, cs => match b with
  | [] => none
  | s :: rest => evD (stepS kn r s st os cs) fun fl st os cs => match fl with
   | .next => runB k rest st os cs
   | _ => none
end
section
variable {α β : Type} {cs : List Prop} {P : α → St → Prop} {Q : β → St → Prop}
noncomputable def Snd (cs : List Prop) (x : EvR α) (P : α → St → Prop) : Prop := ∀ y, x = some y → All y.2.2.2 → All cs ∧ P y.1 y.2.1
theorem Snd.no : Snd cs (none : EvR α) P := nofun
theorem Snd.ret {a : α} {st os} (h : All cs → P a st) : Snd cs (some (a, st, os, cs)) P := by rintro y ⟨⟩ hc; exact ⟨hc, h hc⟩
theorem Snd.add {a : α} {st os p} (h : p → All cs → P a st) : Snd cs (some (a, st, os, p :: cs)) P := by rintro y ⟨⟩ hc; exact ⟨hc.2, h hc.1 hc.2⟩
theorem Snd.bind {x : EvR α} {f : α → St → List Or → List Prop → EvR β} (h : Snd cs x P) (k : ∀ a st os cs1, (All cs1 → All cs ∧ P a st) → Snd cs1 (f a st os cs1) Q) : Snd cs (evD x f) Q := by
 intro y e hc
 cases x with
 | none => cases e
 | some p =>
  have k2 := k p.1 p.2.1 p.2.2.1 p.2.2.2 (h p rfl) y e hc
  exact ⟨(h p rfl k2.1).1, k2.2⟩
theorem Snd.opt {γ : Type} {x : Option γ} {f : γ → EvR β} (k : ∀ a, x = some a → Snd cs (f a) Q) : Snd cs (evP x f) Q := by
 cases x with
 | none => exact .no
 | some p => exact k p rfl
theorem Snd.grd {b : Bool} {x : EvR β} (k : b = true → Snd cs x Q) : Snd cs (evG b x) Q := by
 cases b with
 | true => exact k rfl
 | false => exact .no
theorem Snd.ob {os} {f : Bool → List Or → EvR β} (k : ∀ g os, Snd cs (f g os) Q) : Snd cs (evOb os f) Q := by
 cases os with
 | nil => exact .no
 | cons o r => cases o with
  | b g => exact k g r
  | _ => exact .no
theorem Snd.ov {os} {f : D → List Or → EvR β} (k : ∀ g os, Snd cs (f g os) Q) : Snd cs (evOv os f) Q := by
 cases os with
 | nil => exact .no
 | cons o r => cases o with
  | v g => exact k g r
  | _ => exact .no
theorem Snd.ol {os} {f : List D → List Or → EvR β} (k : ∀ g os, Snd cs (f g os) Q) : Snd cs (evOl os f) Q := by
 cases os with
 | nil => exact .no
 | cons o r => cases o with
  | l g => exact k g r
  | _ => exact .no
theorem Snd.int {d} {f : Int → EvR β} (k : ∀ i, d = .int i → Snd cs (f i) Q) : Snd cs (evInt d f) Q := by
 cases d with
 | int i => exact k i rfl
 | _ => exact .no
theorem Snd.str {d} {f : List Nat → EvR β} (k : ∀ i, d = .str i → Snd cs (f i) Q) : Snd cs (evStr d f) Q := by
 cases d with
 | str i => exact k i rfl
 | _ => exact .no
theorem Snd.tpl {d} {f : List D → EvR β} (k : ∀ i, d = .tup i → Snd cs (f i) Q) : Snd cs (evTpl d f) Q := by
 cases d with
 | tup i => exact k i rfl
 | _ => exact .no
theorem Snd.mut {d} {f : Nat → EvR β} {g : EvR β} (k : ∀ i, d = .mut i → Snd cs (f i) Q) (h : Snd cs g Q) : Snd cs (evMut d f g) Q := by
 cases d with
 | «mut» i => exact k i rfl
 | _ => exact h
theorem Snd.one {x} {f : Nat → EvR β} (k : ∀ c, x = [c] → Snd cs (f c) Q) : Snd cs (evOne x f) Q := by
 match x with
 | [c] => exact k c rfl
 | [] => exact .no
 | _ :: _ :: _ => exact .no
end
section
variable {Γ : Gl prog w} {C : Cx} {F : Nat → Addr} {kn : List (Str × NameKind)} {r : Evs}
structure EvOk (Γ : Gl prog w) (C : Cx) (r : Evs) : Prop where
 E : ∀ {e st os cs}, Snd cs (r.E e st os cs) (SE Γ C e st)
 T : ∀ {e st os cs}, Snd cs (r.T e st os cs) (ST Γ C e st)
 B : ∀ {e st os cs}, Snd cs (r.B e st os cs) (SB Γ C e st)
noncomputable def SndV (cs : List Prop) (x : Option (D × List Prop)) (P : D → Prop) : Prop := ∀ y, x = some y → All y.2 → All cs ∧ P y.1
section
variable {cs : List Prop} {P : D → Prop}
theorem SndV.no : SndV cs none P := nofun
theorem SndV.ret {d} (h : P d) : SndV cs (some (d, cs)) P := by rintro y ⟨⟩ hc; exact ⟨hc, h⟩
theorem SndV.add {d p} (h : p → P d) : SndV cs (some (d, p :: cs)) P := by rintro y ⟨⟩ hc; exact ⟨hc.2, h hc.1⟩
theorem SndV.two {d1 d2} {f : Int → Int → Option (D × List Prop)} {g : List Nat → List Nat → Option (D × List Prop)} (h1 : ∀ a b, d1 = .int a → d2 = .int b → SndV cs (f a b) P) (h2 : ∀ a b, d1 = .str a → d2 = .str b → SndV cs (g a b) P) : SndV cs (evT2 d1 d2 f g) P := by
 cases d1 with
 | int a => cases d2 with
  | int b => exact h1 a b rfl rfl
  | _ => exact .no
 | str a => cases d2 with
  | str b => exact h2 a b rfl rfl
  | _ => exact .no
 | _ => exact .no
end
theorem evV_ok {op d1 d2 cs} : SndV cs (evV op d1 d2 cs) (SV Γ C (binaryOp op) d1 d2) := by
 cases op with
 | Add => exact .two (fun a b h1 h2 => by subst h1 h2; exact .ret fun _ _ k => op_add_int k) fun a b h1 h2 => by subst h1 h2; exact .add fun h _ _ k => op_add_str k h
 | Sub => exact .two (fun a b h1 h2 => by subst h1 h2; exact .ret fun _ _ k => op_sub_int k) fun a b h1 h2 => .no
 | BitAnd => exact .two (fun a b h1 h2 => by subst h1 h2; exact .ret fun _ _ k => op_and_int k) fun a b h1 h2 => .no
 | Mod => exact .two (fun a b h1 h2 => by subst h1 h2; exact .add fun h _ _ k => op_mod_int k h) fun a b h1 h2 => .no
 | FloorDiv => exact .two (fun a b h1 h2 => by subst h1 h2; exact .add fun h _ _ k => op_div_int k h.1 h.2) fun a b h1 h2 => .no
 | _ => exact .no
theorem evI_ok {op d1 d2 cs} : SndV cs (evI op d1 d2 cs) (SV Γ C (inplaceOp op) d1 d2) := by
 cases op with
 | Add => exact .two (fun a b h1 h2 => by subst h1 h2; exact .ret fun _ _ k => op_iadd_int k) fun a b h1 h2 => by subst h1 h2; exact .add fun h _ _ k => op_iadd_str k h
 | _ => exact .no
noncomputable def SC (Γ : Gl prog w) (C : Cx) (op : CmpOp) (d1 d2 : D) (x : Option Bool) : Prop := ∀ b, x = some b → SV Γ C (compareOp op) d1 d2 (.bool b)
theorem SC.no {op d1 d2} : SC Γ C op d1 d2 none := nofun
theorem SC.ret {op d1 d2 b} (h : SV Γ C (compareOp op) d1 d2 (.bool b)) : SC Γ C op d1 d2 (some b) := by rintro y ⟨⟩; exact h
theorem SC.two {op d1 d2} {f : Int → Int → Option Bool} {g : List Nat → List Nat → Option Bool} (h1 : ∀ a b, SC Γ C op (.int a) (.int b) (f a b)) (h2 : ∀ a b, SC Γ C op (.str a) (.str b) (g a b)) : SC Γ C op d1 d2 (evT2 d1 d2 f g) := by
 cases d1 with
 | int a => cases d2 with
  | int b => exact h1 a b
  | _ => exact .no
 | str a => cases d2 with
  | str b => exact h2 a b
  | _ => exact .no
 | _ => exact .no
theorem SC.bool {op d1 d2} {f : Bool → Bool → Option Bool} {x : Option Bool} (h1 : ∀ a b, SC Γ C op (.bool a) (.bool b) (f a b)) (h2 : SC Γ C op d1 d2 x) : SC Γ C op d1 d2 (evB2 d1 d2 f x) := by
 cases d1 with
 | bool a => cases d2 with
  | bool b => exact h1 a b
  | _ => exact h2
 | _ => exact h2
theorem SC.one {op d2 x} {f : Nat → Option Bool} (h : ∀ c, SC Γ C op (.str [c]) d2 (f c)) : SC Γ C op (.str x) d2 (evOne x f) := by
 match x with
 | [c] => exact h c
 | [] => exact .no
 | _ :: _ :: _ => exact .no
theorem evC_ok {op d1 d2} : SC Γ C op d1 d2 (evC op d1 d2) := by
 cases op with
 | Lt => exact .two (fun a b => .ret fun _ _ k => cmp_lt_int k) fun a b => .ret fun _ _ k => cmp_lt_str k
 | Gt => exact .two (fun a b => .ret fun _ _ k => cmp_gt_int k) fun a b => .ret fun _ _ k => cmp_gt_str k
 | LtE => exact .two (fun a b => .ret fun _ _ k => cmp_le_int k) fun a b => .ret fun _ _ k => cmp_le_str k
 | GtE => exact .two (fun a b => .ret fun _ _ k => cmp_ge_int k) fun a b => .no
 | Eq => exact .bool (fun a b => .ret fun _ _ k => cmp_eq_bool k) (.two (fun a b => .ret fun _ _ k => cmp_eq_int k) fun a b => .ret fun _ _ k => cmp_eq_str k)
 | NotEq => exact .bool (fun a b => .ret fun _ _ k => cmp_ne_bool k) (.two (fun a b => .ret fun _ _ k => cmp_ne_int k) fun a b => .ret fun _ _ k => cmp_ne_str k)
 | In => exact .two (fun a b => .no) fun a b => .one fun c => .ret fun _ _ k => cmp_in_str k
 | NotIn => exact .two (fun a b => .no) fun a b => .one fun c => .ret fun _ _ k => cmp_notin_str k
 | _ => exact .no
theorem ordE_ok {e st os cs} : Snd cs (ordE Γ C e st os cs) (SE Γ C e st) := .ov fun g os => .add fun h _ => h
theorem ordT_ok {e st os cs} : Snd cs (ordT Γ C e st os cs) (ST Γ C e st) := .ob fun g os => .add fun h _ => h
noncomputable def SL (Γ : Gl prog w) (C : Cx) (es : List Expr) (st : St) (ds : List D) (st' : St) : Prop := ∀ Φ : List D → St → Prop, Φ ds st' → AEs Γ C es st Φ
noncomputable def SO (Γ : Gl prog w) (C : Cx) (e : Option Expr) (st : St) (k : Option Int) (st' : St) : Prop := ∀ Φ : Option Int → St → Prop, Φ k st' → AO Γ C e st Φ
theorem evL_ok (K : EvOk Γ C r) : ∀ {es st os cs}, Snd cs (evL r.E es st os cs) (SL Γ C es st)
 | [], _, _, _ => .ret fun _ Φ k => k
 | _ :: _, _, _, _ => K.E.bind fun d st1 os1 cs1 k1 => (evL_ok K).bind fun ds st2 os2 cs2 k2 => .ret fun c Φ k => (k1 (k2 c).1).2 _ ((k2 c).2 _ k)
theorem evO_ok (K : EvOk Γ C r) {e st os cs} : Snd cs (evO r.E e st os cs) (SO Γ C e st) := by
 cases e with
 | none => exact .ret fun _ Φ k => k
 | some e => exact K.E.bind fun d st1 os1 cs1 k1 => .int fun i e => .ret fun c Φ k => AO_s ((k1 c).2 _ ⟨_, e, k⟩)
theorem GV_is {x : Str} {p d st} {Φ : D → St → Prop} (hn : nmOk x = true) (hk : C.kn.lookup x = some .globalImplicit) (h : GV Γ x d) (k : Φ d st) : AE Γ C (.Name x p) st Φ := by
 cases d with
 | val v => exact AE_NameV hn hk h k
 | _ => exact AE_NameG hn hk h k
theorem evName_ok (hk : C.kn = kn) {x p st os cs} : Snd cs (evName Γ kn x st os cs) (SE Γ C (.Name x p) st) := .grd fun hn => by
 cases hl : st.m.lookup x with
 | some d => exact .ret fun _ Φ k => gE_Name hn hl k
 | none => exact .grd fun hg => .ov fun d os => .add fun h _ Φ k => GV_is hn (by rw [hk]; exact beq_iff_eq.mp hg) h k
theorem evK_ok {c k p st os cs} : Snd cs (evK c st os cs) (SE Γ C (.Constant c k p) st) := by
 cases c with
 | int i => exact .ret fun _ Φ k => AE_int k
 | bool b => exact .ret fun _ Φ k => AE_bool k
 | none => exact .ret fun _ Φ k => AE_none k
 | str x =>
  exact .opt fun l hl => .ret fun _ Φ k => have := of_decide_eq_true (List.all_eq_true.mp kcT_ok _ (mem_of_lookup hl)); gE_strL this.1 this.2 k
 | _ => exact .no
theorem Snd.vo {cs : List Prop} {st os} {x : Option (D × List Prop)} {P : D → Prop} {Q : D → St → Prop} (h : SndV cs x P) (k : ∀ d cs1, (All cs1 → All cs ∧ P d) → All cs1 → Q d st) : Snd cs (evVo x st os cs P) Q := by
 cases x with
 | none => exact .ov fun d os => .add fun h c => k d (P d :: cs) (fun z => ⟨z.2, z.1⟩) ⟨h, c⟩
 | some p => obtain ⟨d, c⟩ := p; rintro y ⟨⟩ hc; exact ⟨(h (d, c) rfl hc).1, k _ _ (h (d, c) rfl) hc⟩
theorem Snd.co {cs : List Prop} {st os} {x : Option Bool} {P : Bool → Prop} {Q : Bool → St → Prop} (h : ∀ b, x = some b → P b) (k : ∀ b, P b → All cs → Q b st) : Snd cs (evCo x st os cs P) Q := by
 cases x with
 | none => exact .ob fun g os => .add fun h c => k g h c
 | some b => exact .ret fun c => k b (h b rfl) c
theorem evBin_ok (K : EvOk Γ C r) {l op q p st os cs} : Snd cs (evBin Γ C r l op q st os cs) (SE Γ C (.BinOp l op q p) st) :=
 K.E.bind fun d1 st1 os1 cs1 k1 => K.E.bind fun d2 st2 os2 cs2 k2 => .vo (evV_ok (Γ := Γ) (C := C)) fun d cs3 k3 c Φ k =>
  have c2 := k3 c; have c1 := k2 c2.1
  AE_BinOp ((k1 c1.1).2 _ (c1.2 _ (c2.2 _ _ k)))
noncomputable def SCm (Γ : Gl prog w) (C : Cx) (l : Expr) (ops : List CmpOp) (rs : List Expr) (st : St) (b : Bool) (st' : St) : Prop :=
 ∃ op q, ops = [op] ∧ rs = [q] ∧ behindInMarks op q = false ∧ ∀ Φ : D → St → Prop, Φ (.bool b) st' → AE Γ C l st fun d1 st1 => AE Γ C q st1 fun d2 st2 => AV2 Γ C (compareOp op) d1 d2 st2 Φ
theorem evCmp_ok (K : EvOk Γ C r) {l ops rs st os cs} : Snd cs (evCmp Γ C r l ops rs st os cs none) (SCm Γ C l ops rs st) := by
 match ops, rs with
 | [op], [q] =>
  exact .grd fun hm => K.E.bind fun d1 st1 os1 cs1 k1 => K.E.bind fun d2 st2 os2 cs2 k2 => .co evC_ok fun b hb c =>
   have c1 := k2 c
   ⟨op, q, rfl, rfl, by simpa using hm, fun Φ k => (k1 c1.1).2 _ (c1.2 _ (hb _ _ k))⟩
 | [], _ => exact .no
 | [_], [] => exact .no
 | [_], _ :: _ :: _ => exact .no
 | _ :: _ :: _, _ => exact .no
noncomputable def SPut (i : Nat) (P : D → St → Prop) (d : D) (st : St) : Prop := ∃ a st1 l, P a st1 ∧ st1.mu[i]? = some l ∧ l.length < 1048576 ∧ d = .none ∧ st = ⟨st1.m, st1.mu.set i (l ++ [a])⟩
theorem evPut_ok {i : Nat} {x : EvR D} {cs} {P : D → St → Prop} (h : Snd cs x P) : Snd cs (evPut i x) (SPut i P) :=
 h.bind fun a st1 os1 cs1 k1 => by
  cases st1
  exact .ol fun l os => .add fun q c => ⟨a, _, l, (k1 c).2, q.1, q.2, rfl, rfl⟩
theorem lenD_nil {mu d n} (h : lenD [] d = some n) : lenD mu d = some n := by
 cases d <;> first | exact h | cases h
theorem sliceD_nil {mu d a b n} (h : sliceD [] d a b = some n) : sliceD mu d a b = some n := by
 cases d <;> first | exact h | cases h
theorem evLen_ok {d st os cs} : Snd cs (evLen d st os cs) (SA Γ C (.builtin "len") [d] st) :=
 .mut (fun i e => .ov fun n os => .int fun k _ => .add fun ⟨m, h1, h2⟩ _ Φ k => by subst e h1; exact ACall_len h2 k) (.opt fun n h => .ret fun _ Φ k => ACall_len (lenD_nil h) k)
noncomputable def SBt (Γ : Gl prog w) (C : Cx) (x : Str) (ds : List D) (st : St) (d : D) (st' : St) : Prop := ∃ f, bT.lookup x = some f ∧ callable Γ f ∧ SA Γ C f ds st d st'
theorem Snd.mono {α : Type} {cs : List Prop} {x : EvR α} {P Q : α → St → Prop} (h : Snd cs x P) (k : ∀ a st, All cs → P a st → Q a st) : Snd cs x Q := fun y e c => ⟨(h y e c).1, k _ _ (h y e c).1 (h y e c).2⟩
theorem bT_call : ∀ p ∈ bT, callable Γ p.2 := List.forall_mem_cons.mpr ⟨trivial, List.forall_mem_cons.mpr ⟨trivial, List.forall_mem_cons.mpr ⟨trivial, List.forall_mem_cons.mpr ⟨trivial, List.forall_mem_cons.mpr ⟨trivial, List.forall_mem_cons.mpr ⟨trivial, List.forall_mem_cons.mpr ⟨trivial, List.forall_mem_cons.mpr ⟨trivial, List.forall_mem_cons.mpr ⟨trivial, List.forall_mem_cons.mpr ⟨trivial, fun _ h => absurd h List.not_mem_nil⟩⟩⟩⟩⟩⟩⟩⟩⟩⟩
theorem evBo_ok {x ds st os cs} : Snd cs (evBo Γ C x ds st os cs) (SBt Γ C x ds st) :=
 .opt fun f hf => .ov fun d os => .add fun h _ => ⟨f, hf, bT_call _ (mem_of_lookup hf), h⟩
theorem evBt_ok {x ds st os cs} : Snd cs (evBt Γ C x ds st os cs) (SBt Γ C x ds st) := by
 match ds with
 | [] => exact evBo_ok
 | _ :: _ :: _ => exact evBo_ok
 | [a] =>
  unfold evBt
  cases hx : x == ("len" : Str) with
  | true =>
   rw [beq_iff_eq] at hx; subst hx
   exact evLen_ok.mono fun d st _ h => ⟨_, rfl, trivial, h⟩
  | false =>
   cases hy : x == ("ord" : Str) with
   | false => exact evBo_ok
   | true =>
    exact .str fun y e1 => .one fun c e2 => .ret fun _ => by
     rw [beq_iff_eq] at hy; subst hy e1 e2
     exact ⟨_, rfl, trivial, fun Φ k => ACall_ord k⟩
theorem evCallN_ok (hG : GC Γ F) (hk : C.kn = kn) (K : EvOk Γ C r) {x p args q st os cs} : Snd cs (evCallN Γ C F kn r x args st os cs) (SE Γ C (.Call (.Name x p) args [] q) st) := by
 unfold evCallN
 cases hn : nmOk x && (kn.lookup x == some .globalImplicit) && noStar args with
 | true =>
  refine (evL_ok K).bind fun ds st1 os1 cs1 k1 => ?_
  cases hi : fT.lookup x with
  | some i => exact .ov fun d os => .add fun ⟨m, a1, a2, a3⟩ c Φ k => gE_CallF hG hk hn hi ((k1 c).2 _ ⟨_, m, a1, a2, a3, k⟩)
  | none => exact evBt_ok.mono fun d st2 c ⟨f, hb, hf, k3⟩ Φ k => gE_CallB hG.toGF hk hn hb hf ((k1 c).2 _ (k3 _ k))
 | false =>
  match args with
  | [] => exact .no
  | _ :: _ :: _ => exact .no
  | [arg] =>
   refine .grd fun hx => .opt fun g hl => ?_
   rw [Bool.and_eq_true] at hx
   cases g with
   | meth i => exact (evPut_ok K.E).mono fun d st2 _ ⟨a, st1, l, h1, h2, h3, h4, h5⟩ => by subst h4 h5; exact fun Φ k => AE_CallApp hx.1 hx.2 hl (h1 _ ⟨l, h2, h3, k⟩)
   | _ => exact .no
theorem evCallA_ok (K : EvOk Γ C r) {o n apos args q st os cs} : Snd cs (evCallA Γ C r o n apos args q st os cs) (SE Γ C (.Call (.Attribute o n apos) args [] q) st) := by
 unfold evCallA
 cases hn : n == ("append" : Str) with
 | false =>
  cases hm : mT.lookup n with
  | none => exact ordE_ok
  | some id =>
   exact .grd fun hb => K.E.bind fun d st1 os1 cs1 k1 => .str fun l e => (evL_ok K).bind fun ds st2 os2 cs2 k2 => .ov fun d2 os => .add fun h c Φ k =>
    gE_Mstr (mT_ok _ (mem_of_lookup hm)).1 (mT_ok _ (mem_of_lookup hm)).2 hb ((k1 (k2 c).1).2 _ ⟨l, e, e ▸ (k2 c).2 _ (h _ k)⟩)
 | true =>
  rw [beq_iff_eq] at hn; subst hn
  match args with
  | [] => exact .no
  | _ :: _ :: _ => exact .no
  | [a] =>
   refine .grd fun hb => K.E.bind fun d st1 os1 cs1 k1 => .mut (fun i e => .ol fun l1 os => ?_) .no
   subst e
   rintro y e hc
   obtain ⟨⟨h1, h2⟩, a', st2, l, h3, h4, h5, h6, h7⟩ := evPut_ok (P := SE Γ C a st1) K.E y e hc
   refine ⟨h2, ?_⟩
   rw [h6, h7]
   exact fun Φ k => gE_Mapp hb ((k1 h2).2 _ ⟨i, l1, rfl, h1, h3 _ (AEs_n (ACall_append h4 h5 k))⟩)
theorem evCall_ok (hG : GC Γ F) (hk : C.kn = kn) (K : EvOk Γ C r) {f args kws q st os cs} : Snd cs (evCall Γ C F kn r f args kws q st os cs) (SE Γ C (.Call f args kws q) st) := by
 cases kws with
 | cons a b => exact .no
 | nil =>
  cases f with
  | Name x p => exact evCallN_ok hG hk K
  | Attribute o n p => exact evCallA_ok K
  | _ => exact ordE_ok
theorem evSubI_ok (K : EvOk Γ C r) {v s pos st os cs} (hns : noSl s = true) : Snd cs (evD (r.E v st os cs) fun d st os cs => evD (r.E s st os cs) fun k st os cs => evInt k fun k => evOv os fun q os => some (q, st, os, (subD st.mu d k = some q) :: cs)) (SE Γ C (.Subscript v s pos) st) :=
 K.E.bind fun d st1 os1 cs1 k1 => K.E.bind fun d2 st2 os2 cs2 k2 => .int fun i e => .ov fun q os => .add fun h c Φ k => AE_Sub hns ((k1 (k2 c).1).2 _ ((k2 c).2 _ ⟨_, _, e, h, k⟩))
theorem evSub_ok (K : EvOk Γ C r) {v s pos st os cs} : Snd cs (evSub r v s st os cs) (SE Γ C (.Subscript v s pos) st) := by
 cases s with
 | Slice lo hi stp p =>
  cases stp with
  | some x => exact .no
  | none => exact K.E.bind fun d st1 os1 cs1 k1 => (evO_ok K).bind fun a st2 os2 cs2 k2 => (evO_ok K).bind fun b st3 os3 cs3 k3 => .mut (fun i e => .ov fun q os => .add fun h c Φ k => by
    subst e; exact AE_Slice ((k1 (k2 (k3 c).1).1).2 _ ((k2 (k3 c).1).2 _ ((k3 c).2 _ ⟨_, h, k⟩)))) (.opt fun q h => .ret fun c Φ k => AE_Slice ((k1 (k2 (k3 c).1).1).2 _ ((k2 (k3 c).1).2 _ ((k3 c).2 _ ⟨_, sliceD_nil h, k⟩))))
 | _ => exact evSubI_ok K rfl
theorem evTup_ok (K : EvOk Γ C r) {es k p st os cs} : Snd cs (evTup r es st os cs) (SE Γ C (.Tuple es k p) st) :=
 .grd fun hn => (evL_ok K).bind fun ds st1 os1 cs1 k1 => .grd fun hd => .ret fun c Φ k => AE_Tuple hn ((k1 c).2 _ ⟨of_decide_eq_true hd, k⟩)
theorem evLst_ok (K : EvOk Γ C r) {es p st os cs} : Snd cs (evLst r es st os cs) (SE Γ C (.List es p) st) :=
 .grd fun hn => (evL_ok K).bind fun ds st1 os1 cs1 k1 => .grd fun hd => .ob fun g os => by
  cases g with
  | true => cases st1; exact .ret fun c Φ k => AE_ListMut hn ((k1 c).2 _ ⟨of_decide_eq_true hd, k⟩)
  | false => exact .ret fun c Φ k => AE_List hn ((k1 c).2 _ ⟨of_decide_eq_true hd, k⟩)
theorem evIf_ok {α : Type} (K : EvOk Γ C r) {t} {a b : St → List Or → List Prop → EvR α} {P : α → St → Prop} {st os cs} (ha : ∀ st1 os cs1, (All cs1 → ST Γ C t st true st1) → Snd cs1 (a st1 os cs1) P) (hb : ∀ st1 os cs1, (All cs1 → ST Γ C t st false st1) → Snd cs1 (b st1 os cs1) P) : Snd cs (evIf r t a b st os cs) P :=
 K.T.bind fun g st1 os1 cs1 k1 => by
  cases g with
  | true => exact ha _ _ _ fun c => (k1 c).2
  | false => exact hb _ _ _ fun c => (k1 c).2
theorem stepE_ok (hG : GC Γ F) (hk : C.kn = kn) (K : EvOk Γ C r) {e st os cs} : Snd cs (stepE Γ C F kn r e st os cs) (SE Γ C e st) := by
 cases e with
 | Name x p => exact evName_ok hk
 | Constant c k p => exact evK_ok
 | BinOp l op q p => exact evBin_ok K
 | Compare l ops rs p =>
  exact (evCmp_ok K).bind fun b st1 os1 cs1 k1 => .ret fun c Φ k => match k1 c with
   | ⟨_, op, q, e1, e2, hm, k2⟩ => by subst e1 e2; exact AE_Cmp (k2 _ k) hm
 | Attribute o n p =>
  delta stepE evAtt
  cases hn : n == ("append" : Str) with
  | false => simp only [hn]; exact ordE_ok
  | true =>
   simp only [hn]
   rw [beq_iff_eq] at hn; subst hn
   exact .grd fun hb => K.E.bind fun d st1 os1 cs1 k1 => .mut (fun i e => .ret fun c Φ k => by
    rw [Bool.and_eq_true] at hb
    exact AE_Append hb.1 (by cases o <;> first | rfl | exact (Bool.false_ne_true hb.2).elim) ((k1 c).2 _ ⟨i, e, k⟩)) .no
 | Call f args kws p => exact evCall_ok hG hk K
 | Subscript v s p => exact evSub_ok K
 | Tuple es k p => exact evTup_ok K
 | List es p => exact evLst_ok K
 | UnaryOp op x p =>
  cases op with
  | USub => exact K.E.bind fun d st1 os1 cs1 k1 => .int fun i e => .ret fun c Φ k => AE_Neg ((k1 c).2 _ ⟨_, e, k⟩)
  | _ => exact .no
 | IfExp t a b p => exact evIf_ok K (fun st1 os cs1 k1 => K.E.mono fun d st2 c k2 Φ k => AE_IfExp (k1 c _ ⟨fun _ => k2 Φ k, nofun⟩)) fun st1 os cs1 k1 => K.E.mono fun d st2 c k2 Φ k => AE_IfExp (k1 c _ ⟨nofun, fun _ => k2 Φ k⟩)
 | _ => exact ordE_ok
noncomputable def STs (Γ : Gl prog w) (C : Cx) (op : BoolOp) (es : List Expr) (st : St) (b : Bool) (st' : St) : Prop := ∀ Φ : Bool → St → Prop, Φ b st' → ATs Γ C op es st Φ
theorem evTs_ok (K : EvOk Γ C r) {op} : ∀ {es st os cs}, Snd cs (evTs r op es st os cs) (STs Γ C op es st)
 | [], st, os, cs => by
  cases op
  ·exact .ret fun _ Φ k => ATs_and_nil k
  ·exact .ret fun _ Φ k => ATs_or_nil k
 | e :: es, st, os, cs => K.T.bind fun g st1 os1 cs1 k1 => by
  cases op <;> cases g
  ·exact .ret fun c Φ k => ATs_and ((k1 c).2 _ ⟨nofun, fun _ => k⟩)
  ·exact (evTs_ok K).mono fun b st2 c k2 Φ k => ATs_and ((k1 c).2 _ ⟨fun _ => k2 Φ k, nofun⟩)
  ·exact (evTs_ok K).mono fun b st2 c k2 Φ k => ATs_or ((k1 c).2 _ ⟨nofun, fun _ => k2 Φ k⟩)
  ·exact .ret fun c Φ k => ATs_or ((k1 c).2 _ ⟨fun _ => k, nofun⟩)
theorem evPl_ok (K : EvOk Γ C r) {e st os cs} : Snd cs (evPl Γ C r e st os cs) (ST Γ C e st) := by
 unfold evPl
 cases hp : plainT e with
 | true => exact K.E.bind fun d st1 os1 cs1 k1 => .ob fun g os => .add fun h c Φ k => AT_plain hp ((k1 c).2 _ ⟨_, h, k⟩)
 | false => exact ordT_ok
theorem stepT_ok (K : EvOk Γ C r) {e st os cs} : Snd cs (stepT Γ C r e st os cs) (ST Γ C e st) := by
 cases e with
 | Compare l ops rs p =>
  delta stepT
  cases hi : ops.length == 1 with
  | false => simp only [hi]; exact ordT_ok
  | true => simp only [hi]; exact (evCmp_ok K).bind fun b st1 os1 cs1 k1 => .ob fun g os => .add fun h c Φ k => match k1 c with
   | ⟨_, op, q, e1, e2, hm, k2⟩ => by subst e1 e2 h; exact AT_Cmp (k2 _ ⟨_, rfl, k⟩) hm
 | BoolOp op es p => exact (evTs_ok K).mono fun b st2 c k2 Φ k => AT_BoolOp (k2 _ k)
 | UnaryOp op x p =>
  cases op with
  | Not => exact K.T.bind fun b st1 os1 cs1 k1 => .ret fun c Φ k => AT_not ((k1 c).2 _ k)
  | _ => delta stepT evNot; exact evPl_ok K
 | _ => delta stepT; exact evPl_ok K
theorem Snd.st {α : Type} {cs : List Prop} {st : St} {f : List (Str × D) → List (List D) → EvR α} {P : α → St → Prop} (h : Snd cs (f st.m st.mu) P) : Snd cs (evM st f) P := by cases st; exact h
theorem evAsg_ok (hk : C.kn = kn) (K : EvOk Γ C r) {ts e pos st os cs} : Snd cs (evAsg kn r ts e st os cs) (SS Γ C (.Assign ts e pos) st) := by
 match ts with
 | [] => exact .no
 | _ :: _ :: _ => exact .no
 | [t] =>
  cases t with
  | Name x p => exact .grd fun h1 => K.E.bind fun d st1 os1 cs1 k1 => .st (.ret fun c Φ k => by
    rw [Bool.and_eq_true] at h1
    exact AS_Assign (by simpa using h1.1) (by rw [hk]; exact h1.2) ((k1 c).2 _ k))
  | Tuple ts' k p =>
   cases e with
   | Tuple vs k2 p2 => exact .opt fun names hw => K.E.bind fun d st1 os1 cs1 k1 => .tpl fun ds e => .grd fun hd => .st (.ret fun c Φ k =>
     AS_AssignTup (by rw [hk]; exact hw) ((k1 c).2 _ ⟨ds, e, of_decide_eq_true hd, k⟩))
   | _ => exact .no
  | _ => exact .no
theorem Snd.val2 {α : Type} {cs : List Prop} {x : Option (D × List Prop)} {f : D → List Prop → EvR α} {P : D → Prop} {Q : α → St → Prop} (h : SndV cs x P) (k : ∀ d c, (All c → All cs ∧ P d) → Snd c (f d c) Q) : Snd cs (evI2 x f) Q := by
 intro y e hc
 cases x with
 | none => cases e
 | some p => obtain ⟨d, c⟩ := p; have k2 := k d c (h (d, c) rfl) y e hc; exact ⟨(h (d, c) rfl k2.1).1, k2.2⟩
noncomputable def SGrow (x : Str) (i : Nat) (d : D) (st : St) (fl : Fl) (st' : St) : Prop := ∃ l l2, st.mu[i]? = some l ∧ itemsD st.mu d = some l2 ∧ (l ++ l2).length ≤ 1048576 ∧ fl = .next ∧ st' = ⟨upd st.m x (.mut i), st.mu.set i (l ++ l2)⟩
theorem evGrow_ok {x i d st os cs} : Snd cs (evGrow x i d st os cs) (SGrow x i d st) := by
 cases st
 exact .ol fun l os => .ol fun l2 os => .add fun h c => ⟨l, l2, h.1, h.2.1, h.2.2, rfl, rfl⟩
theorem evAug_ok (hk : C.kn = kn) (K : EvOk Γ C r) {t op e pos st os cs} : Snd cs (evAug kn r t op e st os cs) (SS Γ C (.AugAssign t op e pos) st) := by
 cases t with
 | Name x p =>
  refine .grd fun h1 => .opt fun d0 h0 => K.E.bind fun d st1 os1 cs1 k1 => ?_
  have h1 := Bool.and_eq_true_iff.mp h1
  have ag : ∀ {Φ : Fl → St → Prop}, AE Γ C e st (fun d st1 => AV2 Γ C (inplaceOp op) d0 d st1 fun r st2 => Φ .next { st2 with m := upd st2.m x r }) → AS Γ C (.AugAssign (.Name x p) op e pos) st Φ := fun h => AS_Aug (by rw [hk]; exact h1.1) h1.2 h0 h
  refine .mut (fun i hi => .grd fun ho => evGrow_ok.mono ?_) (.val2 (evI_ok (Γ := Γ) (C := C)) fun d c2 k2 => .st (.ret fun c Φ k => ag ((k1 (k2 c).1).2 _ ((k2 c).2 _ _ k))))
  rintro fl st2 c ⟨l, l2, a1, a2, a3, rfl, rfl⟩ Φ k
  have ho : op = .Add := by cases op <;> first | rfl | cases ho
  subst ho hi
  exact ag ((k1 c).2 _ (op_iadd_list a1 a2 a3 k))
 | _ => exact .no
theorem stepS_ok (hk : C.kn = kn) (K : EvOk Γ C r) {s st os cs} : Snd cs (stepS kn r s st os cs) (SS Γ C s st) := by
 cases s with
 | Assign ts e p => exact evAsg_ok hk K
 | AugAssign t op e p => exact evAug_ok hk K
 | Expr e p => exact .grd fun hi => K.E.bind fun d st1 os1 cs1 k1 => .ret fun c Φ k => AS_Expr (by simpa using hi) ((k1 c).2 _ k)
 | Return e p => exact .opt fun e' he => K.E.bind fun d st1 os1 cs1 k1 => .ret fun c Φ k => by subst he; exact AS_Return ((k1 c).2 _ k)
 | Break p => exact .ret fun _ Φ k => AS_Break k
 | Continue p => exact .ret fun _ Φ k => AS_Continue k
 | Assert t m p => exact K.T.bind fun g st1 os1 cs1 k1 => .grd fun hg => .ret fun c Φ k => AS_Assert ((k1 c).2 _ ⟨hg, k⟩)
 | If t a b p => exact evIf_ok K (fun st1 os cs1 k1 => K.B.mono fun d st2 c k2 Φ k => AS_If (k1 c _ ⟨fun _ => k2 Φ k, nofun⟩)) fun st1 os cs1 k1 => K.B.mono fun d st2 c k2 Φ k => AS_If (k1 c _ ⟨nofun, fun _ => k2 Φ k⟩)
 | _ => exact .no
theorem stepB_ok (hk : C.kn = kn) (K : EvOk Γ C r) : ∀ {b st os cs}, Snd cs (stepB kn r b st os cs) (SB Γ C b st)
 | [], _, _, _ => .ret fun _ Φ k => AB_nil k
 | _ :: _, _, _, _ => (stepS_ok hk K).bind fun fl st1 os1 cs1 k1 => by
  cases fl with
  | next => exact (stepB_ok hk K).mono fun b st2 c k2 Φ k => AB_c ((k1 c).2 _ (C_next (k2 Φ k)))
  | brk => exact .ret fun c Φ k => AB_c ((k1 c).2 _ (C_brk k))
  | cont => exact .ret fun c Φ k => AB_c ((k1 c).2 _ (C_cont k))
  | ret d => exact .ret fun c Φ k => AB_c ((k1 c).2 _ (C_ret k))
theorem evs_ok (hG : GC Γ F) (hk : C.kn = kn) : ∀ n, EvOk Γ C (evs Γ C F kn n)
 | 0 => ⟨.no, .no, .no⟩
 | n + 1 => ⟨stepE_ok hG hk (evs_ok hG hk n), stepT_ok (evs_ok hG hk n), stepB_ok hk (evs_ok hG hk n)⟩
noncomputable def SR (Γ : Gl prog w) (C : Cx) (b : List Stmt) (st : St) (b' : List Stmt) (st' : St) : Prop := ∀ Φ : Fl → St → Prop, AB Γ C b' st' Φ → AB Γ C b st Φ
theorem runB_ok (hk : C.kn = kn) (K : EvOk Γ C r) : ∀ {k b st os cs}, Snd cs (runB kn r k b st os cs) (SR Γ C b st)
 | 0, _, _, _, _ => .ret fun _ Φ k => k
 | _ + 1, [], _, _, _ => .no
 | _ + 1, _ :: _, _, _, _ => (stepS_ok hk K).bind fun fl st1 os1 cs1 k1 => by
  cases fl with
  | next => exact (runB_ok hk K).mono fun b st2 c k2 Φ k => AB_c ((k1 c).2 _ (C_next (k2 Φ k)))
  | _ => exact .no
noncomputable abbrev AllK : List Prop → Prop → Prop
 | [], q => q
 | p :: r, q => p → AllK r q
theorem AllK_of : ∀ {cs : List Prop} {q r : Prop}, AllK cs r → (r → q) → AllK cs q
 | [], _, _, h, k => k h
 | _ :: _, _, _, h, k => fun p => AllK_of (h p) k
theorem AllK_self : ∀ {cs : List Prop} {p : Prop}, p → AllK cs (p ∧ All cs)
 | [], _, hp => ⟨hp, trivial⟩
 | _ :: _, _, hp => fun ha => AllK_of (AllK_self ha) fun z => ⟨hp, z⟩
theorem AllK_all : ∀ {cs : List Prop}, (∀ q, AllK cs q → q) → All cs
 | [], _ => trivial
 | _ :: _, h => h _ fun p => AllK_self p
noncomputable abbrev VA {α : Type} (x : EvR α) (q : Prop) : Prop := match x with
 | some (_, _, _, cs) => AllK cs q
 | none => True
noncomputable abbrev VO {α : Type} (x : EvR α) (Φ : α → St → Prop) : Prop := match x with
 | some (a, st, _, _) => Φ a st
 | none => True
noncomputable def VS {α : Type} (x : EvR α) : Option (α × St) := match x with
 | some (a, st, _, _) => some (a, st)
 | none => none
theorem VA_ok {α : Type} {x : EvR α} {P : α → St → Prop} {Φ : α → St → Prop} {Z : Prop} (h : ∀ q, VA x q → q) (k : Snd [] x P) (g : VO x Φ) (z : ∀ a st, P a st → Φ a st → Z) : Z := by
 cases x with
 | none => exact (h False trivial).elim
 | some y => exact z _ _ (k y rfl (AllK_all h)).2 g
theorem VO_of {α : Type} {x : EvR α} {Φ : α → St → Prop} {a : α} {st : St} (e : VS x = some (a, st)) (g : Φ a st) : VO x Φ := by
 cases x with
 | none => trivial
 | some y => cases e; exact g
theorem AB_evk (hG : GC Γ F) (hk : C.kn = kn) {b st} {Φ : Fl → St → Prop} (n : Nat) (os : List Or) (h : ∀ q, VA ((evs Γ C F kn n).B b st os []) q → q) (g : VO ((evs Γ C F kn n).B b st os []) Φ) : AB Γ C b st Φ := VA_ok h (evs_ok hG hk n).B g fun _ _ p f => p Φ f
theorem AT_evk (hG : GC Γ F) (hk : C.kn = kn) {t st b st'} {Φ : Bool → St → Prop} (n : Nat) (os : List Or) (h : ∀ q, VA ((evs Γ C F kn n).T t st os []) q → q) (e : VS ((evs Γ C F kn n).T t st os []) = some (b, st')) (g : Φ b st') : AT Γ C t st Φ := VA_ok h (evs_ok hG hk n).T (VO_of e g) fun _ _ p f => p Φ f
theorem AE_evk (hG : GC Γ F) (hk : C.kn = kn) {e st d st'} {Φ : D → St → Prop} (n : Nat) (os : List Or) (h : ∀ q, VA ((evs Γ C F kn n).E e st os []) q → q) (e' : VS ((evs Γ C F kn n).E e st os []) = some (d, st')) (g : Φ d st') : AE Γ C e st Φ := VA_ok h (evs_ok hG hk n).E (VO_of e' g) fun _ _ p f => p Φ f
theorem AB_runk (hG : GC Γ F) (hk : C.kn = kn) {b st b' st'} {Φ : Fl → St → Prop} (n k : Nat) (os : List Or) (h : ∀ q, VA (runB kn (evs Γ C F kn n) k b st os []) q → q) (e : VS (runB kn (evs Γ C F kn n) k b st os []) = some (b', st')) (g : AB Γ C b' st' Φ) : AB Γ C b st Φ := VA_ok (Φ := fun b' st' => AB Γ C b' st' Φ) h (runB_ok hk (evs_ok hG hk n)) (VO_of e g) fun _ _ p f => p Φ f
noncomputable abbrev Pk (m' m : List (Str × D)) : Prop := (m'.map fun p => m.lookup p.1) = (m'.map fun p => some p.2)
theorem Sub_of : ∀ {m' m : List (Str × D)}, Pk m' m → Sub m' m
 | [], _, _ => trivial
 | _ :: _, _, e => ⟨(List.cons.inj e).1, Sub_of (List.cons.inj e).2⟩
theorem T_go {Φ : Fl → St → Prop} {I W : St → Prop} {m mu m' mu'} (hW : ∀ st, I st → W st) (h : I ⟨m', mu'⟩) (s : Pk m' m) (e : mu = mu') : Turn Φ W .next ⟨m, mu⟩ := by
 subst e; exact ⟨m', Sub_of s, hW _ h⟩
theorem AB_pk {b m' m mu mu'} {Φ : Fl → St → Prop} (s : Pk m' m) (e : mu = mu') (h : AB Γ C b ⟨m', mu'⟩ Φ) : AB Γ C b ⟨m, mu⟩ Φ := e ▸ AB_weak (Sub_of s) h
theorem strsD_str (ls : List (List Nat)) : strsD (ls.map D.str) = some ls := by
 have := strsD_map (fun x : List Nat => x) ls
 simpa using this
theorem lt6 : ∀ k < 6, k = 0 ∨ k = 1 ∨ k = 2 ∨ k = 3 ∨ k = 4 ∨ k = 5 := by decide
theorem lt3 : ∀ k < 3, k = 0 ∨ k = 1 ∨ k = 2 := by decide
theorem lt4 : ∀ k < 4, k = 0 ∨ k = 1 ∨ k = 2 ∨ k = 3 := by decide
/-! comprehensions over texts -/
noncomputable def onStr (f : List Nat → D) : D → Option D
 | .str s => some (f s)
 | _ => none
theorem filterMap_onStr (f : List Nat → D) (g : List (List Nat)) : (g.map D.str).filterMap (onStr f) = g.map f := by
 rw [List.filterMap_map, ← List.filterMap_eq_map]; rfl
theorem CT_ev {kn : List (Str × NameKind)} {lim : Nat} {m0 : List (Str × D)} {x : Str} {p elt d r} (hs : storable kn x = true) (h : ∀ C acc, C.kn = kn → C.A.depth + lim ≤ 600 → C.A.units + 10 * lim ≤ 5000 → AE Γ C elt ⟨upd m0 x d, [acc]⟩ fun rd st3 => r = some rd ∧ noMut rd = true ∧ st3.mu = [acc]) : CTurn Γ kn lim m0 (.Name x p) [] elt d r :=
 fun C acc hk h1 h2 => AAs_Name (by rw [hk]; exact hs) (AIfs_n ⟨nofun, fun _ => h C acc hk h1 h2⟩)
noncomputable def onInt (f : Nat → D) : D → Option D
 | .int j => some (f j.toNat)
 | _ => none
theorem fm_some {α : Type} {ι g : α → D} {f : D → Option D} (hf : ∀ a, f (ι a) = some (g a)) (l : List α) : (l.map ι).filterMap f = l.map g := by
 rw [List.filterMap_map, ← List.filterMap_eq_map]; exact congrArg (fun h => l.filterMap h) (funext hf)
theorem AE_CompM {α : Type} {ι g : α → D} {f : D → Option D} (hf : ∀ a, f (ι a) = some (g a)) (hh : ∀ a, hd 4 (ι a) = ι a) {elt target iter : Expr} {ifs : List Expr} {scope : Scope} {pos : Pos} {kn : List (Str × NameKind)} {lim : Nat} {m0 : List (Str × D)} {st : St} {Φ : D → St → Prop}
  (hkind : scope.kind = .function) (hok : compOk C.kn scope kn m0 = true) (hset : noSet iter = true) (hdep : C.A.depth + lim ≤ 600) (hun : C.A.units + 10 * lim ≤ 5000)
  (h : AE Γ C iter st fun d st1 => ∃ l : List α, iterH st1.mu d = some (l.map ι) ∧ l.length ≤ 1048576 ∧ (∀ p ∈ m0, st1.m.lookup p.1 = some p.2) ∧ (∀ s ∈ l, CTurn Γ kn lim m0 target ifs elt (ι s) (some (g s))) ∧ noMutL (l.map g) = true ∧ Φ (.lst (l.map g)) st1) :
  AE Γ C (.ListComp elt [⟨target, iter, ifs, 0⟩] scope pos) st Φ :=
 AE_ListComp hkind hok hset hdep hun (AW.mono h fun d st1 ⟨l, e1, e2, e3, e4, e5, e6⟩ => ⟨l.map ι, l.map ι, f, e1, (by rw [List.map_map]; exact List.map_congr_left fun a _ => (hh a).symm), by rw [List.length_map]; exact e2, e3, fun d hd => by obtain ⟨s, hs, rfl⟩ := List.mem_map.mp hd; rw [hf]; exact e4 s hs, by rw [fm_some hf]; exact e5, by rw [fm_some hf]; exact e6⟩)
theorem AS_CompM {α : Type} {ι g : α → D} {f : D → Option D} (hf : ∀ a, f (ι a) = some (g a)) (hh : ∀ a, hd 4 (ι a) = ι a) {elt target iter : Expr} {ifs : List Expr} {scope : Scope} {pos pos' p : Pos} {x : Str} {kn : List (Str × NameKind)} {lim : Nat} {m0 : List (Str × D)} {st : St} {Φ : Fl → St → Prop}
  (hk : storable C.kn x = true) (hkind : scope.kind = .function) (hok : compOk C.kn scope kn m0 = true) (hset : noSet iter = true) (hdep : C.A.depth + lim ≤ 600) (hun : C.A.units + 10 * lim ≤ 5000)
  (h : AE Γ C iter st fun d st1 => ∃ l : List α, iterH st1.mu d = some (l.map ι) ∧ l.length ≤ 1048576 ∧ (∀ p ∈ m0, st1.m.lookup p.1 = some p.2) ∧ (∀ s ∈ l, CTurn Γ kn lim m0 target ifs elt (ι s) (some (g s))) ∧ noMutL (l.map g) = true ∧ Φ .next { st1 with m := upd st1.m x (.lst (l.map g)) }) :
  AS Γ C (.Assign [.Name x p] (.ListComp elt [⟨target, iter, ifs, 0⟩] scope pos) pos') st Φ :=
 AS_AssignComp hk hkind hok hset hdep hun (AW.mono h fun d st1 ⟨l, e1, e2, e3, e4, e5, e6⟩ => ⟨l.map ι, l.map ι, f, e1, (by rw [List.map_map]; exact List.map_congr_left fun a _ => (hh a).symm), by rw [List.length_map]; exact e2, e3, fun d hd => by obtain ⟨s, hs, rfl⟩ := List.mem_map.mp hd; rw [hf]; exact e4 s hs, by rw [fm_some hf]; exact e5, by rw [fm_some hf]; exact e6⟩)
theorem AE_CompS {elt target iter : Expr} {ifs : List Expr} {scope : Scope} {pos : Pos} {kn : List (Str × NameKind)} {lim : Nat} {m0 : List (Str × D)} {st : St} {Φ : D → St → Prop} (g : List Nat → D)
  (hkind : scope.kind = .function) (hok : compOk C.kn scope kn m0 = true) (hset : noSet iter = true) (hdep : C.A.depth + lim ≤ 600) (hun : C.A.units + 10 * lim ≤ 5000)
  (h : AE Γ C iter st fun d st1 => ∃ l : List (List Nat), iterH st1.mu d = some (l.map D.str) ∧ l.length ≤ 1048576 ∧ (∀ p ∈ m0, st1.m.lookup p.1 = some p.2) ∧ (∀ s ∈ l, CTurn Γ kn lim m0 target ifs elt (.str s) (some (g s))) ∧ noMutL (l.map g) = true ∧ Φ (.lst (l.map g)) st1) :
  AE Γ C (.ListComp elt [⟨target, iter, ifs, 0⟩] scope pos) st Φ := AE_CompM (f := onStr g) (fun _ => rfl) (fun _ => rfl) hkind hok hset hdep hun h
theorem AS_CompS {elt target iter : Expr} {ifs : List Expr} {scope : Scope} {pos pos' p : Pos} {x : Str} {kn : List (Str × NameKind)} {lim : Nat} {m0 : List (Str × D)} {st : St} {Φ : Fl → St → Prop} (g : List Nat → D)
  (hk : storable C.kn x = true) (hkind : scope.kind = .function) (hok : compOk C.kn scope kn m0 = true) (hset : noSet iter = true) (hdep : C.A.depth + lim ≤ 600) (hun : C.A.units + 10 * lim ≤ 5000)
  (h : AE Γ C iter st fun d st1 => ∃ l : List (List Nat), iterH st1.mu d = some (l.map D.str) ∧ l.length ≤ 1048576 ∧ (∀ p ∈ m0, st1.m.lookup p.1 = some p.2) ∧ (∀ s ∈ l, CTurn Γ kn lim m0 target ifs elt (.str s) (some (g s))) ∧ noMutL (l.map g) = true ∧ Φ .next { st1 with m := upd st1.m x (.lst (l.map g)) }) :
  AS Γ C (.Assign [.Name x p] (.ListComp elt [⟨target, iter, ifs, 0⟩] scope pos) pos') st Φ := AS_CompM (f := onStr g) (fun _ => rfl) (fun _ => rfl) hk hkind hok hset hdep hun h
end
end
section
noncomputable def hexU (d : Nat) : Nat := if d < 10 then 48 + d else 55 + d
noncomputable def quoL (c : Nat) : List Nat := [61, hexU (c / 16), hexU (c % 16)]
noncomputable def bodyOk (c : Nat) : Bool := (decide (32 ≤ c) && decide (c ≤ 126) && (c != 61)) || c == 9 || c == 10 || c == 13
noncomputable def bodyL (c : Nat) : List Nat := if bodyOk c then [c] else quoL c
structure GDat (Γ : Gl prog w) : Prop where
 qmap : Γ.gd "_QUOPRI_MAP" = some (.lst ((List.range 256).map fun c => .str (quoL c)))
 bmap : Γ.gd "_QUOPRI_BODY_ENCODE_MAP" = some (.lst ((List.range 256).map fun c => .str (bodyL c)))
 crlf : Γ.gd "CRLF" = some (.str [13, 10])
section
variable {Γ : Gl prog w} {F : Nat → Addr}
theorem w_quote {c : Nat} {C : Cx} (hG : GC Γ F) (hD : GDat Γ) (hk : C.kn = (fScope 16).names) (hc : c < 256) :
  AB Γ C (fBody 16) ⟨[("c", .str [c])], []⟩ (Res 0 (.str (quoL c))) := by
 refine AB_evk hG hk 10 [.v (.lst ((List.range 256).map fun c => .str (quoL c))), .v (.str (quoL c))] (fun z k => ?_) ⟨_, rfl, rfl, rfl⟩
 with_unfolding_all exact k (sub_map (List.getElem?_range hc)) hD.qmap
theorem w_ifmt {m : Nat} {C : Cx} (hG : GC Γ F) (hk : C.kn = (fScope 32).names) :
  AB Γ C (fBody 32) ⟨[("mode", .int m)], []⟩ (Res 0 (.int (Builtin.bitAnd m 61440))) := by
 exact AB_evk hG hk 8 [] (fun z k => k) ⟨_, rfl, rfl, rfl⟩
noncomputable def wrL (c : Nat) : List Nat := if c = 9 ∨ (32 ≤ c ∧ c ≤ 126 ∧ c ≠ 61) then [c] else quoL c
theorem lt1 {a b : Nat} : (!decide ([b] < [a])) = decide (a ≤ b) := by
 rw [Bool.eq_iff_iff, Bool.not_eq_true', decide_eq_false_iff_not, decide_eq_true_eq, List.cons_lt_cons_iff]
 exact ⟨fun h => Nat.le_of_not_lt fun q => h (.inl q), fun h q => q.elim (fun q => absurd h (Nat.not_le_of_lt q)) fun q => absurd q.2 (List.not_lt_nil _)⟩
theorem hexfig {c : Nat} (h : c < 256) : ([48, 49, 50, 51, 52, 53, 54, 55, 56, 57, 65, 66, 67, 68, 69, 70] : List Nat)[c / 16]? = some (hexU (c / 16)) ∧ ([48, 49, 50, 51, 52, 53, 54, 55, 56, 57, 65, 66, 67, 68, 69, 70] : List Nat)[c % 16]? = some (hexU (c % 16)) := by
 have : ∀ k < 16, ([48, 49, 50, 51, 52, 53, 54, 55, 56, 57, 65, 66, 67, 68, 69, 70] : List Nat)[k]? = some (hexU k) := by decide
 exact ⟨this _ (Nat.div_lt_of_lt_mul h), this _ (Nat.mod_lt _ (by decide))⟩
theorem w_written {c : Nat} {C : Cx} (hG : GC Γ F) (hk : C.kn = (fScope 61).names) (hc : c < 256) :
  AB Γ C (fBody 61) ⟨[("sign", .str [c])], []⟩ (Res 0 (.str (wrL c))) := by
 have c3 : ∀ {x : Str} {p n1 n2 p1 p2 pos}, x = "sign" → ST Γ C (.Compare (.Constant (.str " ") n1 p1) [.LtE, .LtE] [.Name x p, .Constant (.str "~") n2 p2] pos) ⟨[("sign", .str [c])], []⟩ (decide (32 ≤ c ∧ c ≤ 126)) ⟨[("sign", .str [c])], []⟩ := fun {x p n1 n2 p1 p2 pos} e Φ hΦ => by
  subst e
  have e : decide (32 ≤ c ∧ c ≤ 126) = (decide (32 ≤ c) && decide (c ≤ 126)) := Bool.decide_and ..
  rw [e] at hΦ
  refine AT_Cmp3 (gE_strL (l := [32]) (by decide +kernel) (by decide) (gE_Name (by decide +kernel) rfl (cmp_le_str ⟨_, rfl, ?_⟩))) (by rfl)
  rw [lt1]
  cases h : decide (32 ≤ c) with
  | false => rw [h] at hΦ; exact ⟨fun _ => hΦ, nofun⟩
  | true =>
   rw [h] at hΦ
   refine ⟨nofun, fun _ => gE_strL (l := [126]) (by decide +kernel) (by decide) (cmp_le_str ⟨_, rfl, ?_⟩)⟩
   rw [lt1]; exact hΦ
 have q1 : ∀ mu, subD mu (.str [48, 49, 50, 51, 52, 53, 54, 55, 56, 57, 65, 66, 67, 68, 69, 70]) ((c : Int).fdiv 16) = some (.str [hexU (c / 16)]) := fun mu => by
  rw [show (c : Int).fdiv 16 = ((c / 16 : Nat) : Int) from (Int.ofNat_fdiv c 16).symm]; exact sub_str (hexfig hc).1
 have q2 : ∀ mu, subD mu (.str [48, 49, 50, 51, 52, 53, 54, 55, 56, 57, 65, 66, 67, 68, 69, 70]) ((c : Int).fmod 16) = some (.str [hexU (c % 16)]) := fun mu => by
  rw [show (c : Int).fmod 16 = ((c % 16 : Nat) : Int) from (Int.ofNat_fmod c 16).symm]; exact sub_str (hexfig hc).2
 by_cases h9 : c = 9
 ·refine AB_evk hG hk 10 [.b true] (fun z k => ?_) ⟨_, rfl, by rw [wrL, if_pos (.inl h9)]; rfl, rfl⟩
  with_unfolding_all exact k (decide_eq_true (by rw [h9]))
 have h9' : decide ([c] = [9]) = false := decide_eq_false fun e => h9 (List.cons.inj e).1
 by_cases hr : 32 ≤ c ∧ c ≤ 126
 ·rw [decide_eq_true hr] at c3
  by_cases h61 : c = 61
  ·subst h61
   refine AB_evk hG hk 12 [.b false, .b true, .b false, .v (.str [51]), .v (.str [68])] (fun z k => ?_) ⟨_, rfl, rfl, rfl⟩
   with_unfolding_all exact k (by decide) rfl (by decide) (by decide) rfl ⟨by decide, PyProof.noPylong_of_log2 (by decide +kernel)⟩ rfl (c3 rfl) rfl
  ·refine AB_evk hG hk 10 [.b false, .b true, .b true] (fun z k => ?_) ⟨_, rfl, by rw [wrL, if_pos (.inr ⟨hr.1, hr.2, h61⟩)]; rfl, rfl⟩
   with_unfolding_all exact k (by rw [decide_eq_false fun e => h61 (List.cons.inj e).1]; rfl) (c3 rfl) h9'
 ·rw [decide_eq_false hr] at c3
  refine AB_evk hG hk 12 [.b false, .b false, .v (.str [hexU (c / 16)]), .v (.str [hexU (c % 16)])] (fun z k => ?_) ⟨_, rfl, by rw [wrL, if_neg fun h => h.elim h9 fun h => hr ⟨h.1, h.2.1⟩]; rfl, rfl⟩
  with_unfolding_all exact k (Nat.le_of_ble_eq_true rfl) (q2 _) (by decide) (Nat.le_of_ble_eq_true rfl) (q1 _) ⟨by decide, PyProof.noPylong_of_log2 (by decide +kernel)⟩ (c3 rfl) h9'
end
end
section
structure GFs (Γ : Gl prog w) (F : Nat → Addr) : Prop extends GC Γ F, GDat Γ where
 fs : ∀ i, i ∈ [15, 16, 24, 27, 29, 30, 32, 53, 55, 56, 57, 58, 59, 60, 61, 62, 63, 64, 65, 66, 67] → GFn Γ (F i) i
section
variable {Γ : Gl prog w} {F : Nat → Addr}
theorem fn_quote (hG : GFs Γ F) {c : Nat} (hc : c < 256) : Fn Γ 1 (.ref (F 16)) [.str [c]] (.str (quoL c)) :=
 Fn.of (n := 0) (k := 0) (m' := [("c", .str [c])]) (hG.fs 16 (by decide)) (by decide +kernel) (by rfl) rfl (List.forall_mem_cons.mpr ⟨rfl, nofun⟩) fun C hk h1 h2 => w_quote hG.toGC hG.toGDat hk hc
theorem fn_ifmt (hG : GFs Γ F) {m : Nat} : Fn Γ 1 (.ref (F 32)) [.int m] (.int (Builtin.bitAnd m 61440)) :=
 Fn.of (n := 0) (k := 0) (m' := [("mode", .int m)]) (hG.fs 32 (by decide)) (by decide +kernel) (by rfl) rfl (List.forall_mem_cons.mpr ⟨rfl, nofun⟩) fun C hk h1 h2 => w_ifmt hG.toGC hk
theorem fn_written (hG : GFs Γ F) {c : Nat} (hc : c < 256) : Fn Γ 1 (.ref (F 61)) [.str [c]] (.str (wrL c)) :=
 Fn.of (n := 0) (k := 0) (m' := [("sign", .str [c])]) (hG.fs 61 (by decide)) (by decide +kernel) (by rfl) rfl (List.forall_mem_cons.mpr ⟨rfl, nofun⟩) fun C hk h1 h2 => w_written hG.toGC hk hc
theorem w_unquote {a x y : Nat} {i : Nat} {C : Cx} (hG : GC Γ F) (hk : C.kn = (fScope 15).names) (hx : hex2 [x, y] = some (i : Int)) (hi : i < 256) :
  AB Γ C (fBody 15) ⟨[("s", .str [a, x, y])], []⟩ (Res 0 (.str [i])) := by
 refine AB_evk hG hk 10 [.v (.int (i : Int)), .v (.str [i])] (fun z k => ?_) ⟨_, rfl, rfl, rfl⟩
 with_unfolding_all exact k (fun Φ hΦ => ACall_chr (Int.natCast_nonneg i) (Int.ofNat_le.mpr (Nat.le_trans (Nat.le_of_lt hi) (by decide : 256 ≤ 0x10FFFF))) hΦ) (fun Φ hΦ => ACall_int16 hx hΦ)
theorem fn_unquote (hG : GFs Γ F) {a x y i : Nat} (hx : hex2 [x, y] = some (i : Int)) (hi : i < 256) : Fn Γ 1 (.ref (F 15)) [.str [a, x, y]] (.str [i]) :=
 Fn.of (n := 0) (k := 0) (m' := [("s", .str [a, x, y])]) (hG.fs 15 (by decide)) (by decide +kernel) (by rfl) rfl (List.forall_mem_cons.mpr ⟨rfl, nofun⟩) fun C hk h1 h2 => w_unquote hG.toGC hk hx hi
end
end
section
section
variable {Γ : Gl prog w} {F : Nat → Addr}
noncomputable def poolL : List Nat := [32, 9, 61, 233, 69, 57, 97, 51, 42, 63, 91, 68]
noncomputable def tailL (x : Int) : List Nat := (List.range (x % 4).toNat).map fun j => poolL.getD (x / 4 / 12 ^ j % 12).toNat 0
theorem w_tail {x : Int} {C : Cx} (hG : GC Γ F) (hk : C.kn = (fScope 63).names) (hd1 : C.A.depth + 5 ≤ 600) (hd2 : C.A.units + 50 ≤ 5000) :
  AB Γ C (fBody 63) ⟨[("x", .int x)], []⟩ (Res 0 (.str (tailL x))) := by
 have hf : x.fmod 4 = (((x % 4).toNat : Nat) : Int) := by rw [Int.fmod_eq_emod_of_nonneg _ (by decide), Int.toNat_of_nonneg (Int.emod_nonneg _ (by decide))]
 have hn4 : (x % 4).toNat < 4 := (Int.toNat_lt' (by decide)).mpr (Int.emod_lt_of_pos _ (by decide))
 have hI : ∀ (n : Nat), n < 4 → ∀ mu, iterH mu (.rng 0 (n : Int) 1) = some ((List.range n).map fun i : Nat => D.int (i : Int)) := fun n h mu => by
  rcases lt4 n h with q | q | q | q <;> subst q <;> rfl
 have hg : ∀ j, poolL[(x / 4 / 12 ^ j % 12).toNat]? = some (poolL.getD (x / 4 / 12 ^ j % 12).toNat 0) := fun j => by
  have : (x / 4 / 12 ^ j % 12).toNat < poolL.length := (Int.toNat_lt' (by decide)).mpr (Int.emod_lt_of_pos _ (by decide))
  rw [List.getD_eq_getElem?_getD, List.getElem?_eq_getElem this]; rfl
 have e : ∀ l : List Nat, (l.map fun j => D.str [poolL.getD (x / 4 / 12 ^ j % 12).toNat 0]) = (l.map fun j => [poolL.getD (x / 4 / 12 ^ j % 12).toNat 0]).map D.str := fun l => by rw [List.map_map]; rfl
 have e2 : ((List.range (x % 4).toNat).map fun j => [poolL.getD (x / 4 / 12 ^ j % 12).toNat 0]) = (tailL x).map fun c => [c] := by rw [tailL, List.map_map]; rfl
 have hnm : noMutL ((List.range (x % 4).toNat).map fun j => D.str [poolL.getD (x / 4 / 12 ^ j % 12).toNat 0]) = true := noMutL_map _ _
 refine AB_evk hG hk 12 [.v (.lst (((tailL x).map fun c => [c]).map D.str)), .v (.str (tailL x))] (fun z k => ?_) ⟨_, rfl, rfl, rfl⟩
 with_unfolding_all refine k (fun Φ hΦ => ACall_join (l := ((tailL x).map fun c => [c]).map D.str) rfl (strsD_str _) ?_ ?_) fun Φ hΦ => ?_
 ·rw [joinSum0, tailL, List.length_map, List.length_range]; exact Nat.le_trans (Nat.le_of_lt hn4) (by decide)
 ·rw [AE_joinL0]; exact hΦ
 rw [← e2, ← e] at hΦ
 refine AE_CompM (ι := fun i : Nat => D.int (i : Int)) (g := fun j => .str [poolL.getD (x / 4 / 12 ^ j % 12).toNat 0]) (f := onInt fun j => .str [poolL.getD (x / 4 / 12 ^ j % 12).toNat 0]) (fun _ => rfl) (fun _ => rfl) (lim := 5) (m0 := [("x", .int x), ("pool", .str poolL)]) (kn := [(".0", .local), ("j", .local)]) (by rfl) (by rw [hk]; rfl) (by rfl) hd1 hd2
  (AE_evk hG hk 8 [.v (.rng 0 (x.fmod 4) 1)] (fun z k => ?_) (by with_unfolding_all rfl) ⟨List.range (x % 4).toNat, by rw [hf]; exact hI _ hn4 _, by rw [List.length_range]; exact Nat.le_trans (Nat.le_of_lt hn4) (by decide), List.forall_mem_cons.mpr ⟨rfl, List.forall_mem_cons.mpr ⟨rfl, nofun⟩⟩, fun j hj => CT_ev (by decide +kernel) fun C' acc hk' _ _ => AE_evk hG hk' 12 [.v (.int (12 ^ j)), .v (.str [poolL.getD (x / 4 / 12 ^ j % 12).toNat 0])] (fun z k => ?_) (by with_unfolding_all rfl) ⟨rfl, rfl, rfl⟩, hnm, hΦ⟩)
 ·with_unfolding_all exact k (fun Φ hΦ => ACall_range1 hΦ) (by decide)
 ·have hj3 : j < 4 := Nat.lt_trans (List.mem_range.mp hj) hn4
  have hp : ((12 : Int) ^ j) ≠ 0 ∧ ∀ y, Builtin.divisionGoesByPylong y ((12 : Int) ^ j) = false := by
   rcases lt4 j hj3 with q | q | q | q <;> subst q <;> exact ⟨by decide, fun y => PyProof.noPylong_of_log2 (by decide +kernel)⟩
  have hp0 : (0 : Int) ≤ 12 ^ j := Int.pow_nonneg (by decide)
  have hs : subD [acc] (.str poolL) (((x.fdiv 4).fdiv (12 ^ j)).fmod 12) = some (.str [poolL.getD (x / 4 / 12 ^ j % 12).toNat 0]) := by
   rw [Int.fdiv_eq_ediv_of_nonneg x (by decide), Int.fdiv_eq_ediv_of_nonneg _ hp0, Int.fmod_eq_emod_of_nonneg _ (by decide), ← Int.toNat_of_nonneg (a := x / 4 / 12 ^ j % 12) (Int.emod_nonneg _ (by decide))]
   exact sub_str (hg j)
  with_unfolding_all exact k hs (by decide) ⟨hp.1, hp.2 _⟩ (fun st Φ k => op_pow_int k (Int.natCast_nonneg j) (Int.ofNat_le.mpr (Nat.le_trans (Nat.le_of_lt hj3) (by decide))) (by decide)) ⟨by decide, PyProof.noPylong_of_log2 (by decide +kernel)⟩
theorem fn_tail (hG : GFs Γ F) {x : Int} : Fn Γ 6 (.ref (F 63)) [.int x] (.str (tailL x)) :=
 Fn.of (n := 5) (k := 0) (m' := [("x", .int x)]) (hG.fs 63 (by decide)) (by decide +kernel) (by rfl) rfl (List.forall_mem_cons.mpr ⟨rfl, nofun⟩) fun C hk h1 h2 => w_tail hG.toGC hk h1 h2
end
end
section
theorem fdN (a b : Nat) : Int.fdiv (a : Int) (b : Int) = ((a / b : Nat) : Int) := (Int.ofNat_fdiv a b).symm
theorem fmN (a b : Nat) : Int.fmod (a : Int) (b : Int) = ((a % b : Nat) : Int) := (Int.ofNat_fmod a b).symm
noncomputable def kindL : List Nat := [63, 112, 99, 63, 100, 63, 98, 63, 45, 63, 108, 63, 115, 63, 63, 63]
noncomputable def rightsL (k m : Nat) : List Nat :=
 let f := m / 8 ^ (2 - k) % 8
 let a := m / 2 ^ (11 - k) % 2
 [if f / 4 = 1 then 114 else 45, if f / 2 % 2 = 1 then 119 else 45, if a = 1 then (if f % 2 = 1 then (if k = 2 then 116 else 115) else (if k = 2 then 84 else 83)) else (if f % 2 = 1 then 120 else 45)]
noncomputable def listedL (m : Nat) : List Nat := kindL.getD (m / 4096) 0 :: (rightsL 0 m ++ rightsL 1 m ++ rightsL 2 m)
noncomputable def listedP (m j : Nat) : List Nat := kindL.getD (m / 4096) 0 :: (List.range j).flatMap fun k => rightsL k m
theorem li_8 : ∀ j : Nat, j < 3 → (8 : Int) ^ ((2 : Int) - (j : Int)).toNat = ((8 ^ (2 - j) : Nat) : Int) ∧ (2 : Int) ^ ((11 : Int) - (j : Int)).toNat = ((2 ^ (11 - j) : Nat) : Int) ∧ (0 : Int) ≤ 2 - (j : Int) ∧ (2 : Int) - (j : Int) ≤ 1000000 ∧ (0 : Int) ≤ 11 - (j : Int) ∧ (11 : Int) - (j : Int) ≤ 1000000 ∧ ((8 ^ (2 - j) : Nat) : Int).natAbs.log2 < 9000 ∧ ((2 ^ (11 - j) : Nat) : Int).natAbs.log2 < 9000 ∧ ((8 ^ (2 - j) : Nat) : Int) ≠ 0 ∧ ((2 ^ (11 - j) : Nat) : Int) ≠ 0 := by decide
theorem li_f : ∀ f : Nat, f < 8 → pyIdx [45, 114] ((f : Int).fdiv 4) = some (if f / 4 = 1 then 114 else 45) ∧ pyIdx [45, 119] (((f : Int).fdiv 2).fmod 2) = some (if f / 2 % 2 = 1 then 119 else 45) ∧ pyIdx [84, 116] ((f : Int).fmod 2) = some (if f % 2 = 1 then 116 else 84) ∧ pyIdx [83, 115] ((f : Int).fmod 2) = some (if f % 2 = 1 then 115 else 83) ∧ pyIdx [45, 120] ((f : Int).fmod 2) = some (if f % 2 = 1 then 120 else 45) := by decide
theorem sub_of {mu : List (List D)} {l : List Nat} {i : Int} {c : Nat} (h : pyIdx l i = some c) : subD mu (.str l) i = some (.str [c]) := congrArg (Option.map fun c => D.str [c]) h
theorem listedP_len (m : Nat) : ∀ j, (listedP m j).length ≤ 1 + j * 3
 | 0 => Nat.le_refl 1
 | j + 1 => by
  have := listedP_len m j
  unfold listedP at this ⊢
  rw [List.range_succ, List.flatMap_append, ← List.cons_append, List.length_append, List.flatMap_singleton, Nat.succ_mul, ← Nat.add_assoc]
  exact Nat.add_le_add_right this 3
theorem listedP_succ (m j : Nat) : listedP m (j + 1) = listedP m j ++ rightsL j m := by
 unfold listedP
 rw [List.range_succ, List.flatMap_append, ← List.cons_append, List.flatMap_singleton]
theorem listedL_P (m : Nat) : listedL m = listedP m 3 := by simp [listedL, listedP, List.range_succ]
section
variable {Γ : Gl prog w} {F : Nat → Addr}
inductive LiI (m : Nat) : List D → St → Prop
 | mk (j n : Nat) (hj : j + n = 3) : LiI m ((List.range' j n).map fun i : Nat => D.int (i : Int)) ⟨[("mode", .int m), ("told", .str (listedP m j))], []⟩
theorem li_turn {m j : Nat} {told : List Nat} {C : Cx} {Φ : Fl → St → Prop} (hG : GC Γ F) (hk : C.kn = (fScope 55).names) (hj : j < 3) (ht : told.length ≤ 100) (k : ∀ m', Pk [("mode", .int m), ("told", .str (told ++ rightsL j m))] m' → Φ .next ⟨m', []⟩) :
  AB Γ C (subB (fBody 55) 1) ⟨[("mode", .int m), ("told", .str told), ("k", .int (j : Nat))], []⟩ Φ := by
 obtain ⟨q1, q2, q3, q4, q5, q6, q7, q8, q9, q10⟩ := li_8 j hj
 refine AB_runk (b' := (subB (fBody 55) 1).drop 1) (st' := ⟨[("mode", .int m), ("told", .str told), ("k", .int (j : Nat)), ("above", .int (((m : Int).fdiv ((2 ^ (11 - j) : Nat) : Int)).fmod ((2 : Nat) : Int))), ("figure", .int (((m : Int).fdiv ((8 ^ (2 - j) : Nat) : Int)).fmod ((8 : Nat) : Int)))], []⟩) hG hk 12 1 [.v (.int ((8 ^ (2 - j) : Nat) : Int)), .v (.int ((2 ^ (11 - j) : Nat) : Int))] (fun z k => ?_) (by with_unfolding_all rfl) ?_
 ·with_unfolding_all exact k (by decide) ⟨q10, PyProof.noPylong_of_log2 q8⟩ (fun st Φ k => op_pow_int (q2.symm ▸ k) q5 q6 (by decide)) (by decide) ⟨q9, PyProof.noPylong_of_log2 q7⟩ (fun st Φ k => op_pow_int (q1.symm ▸ k) q3 q4 (by decide))
 clear q1 q2 q3 q4 q5 q6 q7 q8 q9 q10
 rw [fdN, fmN, fdN, fmN]
 unfold rightsL at k
 have hf : m / 8 ^ (2 - j) % 8 < 8 := Nat.mod_lt _ (by decide)
 have ha : m / 2 ^ (11 - j) % 2 < 2 := Nat.mod_lt _ (by decide)
 generalize m / 8 ^ (2 - j) % 8 = f at hf k
 generalize m / 2 ^ (11 - j) % 2 = a at ha k
 obtain ⟨f1, f2, f3, f4, f5⟩ := li_f f hf
 have bt : ∀ x y z : Nat, (told ++ ([x] ++ [y] ++ [z])).length ≤ 1048576 := fun x y z => by rw [List.length_append]; exact Nat.le_trans (Nat.add_le_add_right ht 3) (by decide)
 have go : ∀ (g : Bool) (T U : List Nat) (z : Nat), decide ((j : Int) = 2) = g → T = (match g with | true => [84, 116] | false => [83, 115]) → U = (if a = 1 then T else [45, 120]) → pyIdx U ((f : Int).fmod 2) = some z → z = (if a = 1 then if f % 2 = 1 then if j = 2 then 116 else 115 else if j = 2 then 84 else 83 else if f % 2 = 1 then 120 else 45) →
   AB Γ C ((subB (fBody 55) 1).drop 1) ⟨[("mode", .int m), ("told", .str told), ("k", .int (j : Nat)), ("above", .int (a : Nat)), ("figure", .int (f : Nat))], []⟩ Φ := fun g T U z hg hT hU hz he => by
  have su : ∀ mu, subD mu (.lst [.str [45, 120], .str T]) (a : Int) = some (.str U) := fun mu => by
   rcases Nat.lt_or_ge a 1 with h | h
   ·have : a = 0 := Nat.lt_one_iff.mp h
    subst this; rw [hU]; rfl
   ·have : a = 1 := Nat.le_antisymm (Nat.le_of_lt_succ ha) h
    subst this; rw [hU]; rfl
  cases g <;> subst hT
  ·refine AB_evk hG hk 14 [.b false, .b false, .v (.str [if f / 4 = 1 then 114 else 45]), .v (.str [if f / 2 % 2 = 1 then 119 else 45]), .v (.str U), .v (.str [z])] (fun z k => ?_) (k _ (by rw [he]; rfl))
   with_unfolding_all exact k (bt _ _ _) (Nat.le_of_ble_eq_true rfl) (sub_of hz) (by decide) (su _) (Nat.le_of_ble_eq_true rfl) (sub_of f2) (by decide) ⟨by decide, PyProof.noPylong_of_log2 (by decide +kernel)⟩ (sub_of f1) ⟨by decide, PyProof.noPylong_of_log2 (by decide +kernel)⟩ hg
  ·refine AB_evk hG hk 14 [.b true, .b false, .v (.str [if f / 4 = 1 then 114 else 45]), .v (.str [if f / 2 % 2 = 1 then 119 else 45]), .v (.str U), .v (.str [z])] (fun z k => ?_) (k _ (by rw [he]; rfl))
   with_unfolding_all exact k (bt _ _ _) (Nat.le_of_ble_eq_true rfl) (sub_of hz) (by decide) (su _) (Nat.le_of_ble_eq_true rfl) (sub_of f2) (by decide) ⟨by decide, PyProof.noPylong_of_log2 (by decide +kernel)⟩ (sub_of f1) ⟨by decide, PyProof.noPylong_of_log2 (by decide +kernel)⟩ hg
 by_cases h1 : a = 1
 ·by_cases h2 : j = 2
  ·exact go true _ [84, 116] _ (decide_eq_true (by rw [h2]; rfl)) rfl (if_pos h1).symm f3 (by rw [if_pos h1, if_pos h2, if_pos h2])
  ·exact go false _ [83, 115] _ (decide_eq_false fun e => h2 (Int.ofNat_inj.mp e)) rfl (if_pos h1).symm f4 (by rw [if_pos h1, if_neg h2, if_neg h2])
 ·by_cases h2 : j = 2
  ·exact go true _ [45, 120] _ (decide_eq_true (by rw [h2]; rfl)) rfl (if_neg h1).symm f5 (by rw [if_neg h1])
  ·exact go false _ [45, 120] _ (decide_eq_false fun e => h2 (Int.ofNat_inj.mp e)) rfl (if_neg h1).symm f5 (by rw [if_neg h1])
theorem w_listed {m : Nat} {C : Cx} (hG : GC Γ F) (hk : C.kn = (fScope 55).names) (hm : m < 65536) :
  AB Γ C (fBody 55) ⟨[("mode", .int m)], []⟩ (Res 0 (.str (listedL m))) := by
 have hl : kindL[m / 4096]? = some (kindL.getD (m / 4096) 0) := by
  rw [List.getD_eq_getElem?_getD, List.getElem?_eq_getElem (show m / 4096 < kindL.length from Nat.div_lt_of_lt_mul hm)]; rfl
 refine AB_runk (b' := (fBody 55).drop 1) (st' := ⟨[("mode", .int m), ("told", .str (listedP m 0))], []⟩) hG hk 10 1 [.v (.str [kindL.getD (m / 4096) 0])] (fun z k => ?_) (by with_unfolding_all rfl) (AB_c (AS_ForR (by rfl) (AE_evk hG hk 8 [.v (.rng 0 3 1)] (fun z k => ?_) (by with_unfolding_all rfl) ⟨_, _, _, rfl, by decide, fun I => ?_⟩)))
 ·with_unfolding_all exact k (sub_of (l := kindL) (by rw [show (m : Int).fdiv 4096 = ((m / 4096 : Nat) : Int) from fdN m 4096]; exact hl)) ⟨by decide, PyProof.noPylong_of_log2 (by decide +kernel)⟩
 ·with_unfolding_all exact k fun Φ hΦ => ACall_range1 hΦ
 rw [show rngD 0 3 1 = (List.range' 0 3).map fun i : Nat => D.int (i : Int) from by rfl]
 refine AFor_inv (LiI m) ?_ ?_ _ _ (.mk 0 3 rfl)
 ·intro d r Φ' W' _ hW st h
  generalize hr : d :: r = ds at h
  obtain ⟨j, n, hj⟩ := h
  cases n with
  | zero => cases hr
  | succ n =>
   cases hr
   have hj3 : j < 3 := hj ▸ Nat.lt_add_of_pos_right (Nat.succ_pos n)
   exact AAs_Name (gStore hk (by decide +kernel)) (li_turn hG hk hj3 (Nat.le_trans (listedP_len m j) (Nat.le_trans (Nat.add_le_add_left (Nat.mul_le_mul_right 3 (Nat.le_of_lt hj3)) 1) (by decide))) fun m' s => T_go hW (.mk (j + 1) n (by rw [← hj, Nat.add_assoc, Nat.add_comm 1])) (listedP_succ m j ▸ s) rfl)
 ·intro st h
  generalize hr : ([] : List D) = ds at h
  obtain ⟨j, n, hj⟩ := h
  cases n with
  | succ n => cases hr
  | zero =>
   cases hj
   rw [listedL_P]
   exact AB_nil (C_next (AB_evk hG hk 8 [] (fun z k => k) ⟨_, rfl, rfl, rfl⟩))
theorem fn_listed (hG : GFs Γ F) {m : Nat} (hm : m < 65536) : Fn Γ 1 (.ref (F 55)) [.int m] (.str (listedL m)) :=
 Fn.of (n := 0) (k := 0) (m' := [("mode", .int m)]) (hG.fs 55 (by decide)) (by decide +kernel) (by rfl) rfl (List.forall_mem_cons.mpr ⟨rfl, nofun⟩) fun C hk h1 h2 => w_listed hG.toGC hk hm
end
end
section
theorem ad1 (a : Nat) : (a : Int) + 1 = ((a + 1 : Nat) : Int) := rfl
theorem ad3 (a : Nat) : (a : Int) + 3 = ((a + 3 : Nat) : Int) := rfl
noncomputable def atomD (a : Bool × List Nat) : D := .tup [.bool a.1, .str a.2]
noncomputable def setR : List Nat → List Nat
 | [] => []
 | [c] => if c = 92 then [] else [c]
 | c :: d :: r => if c = 92 then d :: setR r else c :: setR (d :: r)
noncomputable def setOk : List Nat → Bool
 | [] => true
 | [c] => c != 92
 | c :: d :: r => if c = 92 then ((r.head? != some 45 || decide (r.length < 2)) && setOk r) else ((d != 45 || decide (r.length < 1)) && setOk (d :: r))
noncomputable def setA (l : List Nat) : Bool × List Nat := if l.head? = some 94 then (true, setR l.tail) else (false, setR l)
section
variable {Γ : Gl prog w} {F : Nat → Addr}
noncomputable def sS (rest sg : List Nat) (i : Int) (barred : Bool) : List (Str × D) := [("rest", .str rest), ("signs", .str sg), ("at", .int i), ("barred", .bool barred)]
inductive SetI (rest : List Nat) (barred : Bool) : Nat → St → Prop
 | mk (i : Nat) (tl sg : List Nat) (hd : rest.drop i = tl) (hl : i + tl.length = rest.length) (hsl : sg.length ≤ i) (hsg : sg ++ setR tl = setR rest) (hok : setOk tl = true) : SetI rest barred tl.length ⟨sS rest sg (i : Nat) barred, []⟩
theorem setOk_tl {c : Nat} {tl : List Nat} (hc : c ≠ 92) (h : setOk (c :: tl) = true) : setOk tl = true ∧ (tl.take 1 = [45] → (tl.drop 1).take 1 = []) := by
 cases tl with
 | nil => exact ⟨rfl, nofun⟩
 | cons a b =>
  simp only [setOk, if_neg hc, Bool.and_eq_true, Bool.or_eq_true, bne_iff_ne, decide_eq_true_eq] at h
  refine ⟨h.2, fun e => ?_⟩
  have e : a = 45 := (List.cons.inj e).1
  rcases h.1 with q | q
  ·exact absurd e q
  ·exact List.eq_nil_of_length_eq_zero (Nat.le_zero.mp (Nat.le_trans (List.length_take_le' ..) (Nat.le_of_lt_succ q)))
theorem setOk_92 {d : Nat} {r : List Nat} (h : setOk (92 :: d :: r) = true) : setOk r = true ∧ (r.take 1 = [45] → (r.drop 1).take 1 = []) := by
 simp only [setOk, if_true, Bool.and_eq_true, Bool.or_eq_true, bne_iff_ne, decide_eq_true_eq] at h
 refine ⟨h.2, fun e => ?_⟩
 cases r with
 | nil => rfl
 | cons a b =>
  have e : a = 45 := (List.cons.inj e).1
  rcases h.1 with q | q
  ·exact absurd (congrArg some e) q
  ·exact List.eq_nil_of_length_eq_zero (Nat.le_zero.mp (Nat.le_trans (List.length_take_le' ..) (Nat.le_of_lt_succ (Nat.lt_of_succ_lt_succ q))))
theorem setR_ne {c : Nat} {tl : List Nat} (h : c ≠ 92) : setR (c :: tl) = c :: setR tl := by
 cases tl with
 | nil => exact if_neg h
 | cons a b => rw [setR]; exact if_neg h
theorem set_loop {rest : List Nat} {barred : Bool} {C : Cx} (hG : GC Γ F) (hk : C.kn = (fScope 56).names) (hrl : rest.length ≤ 1000) (ho : setOk rest = true) : AB Γ C ((fBody 56).drop 2) ⟨sS rest [] 0 barred, []⟩ (Res 1 (atomD (barred, setR rest))) := by
 refine AB_c (AS_While (AC_inv (SetI rest barred) ?_ _ _ (.mk 0 rest [] rfl (Nat.zero_add _) (Nat.le_refl 0) rfl ho)))
 clear ho
 rintro n Φ' W' - hW st ⟨i, tl, sg, hd, hl, hsl, hsg, hok⟩
 have hb : ∀ x : List Nat, x.length ≤ 1000 → (sg ++ x).length ≤ 1048576 := fun x hx => by
  rw [List.length_append]; exact Nat.le_trans (Nat.add_le_add (Nat.le_trans hsl (Nat.le_trans (Nat.le_add_right _ _) (hl ▸ hrl))) hx) (by decide)
 have sl : ∀ (a : Nat) (y : List Nat), rest.drop a = y → pySlice rest (some (a : Int)) (some ((a + 1 : Nat) : Int)) = y.take 1 := fun a y h => by rw [slice_d, h, Nat.add_sub_cancel_left]
 cases tl with
 | nil =>
  rw [show setR [] = [] from rfl, List.append_nil] at hsg
  subst hsg
  refine AT_evk hG hk 8 [.b false] (fun z k => ?_) (by with_unfolding_all rfl) (B_ff (AB_nil (C_next ?_)))
  ·with_unfolding_all exact k (decide_eq_false (Int.not_lt.mpr (Int.ofNat_le.mpr (Nat.le_of_eq hl.symm))))
  exact AB_evk hG hk 8 [] (fun z k => k) ⟨_, rfl, rfl, rfl⟩
 | cons c tl =>
  have hc : subD [] (.str rest) (i : Int) = some (.str [c]) := sub_str (by rw [← Nat.add_zero i, ← List.getElem?_drop, hd]; rfl)
  have hl2 : i + 1 + tl.length = rest.length := by rw [← hl, List.length_cons, Nat.add_assoc, Nat.add_comm 1]
  have hd1 : rest.drop (i + 1) = tl := by rw [← List.drop_drop, hd]; rfl
  refine AT_evk hG hk 8 [.b true] (fun z k => ?_) (by with_unfolding_all rfl) (B_tt ?_)
  ·with_unfolding_all exact k (decide_eq_true (Int.ofNat_lt.mpr (by rw [← hl2, Nat.add_assoc]; exact Nat.lt_add_of_pos_right (Nat.add_pos_left (by decide) _))))
  by_cases hcn : c = 92
  ·subst hcn
   cases tl with
   | nil => cases hok
   | cons d r =>
    have ok := setOk_92 hok
    have hd2 : rest.drop (i + 2) = r := by rw [← List.drop_drop (i := 1) (j := i + 1), hd1]; rfl
    have s1 : pySlice rest (some ((i : Int) + 1)) (some ((i : Int) + 1 + 1)) = [d] := sl (i + 1) _ hd1
    have s2 : pySlice rest (some ((i : Int) + 1 + 1)) (some ((i : Int) + 1 + 2)) = r.take 1 := sl (i + 2) _ hd2
    have s3 : pySlice rest (some ((i : Int) + 1 + 2)) (some ((i : Int) + 1 + 3)) = (r.drop 1).take 1 := sl (i + 3) _ (by rw [← List.drop_drop (i := 1) (j := i + 2), hd2])
    have hgo : ∀ m, Pk (sS rest (sg ++ pySlice rest (some ((i : Int) + 1)) (some ((i : Int) + 1 + 1))) ((i + 2 : Nat) : Int) barred) m → Turn Φ' W' .next ⟨m, []⟩ := fun m s =>
     T_go hW ⟨r.length, Nat.lt_succ_of_lt (Nat.lt_succ_self _), .mk (i + 2) r (sg ++ [d]) hd2 (by rw [← hl2, List.length_cons]; omega) (by rw [List.length_append]; exact Nat.le_succ_of_le (Nat.succ_le_succ hsl)) (by rw [← hsg, List.append_assoc, setR, if_pos rfl]; rfl) ok.1⟩ (s1 ▸ s) rfl
    by_cases h45 : r.take 1 = [45]
    ·refine AB_evk hG hk 12 [.v (.str [92]), .b true, .b true, .b false] (fun z k => ?_) (hgo _ rfl)
     with_unfolding_all exact k (by rw [s1]; exact hb _ (Nat.le_of_ble_eq_true rfl)) (by rw [s3, ok.2 h45]; rfl) (by rw [s2]; exact decide_eq_true h45) rfl hc
    ·refine AB_evk hG hk 12 [.v (.str [92]), .b true, .b false] (fun z k => ?_) (hgo _ rfl)
     with_unfolding_all exact k (by rw [s1]; exact hb _ (Nat.le_of_ble_eq_true rfl)) (by rw [s2]; exact decide_eq_false h45) rfl hc
  ·have ok := setOk_tl hcn hok
   have s1 : pySlice rest (some (i : Int)) (some ((i : Int) + 1)) = [c] := sl i _ hd
   have s2 : pySlice rest (some ((i : Int) + 1)) (some ((i : Int) + 2)) = tl.take 1 := sl (i + 1) _ hd1
   have s3 : pySlice rest (some ((i : Int) + 2)) (some ((i : Int) + 3)) = (tl.drop 1).take 1 := sl (i + 2) _ (by rw [← List.drop_drop (i := 1) (j := i + 1), hd1])
   have hc2 : decide ([c] = [92]) = false := decide_eq_false fun e => hcn (List.cons.inj e).1
   have hgo : ∀ m, Pk (sS rest (sg ++ pySlice rest (some (i : Int)) (some ((i : Int) + 1))) ((i + 1 : Nat) : Int) barred) m → Turn Φ' W' .next ⟨m, []⟩ := fun m s =>
    T_go hW ⟨tl.length, Nat.lt_succ_self _, .mk (i + 1) tl (sg ++ [c]) hd1 hl2 (by rw [List.length_append]; exact Nat.succ_le_succ hsl) (by rw [← hsg, List.append_assoc, setR_ne hcn]; rfl) ok.1⟩ (s1 ▸ s) rfl
   by_cases h45 : tl.take 1 = [45]
   ·refine AB_evk hG hk 12 [.v (.str [c]), .b false, .b true, .b false] (fun z k => ?_) (hgo _ rfl)
    with_unfolding_all exact k (by rw [s1]; exact hb _ (Nat.le_of_ble_eq_true rfl)) (by rw [s3, ok.2 h45]; rfl) (by rw [s2]; exact decide_eq_true h45) hc2 hc
   ·refine AB_evk hG hk 12 [.v (.str [c]), .b false, .b false] (fun z k => ?_) (hgo _ rfl)
    with_unfolding_all exact k (by rw [s1]; exact hb _ (Nat.le_of_ble_eq_true rfl)) (by rw [s2]; exact decide_eq_false h45) hc2 hc
theorem w_set {l : List Nat} {C : Cx} (hG : GC Γ F) (hk : C.kn = (fScope 56).names) (hl : l.length ≤ 1000) (ho : setOk (if l.head? = some 94 then l.tail else l) = true) :
  AB Γ C (fBody 56) ⟨[("inside", .str l)], []⟩ (Res 1 (atomD (setA l))) := by
 have e1 : decide (pySlice l none (some 1) = [94]) = decide (l.head? = some 94) := by
  rw [show pySlice l none (some 1) = l.take 1 from slice_to l 1]
  cases l <;> simp
 by_cases h : l.head? = some 94
 ·rw [decide_eq_true h] at e1
  rw [if_pos h] at ho
  rw [setA, if_pos h]
  refine AB_runk (b' := (fBody 56).drop 2) (st' := ⟨[("inside", .str l), ("barred", .bool (decide (pySlice l none (some 1) = [94]))), ("at", .int 0), ("signs", .str []), ("rest", .str (pySlice l (some 1) none))], []⟩) hG hk 12 2 [.b true] (fun z k => ?_) (by with_unfolding_all rfl) ?_
  ·with_unfolding_all exact k (by rw [e1]; rfl)
  rw [e1, slice_1, List.drop_one]
  exact AB_pk (m' := sS l.tail [] 0 true) rfl rfl (set_loop hG hk (by rw [List.length_tail]; exact Nat.le_trans (Nat.sub_le _ _) hl) ho)
 ·rw [decide_eq_false h] at e1
  rw [if_neg h] at ho
  rw [setA, if_neg h]
  refine AB_runk (b' := (fBody 56).drop 2) (st' := ⟨[("inside", .str l), ("barred", .bool (decide (pySlice l none (some 1) = [94]))), ("at", .int 0), ("signs", .str []), ("rest", .str l)], []⟩) hG hk 12 2 [.b false] (fun z k => ?_) (by with_unfolding_all rfl) ?_
  ·with_unfolding_all exact k (by rw [e1]; rfl)
  rw [e1]
  exact AB_pk (m' := sS l [] 0 false) rfl rfl (set_loop hG hk hl ho)
theorem fn_set (hG : GFs Γ F) {l : List Nat} (hl : l.length ≤ 1000) (ho : setOk (if l.head? = some 94 then l.tail else l) = true) : Fn Γ 1 (.ref (F 56)) [.str l] (atomD (setA l)) :=
 Fn.of (n := 0) (k := 1) (m' := [("inside", .str l)]) (hG.fs 56 (by decide)) (by decide +kernel) (by rfl) rfl (List.forall_mem_cons.mpr ⟨rfl, nofun⟩) fun C hk h1 h2 => w_set hG.toGC hk hl ho
end
end
section
noncomputable def fitsR : List (Bool × List Nat) → List Nat → Bool
 | [], _ => true
 | a :: r, c :: cs => if decide (c ∈ a.2) == a.1 then false else fitsR r cs
 | _ :: _, [] => false
noncomputable def fitsL (as : List (Bool × List Nat)) (nm : List Nat) (at_ : Nat) : Bool := decide (at_ + as.length ≤ nm.length) && fitsR as (nm.drop at_)
noncomputable def partD (p : List Nat × List (Bool × List Nat)) : D := .tup [.str p.1, .lst (p.2.map atomD)]
noncomputable def heldK : List Nat := [104, 101, 108, 100]
noncomputable def freeK : List Nat := [102, 114, 101, 101]
noncomputable def runK : List Nat := [114, 117, 110]
noncomputable def seekL (as : List (Bool × List Nat)) (nm : List Nat) (at_ : Nat) : Nat := if at_ + as.length ≤ nm.length ∧ fitsL as nm at_ = false then seekL as nm (at_ + 1) else at_
termination_by nm.length + 1 - at_
decreasing_by exact Nat.sub_lt_sub_left (Nat.lt_succ_of_le (Nat.le_trans (Nat.le_add_right _ _) (And.left ‹_›))) (Nat.lt_succ_self _)
noncomputable def goL (p : List Nat × List (Bool × List Nat)) (nm : List Nat) (at_ : Nat) : Nat := if p.1 = heldK then seekL p.2 nm at_ else if p.1 = freeK ∧ at_ + p.2.length ≤ nm.length then nm.length - p.2.length else at_
noncomputable def takesR (nm : List Nat) : List (List Nat × List (Bool × List Nat)) → Nat → Bool
 | [], a => decide (a = nm.length)
 | p :: r, a => if fitsL p.2 nm (goL p nm a) then takesR nm r (goL p nm a + p.2.length) else false
section
variable {Γ : Gl prog w} {F : Nat → Addr}
theorem rngD_nat (n : Nat) : rngD 0 (n : Int) 1 = (List.range n).map fun i : Nat => D.int (i : Int) := by
 have e : (Builtin.Range.rangeSize 0 (n : Int) 1).toNat = n := by
  unfold Builtin.Range.rangeSize
  simp only [show (1 : Int) > 0 from by decide, if_true, Int.ediv_one]
  split
  ·rw [Int.sub_zero, Int.sub_add_cancel, Int.toNat_natCast]
  ·exact (Nat.eq_zero_of_not_pos fun q => absurd (Int.ofNat_lt.mpr q) (by assumption)).symm
 unfold rngD
 rw [e]
 refine List.map_congr_left fun i _ => ?_
 rw [Int.mul_one, Int.zero_add]
inductive FiI (al : List (Bool × List Nat)) (nm : List Nat) (at_ : Nat) (R : Bool) : List D → St → Prop
 | mk (j n : Nat) (hj : j + n = al.length) (hf : R = fitsR (al.drop j) (nm.drop (at_ + j))) : FiI al nm at_ R ((List.range' j n).map fun i : Nat => D.int (i : Int)) ⟨[("atoms", .lst (al.map atomD)), ("name", .str nm), ("at", .int at_)], []⟩
theorem w_fits {al : List (Bool × List Nat)} {nm : List Nat} {at_ : Nat} {C : Cx} (hG : GC Γ F) (hk : C.kn = (fScope 58).names) (hb1 : al.length ≤ 1000000) :
  AB Γ C (fBody 58) ⟨[("atoms", .lst (al.map atomD)), ("name", .str nm), ("at", .int at_)], []⟩ (Res 0 (.bool (fitsL al nm at_))) := by
 have hl : ((al.map atomD).length : Int) = (al.length : Int) := congrArg _ (List.length_map _)
 by_cases hle : at_ + al.length ≤ nm.length
 case neg =>
  refine AB_evk hG hk 8 [.b true] (fun z k => ?_) ⟨_, rfl, by rw [fitsL, decide_eq_false hle]; rfl, rfl⟩
  with_unfolding_all exact k (decide_eq_true (by rw [hl]; exact Int.ofNat_lt.mpr (Nat.lt_of_not_le hle)))
 case pos =>
  refine AB_runk (b' := (fBody 58).drop 1) (st' := ⟨[("atoms", .lst (al.map atomD)), ("name", .str nm), ("at", .int at_)], []⟩) hG hk 8 1 [.b false] (fun z k => ?_) (by with_unfolding_all rfl) (AB_c (AS_ForR (by rfl) (AE_evk hG hk 8 [.v (.rng 0 (al.length : Nat) 1)] (fun z k => ?_) (by with_unfolding_all rfl) ⟨_, _, _, rfl, small_ok (by decide) (by decide) (Int.le_trans (by decide) (Int.natCast_nonneg _)) (Int.ofNat_le.mpr (Nat.le_trans hb1 (by decide))), fun I => ?_⟩)))
  ·with_unfolding_all exact k (decide_eq_false (by rw [hl]; exact Int.not_lt.mpr (Int.ofNat_le.mpr hle)))
  ·with_unfolding_all exact k fun Φ hΦ => ACall_range1 (hl ▸ hΦ)
  rw [rngD_nat, List.range_eq_range']
  refine AFor_inv (FiI al nm at_ (fitsR al (nm.drop at_))) ?_ ?_ _ _ (.mk 0 _ (Nat.zero_add _) rfl)
  ·intro d r Φ' W' hΦ hW st h
   generalize hr : d :: r = ds at h
   obtain ⟨j, n, hj, hf⟩ := h
   cases n with
   | zero => cases hr
   | succ n =>
    cases hr
    have hjl : j < al.length := hj ▸ Nat.lt_add_of_pos_right (Nat.succ_pos n)
    have hjn : at_ + j < nm.length := Nat.lt_of_lt_of_le (Nat.add_lt_add_left hjl at_) hle
    have c1 : ∀ mu, subD mu (.str nm) ((at_ + j : Nat) : Int) = some (.str [nm[at_ + j]]) := fun mu => sub_str (List.getElem?_eq_getElem hjn)
    have c2 : ∀ mu, subD mu (.lst (al.map atomD)) (j : Int) = some (atomD al[j]) := fun mu => sub_map (List.getElem?_eq_getElem hjl)
    rw [List.drop_eq_getElem_cons hjl, List.drop_eq_getElem_cons hjn] at hf
    refine AAs_Name (gStore hk (by decide +kernel)) ?_
    show AB Γ C (subB (fBody 58) 1) _ _
    cases hb : decide (nm[at_ + j] ∈ al[j].2) == al[j].1 with
    | true =>
     refine AB_evk hG hk 8 [.v (.str [nm[at_ + j]]), .v (atomD al[j]), .v (.str al[j].2), .v (atomD al[j]), .v (.bool al[j].1), .b true] (fun z k => ?_) (T_ret hΦ (C_ret ⟨_, rfl, by rw [fitsL, decide_eq_true hle, hf, fitsR, hb]; rfl, rfl⟩))
     with_unfolding_all exact k hb rfl (c2 _) rfl (c2 _) (c1 _)
    | false =>
     refine AB_evk hG hk 8 [.v (.str [nm[at_ + j]]), .v (atomD al[j]), .v (.str al[j].2), .v (atomD al[j]), .v (.bool al[j].1), .b false] (fun z k => ?_) (T_go hW (.mk (j + 1) n (by rw [← hj, Nat.add_assoc, Nat.add_comm 1]) (by rw [hf, fitsR, hb]; rfl)) rfl rfl)
     with_unfolding_all exact k hb rfl (c2 _) rfl (c2 _) (c1 _)
  ·intro st h
   generalize hr : ([] : List D) = ds at h
   obtain ⟨j, n, hj, hf⟩ := h
   cases n with
   | succ n => cases hr
   | zero =>
    cases hj
    rw [List.drop_of_length_le (Nat.le_refl _)] at hf
    exact AB_nil (C_next (AB_evk hG hk 6 [] (fun z k => k) ⟨_, rfl, by rw [fitsL, decide_eq_true hle, hf]; rfl, rfl⟩))
theorem noMut_atoms : ∀ al : List (Bool × List Nat), noMutL (al.map atomD) = true
 | [] => rfl
 | a :: r => by simp only [List.map_cons, noMutL, noMut_atoms r, atomD, noMut]; rfl
theorem fn_fits (hG : GFs Γ F) {al : List (Bool × List Nat)} {nm : List Nat} {at_ : Nat} (hb1 : al.length ≤ 1000000) : Fn Γ 1 (.ref (F 58)) [.lst (al.map atomD), .str nm, .int at_] (.bool (fitsL al nm at_)) :=
 Fn.of (n := 0) (k := 0) (m' := [("atoms", .lst (al.map atomD)), ("name", .str nm), ("at", .int at_)]) (hG.fs 58 (by decide)) (by decide +kernel) (by rfl) (by show (noMutL (al.map atomD) && true) = true; rw [noMut_atoms]; rfl) (by intro p hp; simp at hp; rcases hp with rfl | rfl | rfl <;> rfl) fun C hk h1 h2 => w_fits hG.toGC hk hb1
noncomputable def tS (ps : List (List Nat × List (Bool × List Nat))) (nm : List Nat) (a : Int) : List (Str × D) := [("parts", .lst (ps.map partD)), ("name", .str nm), ("at", .int a)]
noncomputable abbrev tK (p : List Nat × List (Bool × List Nat)) : List (Str × D) := [("kind", .str p.1), ("atoms", .lst (p.2.map atomD))]
inductive TkI (ps : List (List Nat × List (Bool × List Nat))) (nm : List Nat) (p : List Nat × List (Bool × List Nat)) (G : Nat) : Nat → St → Prop
 | mk (a : Nat) (hs : seekL p.2 nm a = G) : TkI ps nm p G (nm.length + 1 - a) ⟨(tS ps nm (a : Nat)).append (tK p), []⟩
theorem tk_go {ps : List (List Nat × List (Bool × List Nat))} {nm : List Nat} {p : List Nat × List (Bool × List Nat)} {a : Nat} {C : Cx} {Φ : Fl → St → Prop} (hG : GFs Γ F) (hk : C.kn = (fScope 59).names) (hp : p.2.length ≤ 1000000) (hd1 : C.A.depth + 1 ≤ 600) (hd2 : C.A.units + 10 ≤ 5000)
  (k : AB Γ C ((subB (fBody 59) 1).drop 1) ⟨(tS ps nm (goL p nm a : Nat)).append (tK p), []⟩ Φ) : AB Γ C (subB (fBody 59) 1) ⟨(tS ps nm (a : Nat)).append (tK p), []⟩ Φ := by
 have hGC := hG.toGC
 have hl : ((p.2.map atomD).length : Int) = (p.2.length : Int) := congrArg _ (List.length_map _)
 by_cases h1 : p.1 = heldK
 ·rw [goL, if_pos h1] at k
  refine AB_c (AS_If (AT_evk hGC hk 8 [.b true] (fun z k => ?_) (by with_unfolding_all rfl) (B_tt (AB_1 (AS_While (AC_inv (TkI ps nm p (seekL p.2 nm a)) ?_ _ _ (.mk a rfl)))))))
  ·with_unfolding_all exact k (decide_eq_true h1)
  generalize seekL p.2 nm a = G at k
  rintro n Φ' W' - hV st ⟨a, hs⟩
  rw [seekL] at hs
  have fo : FnOk Γ C F 58 [.lst (p.2.map atomD), .str nm, .int (a : Nat)] (.bool (fitsL p.2 nm a)) := ⟨1, fn_fits hG hp, hd1, hd2⟩
  by_cases h2 : a + p.2.length ≤ nm.length
  ·cases hf2 : fitsL p.2 nm a with
   | false =>
    rw [if_pos ⟨h2, hf2⟩] at hs
    rw [hf2] at fo
    refine AT_evk hGC hk 10 [.b true, .v (.bool false), .b false] (fun z k => ?_) (by with_unfolding_all rfl) (B_tt (AB_evk hGC hk 8 [] (fun z k => k) (T_go hV ⟨_, Nat.sub_lt_sub_left (Nat.lt_succ_of_le (Nat.le_trans (Nat.le_add_right _ _) h2)) (Nat.lt_succ_self _), .mk (a + 1) hs⟩ rfl rfl)))
    with_unfolding_all exact k rfl fo (decide_eq_true (by rw [hl]; exact Int.ofNat_le.mpr h2))
   | true =>
    rw [if_neg fun q => Bool.noConfusion (hf2.symm.trans q.2)] at hs
    subst hs
    rw [hf2] at fo
    refine AT_evk hGC hk 10 [.b true, .v (.bool true), .b true] (fun z k => ?_) (by with_unfolding_all rfl) (B_ff (AB_nil (C_next k)))
    with_unfolding_all exact k rfl fo (decide_eq_true (by rw [hl]; exact Int.ofNat_le.mpr h2))
  ·rw [if_neg fun q => h2 q.1] at hs
   subst hs
   refine AT_evk hGC hk 10 [.b false] (fun z k => ?_) (by with_unfolding_all rfl) (B_ff (AB_nil (C_next k)))
   with_unfolding_all exact k (decide_eq_false (by rw [hl]; exact Int.not_le.mpr (Int.ofNat_lt.mpr (Nat.lt_of_not_le h2))))
 ·rw [goL, if_neg h1] at k
  by_cases h2 : p.1 = freeK
  ·by_cases h3 : a + p.2.length ≤ nm.length
   ·rw [if_pos ⟨h2, h3⟩] at k
    have e : ((nm.length - p.2.length : Nat) : Int) = (nm.length : Int) - ((p.2.map atomD).length : Int) := by rw [hl]; exact Int.ofNat_sub (Nat.le_trans (Nat.le_add_left _ _) h3)
    rw [e] at k
    refine AB_runk (b' := (subB (fBody 59) 1).drop 1) (st' := ⟨(tS ps nm ((nm.length : Int) - ((p.2.map atomD).length : Int))).append (tK p), []⟩) hGC hk 12 1 [.b false, .b true, .b true] (fun z k => ?_) (by with_unfolding_all rfl) k
    with_unfolding_all exact k (decide_eq_true (by rw [hl]; exact Int.ofNat_le.mpr h3)) (decide_eq_true h2) (decide_eq_false h1)
   ·rw [if_neg fun q => h3 q.2] at k
    refine AB_runk (b' := (subB (fBody 59) 1).drop 1) (st' := ⟨(tS ps nm (a : Nat)).append (tK p), []⟩) hGC hk 12 1 [.b false, .b true, .b false] (fun z k => ?_) (by with_unfolding_all rfl) k
    with_unfolding_all exact k (decide_eq_false (by rw [hl]; exact Int.not_le.mpr (Int.ofNat_lt.mpr (Nat.lt_of_not_le h3)))) (decide_eq_true h2) (decide_eq_false h1)
  ·rw [if_neg fun q => h2 q.1] at k
   refine AB_runk (b' := (subB (fBody 59) 1).drop 1) (st' := ⟨(tS ps nm (a : Nat)).append (tK p), []⟩) hGC hk 12 1 [.b false, .b false] (fun z k => ?_) (by with_unfolding_all rfl) k
   with_unfolding_all exact k (decide_eq_false h2) (decide_eq_false h1)
inductive TpI (ps : List (List Nat × List (Bool × List Nat))) (nm : List Nat) (R : Bool) : List D → St → Prop
 | mk (rs : List (List Nat × List (Bool × List Nat))) (a : Nat) (hb : ∀ p ∈ rs, p.2.length ≤ 1000000) (hf : R = takesR nm rs a) : TpI ps nm R (rs.map partD) ⟨tS ps nm (a : Nat), []⟩
theorem w_takes {ps : List (List Nat × List (Bool × List Nat))} {nm : List Nat} {C : Cx} (hG : GFs Γ F) (hk : C.kn = (fScope 59).names) (hb : ∀ p ∈ ps, p.2.length ≤ 1000000) (hd1 : C.A.depth + 1 ≤ 600) (hd2 : C.A.units + 10 ≤ 5000) :
  AB Γ C (fBody 59) ⟨[("parts", .lst (ps.map partD)), ("name", .str nm)], []⟩ (Res 0 (.bool (takesR nm ps 0))) := by
 have hGC := hG.toGC
 refine AB_runk (b' := (fBody 59).drop 1) (st' := ⟨tS ps nm 0, []⟩) hGC hk 8 1 [] (fun z k => k) (by with_unfolding_all rfl) (AB_c (AS_For (by rfl) (gE_Name (by decide +kernel) rfl ⟨_, rfl, fun I => AFor_inv (TpI ps nm (takesR nm ps 0)) ?_ ?_ _ _ (.mk ps 0 hb rfl)⟩)))
 ·intro d r Φ' W' hΦ hW st h
  generalize hr : d :: r = ds at h
  obtain ⟨rs, a, hbs, hf⟩ := h
  cases rs with
  | nil => cases hr
  | cons p rs =>
   cases hr
   have hbs := List.forall_mem_cons.mp hbs
   have fo : FnOk Γ C F 58 [.lst (p.2.map atomD), .str nm, .int (goL p nm a : Nat)] (.bool (fitsL p.2 nm (goL p nm a))) := ⟨1, fn_fits hG hbs.1, hd1, hd2⟩
   rw [takesR] at hf
   refine AAs_Tuple (ds := [.str p.1, .lst (p.2.map atomD)]) (by rfl) (by rfl) (AAsL_c (AAs_Name (gStore hk (by decide +kernel)) (AAsL_c (AAs_Name (gStore hk (by decide +kernel)) (AAsL_n (tk_go hG hk hbs.1 hd1 hd2 ?_))))))
   cases hf2 : fitsL p.2 nm (goL p nm a) with
   | false =>
    rw [hf2] at hf fo
    refine AB_evk hGC hk 10 [.v (.bool false), .b false] (fun z k => ?_) (T_ret hΦ (C_ret ⟨_, rfl, by rw [hf]; rfl, rfl⟩))
    with_unfolding_all exact k rfl fo
   | true =>
    rw [hf2] at hf fo
    have hl : ((p.2.map atomD).length : Int) = (p.2.length : Int) := congrArg _ (List.length_map _)
    refine AB_evk hGC hk 10 [.v (.bool true), .b true] (fun z k => ?_) (T_go hW (.mk rs (goL p nm a + p.2.length) hbs.2 hf) (by rw [Int.natCast_add, ← hl]; rfl) rfl)
    with_unfolding_all exact k rfl fo
 ·intro st h
  generalize hr : ([] : List D) = ds at h
  obtain ⟨rs, a, hbs, hf⟩ := h
  cases rs with
  | cons p rs => cases hr
  | nil =>
   refine AB_nil (C_next (AB_evk hGC hk 10 [] (fun z k => k) ⟨_, rfl, ?_, rfl⟩))
   rw [hf, takesR]
   show D.bool (decide ((a : Int) = (nm.length : Int))) = _
   congr 2; exact propext Int.ofNat_inj
theorem noMut_parts : ∀ ps : List (List Nat × List (Bool × List Nat)), noMutL (ps.map partD) = true
 | [] => rfl
 | a :: r => by simp only [List.map_cons, noMutL, noMut_parts r, partD, noMut, noMut_atoms]; rfl
theorem fn_takes (hG : GFs Γ F) {ps : List (List Nat × List (Bool × List Nat))} {nm : List Nat} (hb : ∀ p ∈ ps, p.2.length ≤ 1000000) : Fn Γ 2 (.ref (F 59)) [.lst (ps.map partD), .str nm] (.bool (takesR nm ps 0)) :=
 Fn.of (n := 1) (k := 0) (m' := [("parts", .lst (ps.map partD)), ("name", .str nm)]) (hG.fs 59 (by decide)) (by decide +kernel) (by rfl) (by show (noMutL (ps.map partD) && true) = true; rw [noMut_parts]; rfl) (by intro p hp; simp at hp; rcases hp with rfl | rfl <;> rfl) fun C hk h1 h2 => w_takes hG hk hb h1 h2
end
end
section
section
variable {Γ : Gl prog w} {C : Cx} {st : St}
theorem RpL.ofIdx {h X as} : ∀ {ds : List D} {vs : List Value}, vs.length = ds.length → (∀ (j : Nat) (d : D) (v : Value), ds[j]? = some d → vs[j]? = some v → Rp h X as d v) → RpL h X as ds vs
 | [], [], _, _ => by simp only [RpL]
 | d :: ds, v :: vs, hl, k => by
  simp only [RpL]
  exact ⟨k 0 d v rfl rfl, RpL.ofIdx (by simpa using hl) fun j d' v' e1 e2 => k (j + 1) d' v' (by simpa using e1) (by simpa using e2)⟩
 | [], _ :: _, hl, _ => by simp at hl
 | _ :: _, [], hl, _ => by simp at hl
theorem ACall_listRng {a b c : Int} {Φ : D → St → Prop} (hs : Builtin.Range.small a b c = true) (hn : (Builtin.Range.rangeSize a b c).toNat ≤ 1048576) (h : Φ (.lst (rngD a b c)) st) : ACall Γ C (.type "list") [.rng a b c] st Φ := by
 intro s as vs Q E R r q
 obtain ⟨v, rfl, ⟨ra, t, t', t'', rfl, hr⟩⟩ := RpL.one r
 have nn := rangeSize_nn a b c
 refine call_list_range (n := (Builtin.Range.rangeSize a b c).toNat) R.c.hand hr hs (by omega) (by omega) fun h' tk acc' c' hk hS' hacc => ?_
 have ne := R.end_new
 refine q _ (.lst (rngD a b c)) st as { s with heap := h', toks := tk } h (R.sub hk) ?_ (Ext.sub hk) .of
 refine ⟨_, acc', rfl, ne.2.2, ne.2.1, ⟨c', hS'⟩, by simp [rngD]; omega, RpL.ofIdx (by simp [rngD, hacc.1]) fun j d v e1 e2 => ?_⟩
 obtain ⟨t, rfl⟩ := hacc.2 j v (by rw [← Array.getElem?_toList]; exact e2)
 simp only [rngD, List.getElem?_map, Option.map_eq_some_iff] at e1
 obtain ⟨i, hi, rfl⟩ := e1
 have : i = j := by
  rw [List.getElem?_range (by have := (List.getElem?_eq_some_iff.mp hi).1; simpa using this)] at hi; exact (Option.some.inj hi).symm
 subst this
 exact ⟨t, rfl⟩
end
end
section
noncomputable def itemD : Option (Bool × List Nat) → D
 | none => .none
 | some a => atomD a
noncomputable def intsL (l : List Nat) : D := .lst (l.map fun i : Nat => D.int (i : Int))
noncomputable def pickF (nm : List Nat) (a : Bool × List Nat) (p : Nat) : Option Nat := match nm[p]? with
 | some c => if decide (c ∈ a.2) == a.1 then none else some (p + 1)
 | none => none
noncomputable def meantStep (nm : List Nat) (it : Option (Bool × List Nat)) (pl : List Nat) : List Nat :=
 match it with
 | none => match pl with
  | [] => []
  | p :: _ => List.range' p (nm.length + 1 - p)
 | some a => pl.filterMap (pickF nm a)
noncomputable def meantR (nm : List Nat) (its : List (Option (Bool × List Nat))) : List Nat := its.foldl (fun pl it => meantStep nm it pl) [0]
noncomputable def meantL (nm : List Nat) (its : List (Option (Bool × List Nat))) : Bool := decide (nm.length ∈ meantR nm its)
noncomputable def onIntO (f : Nat → Option D) : D → Option D
 | .int j => f j.toNat
 | _ => none
theorem onIntO_list (f : Nat → Option Nat) (l : List Nat) : (l.map fun i : Nat => D.int (i : Int)).filterMap (onIntO fun p => (f p).map fun i : Nat => D.int (i : Int)) = (l.filterMap f).map fun i : Nat => D.int (i : Int) := by
 rw [List.filterMap_map, List.map_filterMap]; rfl
theorem intsD_nat : ∀ l : List Nat, intsD (l.map fun i : Nat => D.int (i : Int)) = some (l.map fun i : Nat => (i : Int))
 | [] => rfl
 | a :: r => by simp only [List.map_cons, intsD, intsD_nat r]; rfl
theorem noMutL_ints : ∀ l : List Nat, noMutL (l.map fun i : Nat => D.int (i : Int)) = true
 | [] => rfl
 | a :: r => by simp only [List.map_cons, noMutL, noMut, noMutL_ints r]; rfl
theorem rng_two (a b : Nat) : (Builtin.Range.rangeSize (a : Int) (b : Int) 1).toNat = b - a := by
 unfold Builtin.Range.rangeSize
 simp only [show (1 : Int) > 0 from by decide, if_true, Int.ediv_one]
 split
 ·rw [Int.sub_add_cancel, Int.toNat_sub]
 ·exact (Nat.sub_eq_zero_of_le (o_cn (by assumption))).symm
theorem rngD_two (a b : Nat) : rngD (a : Int) (b : Int) 1 = (List.range' a (b - a)).map fun i : Nat => D.int (i : Int) := by
 unfold rngD
 rw [rng_two, List.range'_eq_map_range, List.map_map]
 refine List.map_congr_left fun i _ => ?_
 simp
theorem mapHd_ints (l : List Nat) : (l.map fun i : Nat => D.int (i : Int)).map (hd 4) = l.map fun i : Nat => D.int (i : Int) := by
 rw [List.map_map]; rfl
section
variable {Γ : Gl prog w} {F : Nat → Addr}
noncomputable def meS (its : List (Option (Bool × List Nat))) (nm pl : List Nat) : List (Str × D) := [("items", .lst (its.map itemD)), ("name", .str nm), ("places", intsL pl)]
inductive MeI (its : List (Option (Bool × List Nat))) (nm R : List Nat) : List D → St → Prop
 | mk (rs : List (Option (Bool × List Nat))) (pl : List Nat) (hf : R = rs.foldl (fun pl it => meantStep nm it pl) pl) (hpl : ∀ p ∈ pl, p ≤ nm.length) (hll : pl.length ≤ nm.length + 1) : MeI its nm R (rs.map itemD) ⟨meS its nm pl, []⟩
theorem me_le {nm : List Nat} {a : Bool × List Nat} {pl : List Nat} (hpl : ∀ p ∈ pl, p ≤ nm.length) : ∀ p ∈ meantStep nm (some a) pl, p ≤ nm.length := by
 intro p hp
 obtain ⟨j, -, hp⟩ := List.mem_filterMap.mp hp
 unfold pickF at hp
 cases hn2 : nm[j]? with
 | none => rw [hn2] at hp; cases hp
 | some c =>
  rw [hn2] at hp
  obtain ⟨hj, -⟩ := List.getElem?_eq_some_iff.mp hn2
  dsimp only at hp
  split at hp
  ·cases hp
  ·cases hp; exact hj
theorem pick_in {nm : List Nat} {a : Bool × List Nat} {j : Nat} (h : j < nm.length) : pickF nm a j = if decide (nm[j] ∈ a.2) == a.1 then none else some (j + 1) := by
 rw [pickF, List.getElem?_eq_getElem h]
theorem pick_out {nm : List Nat} {a : Bool × List Nat} {j : Nat} (h : ¬ j < nm.length) : pickF nm a j = none := by
 rw [pickF, List.getElem?_eq_none (Nat.le_of_not_lt h)]
noncomputable def meO (nm : List Nat) (a : Bool × List Nat) (j : Nat) : Option D := (pickF nm a j).map fun i : Nat => D.int (i : Int)
theorem me_list (nm : List Nat) (a : Bool × List Nat) (l : List Nat) : (l.map fun i : Nat => D.int (i : Int)).filterMap (onIntO (meO nm a)) = (l.filterMap (pickF nm a)).map fun i : Nat => D.int (i : Int) := onIntO_list _ l
theorem w_meant {its : List (Option (Bool × List Nat))} {nm : List Nat} {C : Cx} (hG : GFs Γ F) (hk : C.kn = (fScope 60).names) (hn : nm.length ≤ 1000) (hd1 : C.A.depth + 5 ≤ 600) (hd2 : C.A.units + 50 ≤ 5000) :
  AB Γ C (fBody 60) ⟨[("items", .lst (its.map itemD)), ("name", .str nm)], []⟩ (Res 0 (.bool (meantL nm its))) := by
 have hGC := hG.toGC
 refine AB_runk (b' := (fBody 60).drop 1) (st' := ⟨meS its nm [0], []⟩) hGC hk 8 1 [.b false] (fun z k => k) (by with_unfolding_all rfl) (AB_c (AS_For (by rfl) (gE_Name (by decide +kernel) rfl ⟨_, rfl, fun I => AFor_inv (MeI its nm (meantR nm its)) ?_ ?_ _ _ (.mk its [0] rfl (by simp) (Nat.le_add_left _ _))⟩)))
 ·intro d r Φ' W' hΦ hW st h
  generalize hr : d :: r = ds at h
  obtain ⟨rs, pl, hf, hpl, hll⟩ := h
  cases rs with
  | nil => cases hr
  | cons p rs =>
   cases hr
   refine AAs_Name (gStore hk (by decide +kernel)) ?_
   cases p with
   | none =>
    have ci : SV Γ C (compareOp .Is) .none .none (.bool true) := fun st Φ k => cmp_is_none true k rfl
    cases pl with
    | nil =>
     refine AB_evk hGC hk 12 [.b true, .b true, .b false, .b false] (fun z k => ?_) (T_go hW (.mk rs [] hf (by simp) (Nat.zero_le _)) rfl rfl)
     with_unfolding_all exact k rfl rfl ci
    | cons q pl =>
     have hq := hpl q (.head _)
     refine AB_evk hGC hk 12 [.b true, .b true, .b true, .v (.int q), .v (.rng q (nm.length + 1 : Nat) 1), .v (intsL (List.range' q (nm.length + 1 - q)))] (fun z k => ?_) (T_go hW (.mk rs (meantStep nm none (q :: pl)) hf ?_ ?_) rfl rfl)
     ·with_unfolding_all refine k (fun Φ hΦ => ACall_listRng (small_ok (Int.le_trans (by decide) (Int.natCast_nonneg _)) (Int.ofNat_le.mpr (Nat.le_trans (Nat.le_trans hq hn) (by decide))) (Int.le_trans (by decide) (Int.natCast_nonneg _)) (Int.ofNat_le.mpr (Nat.le_trans (Nat.succ_le_succ hn) (by decide)))) ?_ ((rngD_two q (nm.length + 1)).symm ▸ hΦ)) (fun Φ hΦ => ACall_range2 hΦ) rfl rfl rfl ci
      rw [rng_two]
      exact Nat.le_trans (Nat.le_trans (Nat.sub_le _ _) (Nat.succ_le_succ hn)) (by decide)
     ·intro p hp
      rw [meantStep, List.mem_range'_1] at hp
      exact Nat.le_of_lt_succ (Nat.lt_of_lt_of_eq hp.2 (Nat.add_sub_cancel' (Nat.le_succ_of_le hq)))
     ·rw [meantStep, List.length_range']; exact Nat.sub_le _ _
   | some a =>
    refine AB_1 (AS_If (AT_evk hGC hk 8 [.b false, .b false] (fun z k => ?_) (by with_unfolding_all rfl) (B_ff (AB_1 (AS_AssignComp (lim := 1) (m0 := [("name", .str nm), ("item", atomD a)]) (kn := [(".0", .local), ("p", .local), ("len", .globalImplicit)]) (gStore hk (by decide +kernel)) rfl (by rw [hk]; rfl) (by rfl) (o_dep hd1 (by decide)) (o_dep hd2 (by decide)) (gE_Name (by decide +kernel) rfl ⟨_, pl.map fun i : Nat => D.int (i : Int), onIntO (meO nm a), rfl, (mapHd_ints _).symm, by rw [List.length_map]; exact Nat.le_trans hll (Nat.le_trans (Nat.succ_le_succ hn) (by decide)), List.forall_mem_cons.mpr ⟨rfl, List.forall_mem_cons.mpr ⟨rfl, nofun⟩⟩, ?_, by rw [me_list]; exact noMutL_ints _, by
     rw [me_list]
     exact T_go hW (.mk rs (meantStep nm (some a) pl) hf (me_le hpl) (Nat.le_trans (List.length_filterMap_le _ _) hll)) rfl rfl⟩))))))
    ·with_unfolding_all exact k rfl fun st Φ k => cmp_is_none false k rfl
    ·intro d hd
     obtain ⟨j, -, rfl⟩ := List.mem_map.mp hd
     refine fun C' acc hk' _ _ => AAs_Name (by rw [hk']; decide +kernel) (AIfs_c ?_)
     by_cases hjn : j < nm.length
     ·have c1 : ∀ mu, subD mu (.str nm) (j : Int) = some (.str [nm[j]]) := fun mu => sub_str (List.getElem?_eq_getElem hjn)
      have hp := pick_in (a := a) hjn
      cases hb : decide (nm[j] ∈ a.2) == a.1 with
      | true =>
       rw [hb] at hp
       refine AT_evk hGC hk' 12 [.b true, .v (.str [nm[j]]), .v (.str a.2), .v (.bool a.1), .b false] (fun z k => ?_) (by with_unfolding_all rfl) ?_
       ·with_unfolding_all exact k (congrArg not hb) rfl rfl (c1 _) (decide_eq_true (Int.ofNat_lt.mpr hjn))
       ·exact ⟨fun _ => ⟨congrArg (Option.map fun i : Nat => D.int (i : Int)) hp, rfl⟩, nofun⟩
      | false =>
       rw [hb] at hp
       refine AT_evk hGC hk' 12 [.b true, .v (.str [nm[j]]), .v (.str a.2), .v (.bool a.1), .b true] (fun z k => ?_) (by with_unfolding_all rfl) ?_
       ·with_unfolding_all exact k (congrArg not hb) rfl rfl (c1 _) (decide_eq_true (Int.ofNat_lt.mpr hjn))
       ·exact ⟨nofun, fun _ => AE_evk hGC hk' 8 [] (fun z k => k) (by with_unfolding_all rfl) ⟨congrArg (Option.map fun i : Nat => D.int (i : Int)) hp, rfl, rfl⟩⟩
     ·refine AT_evk hGC hk' 12 [.b false] (fun z k => ?_) (by with_unfolding_all rfl) ?_
      ·with_unfolding_all exact k (decide_eq_false fun e => hjn (Int.ofNat_lt.mp e))
      ·exact ⟨fun _ => ⟨congrArg (Option.map fun i : Nat => D.int (i : Int)) (pick_out hjn), rfl⟩, nofun⟩
 ·intro st h
  generalize hr : ([] : List D) = ds at h
  obtain ⟨rs, pl, hf, hpl, hll⟩ := h
  cases rs with
  | cons p rs => cases hr
  | nil =>
   have ci : SV Γ C (compareOp .In) (.int (nm.length : Nat)) (intsL pl) (.bool (decide ((nm.length : Int) ∈ pl.map fun i : Nat => (i : Int)))) := fun st Φ k => cmp_in_ints rfl (intsD_nat pl) k
   refine AB_nil (C_next (AB_evk hGC hk 10 [.b (decide ((nm.length : Int) ∈ pl.map fun i : Nat => (i : Int)))] (fun z k => ?_) ⟨_, rfl, ?_, rfl⟩))
   ·with_unfolding_all exact k ci
   ·rw [meantL, hf]
    show D.bool _ = D.bool _
    congr 2
    rw [eq_iff_iff, List.mem_map]
    exact ⟨fun ⟨a, h1, h2⟩ => by rwa [← Int.ofNat_inj.mp h2], fun h => ⟨_, h, rfl⟩⟩
theorem noMut_items : ∀ its : List (Option (Bool × List Nat)), noMutL (its.map itemD) = true
 | [] => rfl
 | none :: r => by simp only [List.map_cons, noMutL, noMut_items r, itemD, noMut]; rfl
 | some a :: r => by simp only [List.map_cons, noMutL, noMut_items r, itemD, atomD, noMut]; rfl
theorem fn_meant (hG : GFs Γ F) {its : List (Option (Bool × List Nat))} {nm : List Nat} (hn : nm.length ≤ 1000) : Fn Γ 6 (.ref (F 60)) [.lst (its.map itemD), .str nm] (.bool (meantL nm its)) :=
 Fn.of (n := 5) (k := 0) (m' := [("items", .lst (its.map itemD)), ("name", .str nm)]) (hG.fs 60 (by decide)) (by decide +kernel) (by rfl) (by simp only [noMutL, noMut, noMut_items]; rfl) (by intro p hp; simp at hp; rcases hp with rfl | rfl <;> rfl) fun C hk h1 h2 => w_meant hG hk hn h1 (by omega)
end
end
section
noncomputable def strsL (ls : List (List Nat)) : D := .lst (ls.map D.str)
theorem joinL0 : ∀ ls : List (List Nat), joinL [] ls = ls.flatten
 | [] => rfl
 | [a] => by simp [joinL]
 | a :: b :: r => by simp only [joinL, joinL0 (b :: r), List.flatten_cons, List.append_nil]
theorem joinSum0L (ls : List (List Nat)) : joinSum [] ls = ls.flatten.length := by
 simp only [joinSum, List.length_nil, Nat.mul_zero, Nat.add_zero, List.length_flatten]
theorem noMutL_str (ls : List (List Nat)) : noMutL (ls.map D.str) = true := noMutL_map (fun x : List Nat => x) ls
theorem flat_len {k : Nat} : ∀ {ls : List (List Nat)}, (∀ t ∈ ls, t.length ≤ k) → ls.flatten.length ≤ k * ls.length
 | [], _ => by simp
 | a :: r, h => by
  have := flat_len (k := k) (ls := r) fun t ht => h t (.tail _ ht)
  have h1 := h a (.head _)
  simp only [List.flatten_cons, List.length_append, List.length_cons, Nat.mul_add, Nat.mul_one]; omega
noncomputable def takeL (room : Nat) : List Nat → List (List Nat) → List Nat × List (List Nat)
 | line, [] => (line, [])
 | line, t :: r => if (line ++ t).length < room then takeL room (line ++ t) r else (line, t :: r)
noncomputable def linesR (room : Nat) (last : List Nat) (left : List (List Nat)) : List (List Nat) :=
 if left ≠ [] ∧ room < (left.dropLast.flatten ++ last).length then
  if _h : (takeL room [] left).2.length < left.length then ((takeL room [] left).1 ++ [61]) :: linesR room last (takeL room [] left).2 else []
 else [if left = [] then [] else left.dropLast.flatten ++ last]
termination_by left.length
noncomputable def escT (t : List Nat) : List Nat := if t = [32] then [61, 50, 48] else if t = [9] then [61, 48, 57] else t
noncomputable def linesL (room : Nat) (row : List Nat) : List (List Nat) := linesR room (escT (wrL (row.getLastD 0))) (row.map wrL)
theorem takeL_suffix (room : Nat) : ∀ (line : List Nat) (left : List (List Nat)), ∃ k, (takeL room line left).2 = left.drop k
 | line, [] => ⟨0, rfl⟩
 | line, t :: r => by
  simp only [takeL]; split
  ·obtain ⟨k, hk⟩ := takeL_suffix room (line ++ t) r
   exact ⟨k + 1, by simpa using hk⟩
  ·exact ⟨0, rfl⟩
theorem takeL_less {room : Nat} {t : List Nat} {r : List (List Nat)} (h : t.length < room) : (takeL room [] (t :: r)).2.length < (t :: r).length := by
 simp only [takeL, List.nil_append, if_pos h]
 obtain ⟨k, hk⟩ := takeL_suffix room t r
 rw [hk]; simp; omega
theorem takeL_room {room : Nat} : ∀ {line : List Nat} {left : List (List Nat)}, line.length < room → (takeL room line left).1.length < room
 | line, [], h => h
 | line, t :: r, h => by
  simp only [takeL]; split
  ·exact takeL_room (by assumption)
  ·exact h
section
variable {Γ : Gl prog w} {F : Nat → Addr}
theorem wrL_len (c : Nat) : (wrL c).length ≤ 3 := by unfold wrL quoL; split <;> simp
noncomputable abbrev lnM (room : Nat) (left : List (List Nat)) (last : List Nat) : List (Str × D) := [("room", .int room), ("left", strsL left), ("lines", .mut 0), ("last", .str last)]
theorem lnFl3 {ls : List (List Nat)} (h1 : ∀ t ∈ ls, t.length ≤ 3) (h2 : ls.length ≤ 1000) : ls.flatten.length ≤ 3000 := Nat.le_trans (flat_len h1) (Nat.mul_le_mul_left 3 h2)
theorem lnCut3 {left : List (List Nat)} (h1 : ∀ t ∈ left, t.length ≤ 3) (h2 : left.length ≤ 1000) : left.dropLast.flatten.length ≤ 3000 := lnFl3 (fun t ht => h1 t (List.dropLast_subset _ ht)) (by rw [List.length_dropLast]; exact Nat.le_trans (Nat.sub_le _ _) h2)
theorem lnCutJ {Γ : Gl prog w} {C : Cx} {st : St} {left : List (List Nat)} (h1 : ∀ t ∈ left, t.length ≤ 3) (h2 : left.length ≤ 1000) : SA Γ C (.builtin "str.join") [.str [], .lst (pySlice (left.map D.str) none (some (-1)))] st (.str left.dropLast.flatten) st := fun Φ hΦ => ACall_join (by rw [slice_m1, ← List.map_dropLast]; rfl) (strsD_str _) (by rw [joinSum0L]; exact Nat.le_trans (lnCut3 h1 h2) (by decide)) (by rw [joinL0]; exact hΦ)
theorem fz_lines (ls : List (List Nat)) (s : List Nat) : fz 1 [ls.map D.str ++ [.str s]] (.mut 0) = strsL (ls ++ [s]) := by simp [fz, strsL]
inductive LtI (room : Nat) (last : List Nat) (mu : List (List D)) (R : List Nat × List (List Nat)) : Nat → St → Prop
 | mk (line : List Nat) (lf : List (List Nat)) (hal : ∀ t ∈ lf, t.length ≤ 3) (htk : takeL room line lf = R) (hln : line.length < room) : LtI room last mu R lf.length ⟨(lnM room lf last).append [("line", .str line)], mu⟩
theorem ln_take {room : Nat} {left : List (List Nat)} {last : List Nat} {mu : List (List D)} {C : Cx} {Φ : Fl → St → Prop} (hG : GC Γ F) (hk : C.kn = (fScope 62).names) (hal : ∀ t ∈ left, t.length ≤ 3) (hm0 : 4 ≤ room) (hm1 : room ≤ 1000)
  (k : AB Γ C ((subB (fBody 62) 2).drop 2) ⟨(lnM room (takeL room [] left).2 last).append [("line", .str (takeL room [] left).1)], mu⟩ Φ) : AB Γ C (subB (fBody 62) 2) ⟨lnM room left last, mu⟩ Φ := by
 refine AB_runk (b' := (subB (fBody 62) 2).drop 1) (st' := ⟨(lnM room left last).append [("line", .str [])], mu⟩) hG hk 8 1 [] (fun z k => k) (by with_unfolding_all rfl) (AB_c (AS_While (AC_inv (LtI room last mu (takeL room [] left)) ?_ _ _ (.mk [] left hal rfl (Nat.lt_of_lt_of_le (by decide) hm0)))))
 generalize takeL room [] left = R at k
 rintro n Φ' W' - hV st ⟨line, lf, hal, htk, hln⟩
 cases lf with
 | nil =>
  subst htk
  refine AT_evk hG hk 10 [.b false] (fun z k => ?_) (by with_unfolding_all rfl) (B_ff (AB_nil (C_next k)))
  with_unfolding_all exact k rfl
 | cons t r =>
  have hal := List.forall_mem_cons.mp hal
  have h3 : (line ++ t).length ≤ 1048576 := by rw [List.length_append]; exact Nat.le_trans (Nat.add_le_add (Nat.le_of_lt (Nat.lt_of_lt_of_le hln hm1)) hal.1) (by decide)
  by_cases h : (line ++ t).length < room
  ·rw [takeL, if_pos h] at htk
   refine AT_evk hG hk 10 [.b true, .v (.str t), .b true] (fun z k => ?_) (by with_unfolding_all rfl) (B_tt ?_)
   ·with_unfolding_all exact k (decide_eq_true (Int.ofNat_lt.mpr h)) h3 rfl rfl
   refine AB_evk hG hk 10 [.v (.str t)] (fun z k => ?_) (T_go hV ⟨_, Nat.lt_succ_self _, .mk (line ++ t) r hal.2 htk h⟩ (by rw [slice_1]; rfl) rfl)
   with_unfolding_all exact k h3 rfl
  ·rw [takeL, if_neg h] at htk
   subst htk
   refine AT_evk hG hk 10 [.b true, .v (.str t), .b false] (fun z k => ?_) (by with_unfolding_all rfl) (B_ff (AB_nil (C_next k)))
   with_unfolding_all exact k (decide_eq_false fun e => h (Int.ofNat_lt.mp e)) h3 rfl rfl
inductive LnI (room : Nat) (last : List Nat) (ALL : List (List Nat)) : Nat → St → Prop
 | mk (left lns : List (List Nat)) (hal : ∀ t ∈ left, t.length ≤ 3) (hli : lns ++ linesR room last left = ALL) (hsz : lns.length + left.length ≤ 1000) : LnI room last ALL left.length ⟨lnM room left last, [lns.map D.str]⟩
theorem lines_more {room : Nat} {last t : List Nat} {r : List (List Nat)} (ht : t.length < room) (h : room < ((t :: r).dropLast.flatten ++ last).length) : linesR room last (t :: r) = ((takeL room [] (t :: r)).1 ++ [61]) :: linesR room last (takeL room [] (t :: r)).2 := by
 rw [linesR, if_pos ⟨List.cons_ne_nil _ _, h⟩, dif_pos (takeL_less ht)]
theorem ln_loop {room : Nat} {left : List (List Nat)} {last : List Nat} {C : Cx} (hG : GC Γ F) (hk : C.kn = (fScope 62).names) (hal : ∀ t ∈ left, t.length ≤ 3) (hlen : left.length ≤ 1000) (hla : last.length ≤ 3) (hm0 : 4 ≤ room) (hm1 : room ≤ 1000) :
  AB Γ C ((fBody 62).drop 2) ⟨lnM room left last, [[]]⟩ (Res 1 (strsL (linesR room last left))) := by
 refine AB_c (AS_While (AC_inv (LnI room last (linesR room last left)) ?_ _ _ (.mk left [] hal rfl (by rw [List.length_nil, Nat.zero_add]; exact hlen))))
 generalize linesR room last left = ALL
 rintro n Φ' W' - hV st ⟨left, lns, hal, hli, hsz⟩
 have hsl : (lns.map D.str).length < 1048576 := by rw [List.length_map]; exact Nat.lt_of_le_of_lt (Nat.le_trans (Nat.le_add_right _ _) hsz) (by decide)
 cases left with
 | nil =>
  rw [linesR, if_neg fun q => q.1 rfl, if_pos rfl] at hli
  subst hli
  refine AT_evk hG hk 10 [.b false] (fun z k => ?_) (by with_unfolding_all rfl) (B_ff (AB_nil (C_next ?_)))
  ·with_unfolding_all exact k rfl
  refine AB_evk hG hk 10 [.l (lns.map D.str), .b false, .l (lns.map D.str)] (fun z k => ?_) ?_
  ·with_unfolding_all exact k ⟨rfl, hsl⟩ rfl rfl
  refine ⟨_, rfl, ?_, ?_⟩
  ·exact fz_lines _ _
  ·rw [strsL, noMut]; exact noMutL_str _
 | cons t r =>
  have hlr : (t :: r).length ≤ 1000 := Nat.le_trans (Nat.le_add_left _ _) hsz
  have cj := fun st => lnCutJ (Γ := Γ) (C := C) (st := st) hal hlr
  have h3 : ((t :: r).dropLast.flatten ++ last).length ≤ 1048576 := by rw [List.length_append]; exact Nat.le_trans (Nat.add_le_add (lnCut3 hal hlr) hla) (by decide)
  have ht : t.length < room := Nat.lt_of_le_of_lt (hal t (.head _)) hm0
  by_cases h : room < ((t :: r).dropLast.flatten ++ last).length
  ·rw [lines_more ht h] at hli
   refine AT_evk hG hk 12 [.b true, .v (.str (t :: r).dropLast.flatten), .b true] (fun z k => ?_) (by with_unfolding_all rfl) (B_tt (ln_take hG hk hal hm0 hm1 ?_))
   ·with_unfolding_all exact k (decide_eq_true (Int.ofNat_lt.mpr h)) h3 (cj _) rfl
   have hless := takeL_less (r := r) ht
   obtain ⟨j, hj⟩ := takeL_suffix room [] (t :: r)
   have hal2 : ∀ x ∈ (takeL room [] (t :: r)).2, x.length ≤ 3 := fun x hx => hal x (by rw [hj] at hx; exact List.mem_of_mem_drop hx)
   have hrm := takeL_room (room := room) (line := []) (left := t :: r) (Nat.lt_of_lt_of_le (by decide) hm0)
   generalize takeL room [] (t :: r) = R at hli hless hal2 hrm
   obtain ⟨line, lf⟩ := R
   have h4 : (line ++ [61]).length ≤ 1048576 := by rw [List.length_append]; exact Nat.le_trans (Nat.add_le_add_right (Nat.le_trans (Nat.le_of_lt hrm) hm1) _) (by decide)
   refine AB_evk hG hk 10 [.l (lns.map D.str), .l (lns.map D.str)] (fun z k => ?_) (T_go hV ⟨_, hless, .mk lf (lns ++ [line ++ [61]]) hal2 (by rw [List.append_assoc]; exact hli) ?_⟩ rfl (by rw [List.map_append]; rfl))
   ·with_unfolding_all exact k ⟨rfl, hsl⟩ h4 rfl
   ·rw [List.length_append, Nat.add_assoc, Nat.add_comm _ lf.length]; exact Nat.le_trans (Nat.add_le_add_left hless _) hsz
  ·rw [linesR, if_neg fun q => h q.2, if_neg (List.cons_ne_nil _ _)] at hli
   subst hli
   refine AT_evk hG hk 12 [.b true, .v (.str (t :: r).dropLast.flatten), .b false] (fun z k => ?_) (by with_unfolding_all rfl) (B_ff (AB_nil (C_next ?_)))
   ·with_unfolding_all exact k (decide_eq_false fun e => h (Int.ofNat_lt.mp e)) h3 (cj _) rfl
   refine AB_evk hG hk 12 [.l (lns.map D.str), .b true, .v (.str (t :: r).dropLast.flatten), .l (lns.map D.str)] (fun z k => ?_) ?_
   ·with_unfolding_all exact k ⟨rfl, hsl⟩ h3 (cj _) rfl rfl
   refine ⟨_, rfl, ?_, ?_⟩
   ·exact fz_lines _ _
   ·rw [strsL, noMut]; exact noMutL_str _
theorem w_lines {row : List Nat} {room : Nat} {C : Cx} (hG : GFs Γ F) (hk : C.kn = (fScope 62).names) (hrow : ∀ c ∈ row, c < 256) (hr0 : row ≠ []) (hr1 : row.length ≤ 1000) (hm0 : 4 ≤ room) (hm1 : room ≤ 1000) (hd1 : C.A.depth + 5 ≤ 600) (hd2 : C.A.units + 50 ≤ 5000) :
  AB Γ C (fBody 62) ⟨[("row", .str row), ("room", .int room)], []⟩ (Res 1 (strsL (linesL room row))) := by
 have hGC := hG.toGC
 have e1 : (row.map fun c => [c]).map (fun s => D.str (wrL (s.headD 0))) = (row.map wrL).map D.str := by
  rw [List.map_map, List.map_map]; rfl
 obtain ⟨c, hc⟩ : ∃ c, row.getLast? = some c := ⟨_, List.getLast?_eq_some_getLast hr0⟩
 have hl : ((row.map wrL).map D.str).getLast? = some (.str (wrL c)) := by rw [List.getLast?_map, List.getLast?_map, hc]; rfl
 have hLL : linesL room row = linesR room (escT (wrL c)) (row.map wrL) := by rw [linesL, List.getLastD_eq_getLast?, hc]; rfl
 have hall : ∀ t ∈ row.map wrL, t.length ≤ 3 := List.forall_mem_map.mpr fun x _ => wrL_len x
 have hlen : (row.map wrL).length ≤ 1000 := by rw [List.length_map]; exact hr1
 have hesc : (escT (wrL c)).length ≤ 3 := by
  unfold escT; have := wrL_len c
  split
  ·exact Nat.le_refl _
  ·split
   ·exact Nat.le_refl _
   ·exact this
 rw [hLL]
 refine AB_c (AS_AssignTup (names := ["left", "lines"]) (by rw [hk]; rfl) (AE_Tuple (by rfl) (AEs_c (AE_CompS (lim := 5) (m0 := []) (kn := [(".0", .local), ("sign", .local), ("_law_written", .globalImplicit)]) (fun s => .str (wrL (s.headD 0))) (by rfl) (by rw [hk]; with_unfolding_all rfl) (by rfl) (o_dep hd1 (by decide)) (o_dep hd2 (by decide)) (gE_Name (by decide +kernel) rfl ⟨row.map fun c => [c], by rw [List.map_map]; rfl, by rw [List.length_map]; exact Nat.le_trans hr1 (by decide), nofun, ?_, by rw [e1]; exact noMutL_str _, ?_⟩)))))
 ·intro s hs
  obtain ⟨x, hx, rfl⟩ := List.mem_map.mp hs
  refine CT_ev (by decide +kernel) fun C' acc hk' h1 h2 => AE_evk hGC hk' 8 [.v (.str (wrL x))] (fun z k => ?_) (by with_unfolding_all rfl) ⟨rfl, rfl, rfl⟩
  have fo : FnOk Γ C' F 61 [.str [x]] (.str (wrL x)) := ⟨1, fn_written hG (hrow x hx), Nat.le_trans (Nat.add_le_add_left (by decide) _) h1, Nat.le_trans (Nat.add_le_add_left (by decide) _) h2⟩
  with_unfolding_all exact k fo
 rw [e1]
 generalize row.map wrL = left0 at hl hall hlen
 generalize wrL c = t0 at hl hesc
 refine AEs_c (AE_ListMut (by rfl) (AEs_n ⟨Nat.zero_le _, AEs_n ⟨Nat.le_of_ble_eq_true rfl, _, rfl, rfl, ?_⟩⟩))
 have e2 : (if t0 = [32] then D.str [61, 50, 48] else if t0 = [9] then D.str [61, 48, 57] else D.str t0) = D.str (escT t0) := by unfold escT; split; rfl; split <;> rfl
 refine AB_c (AS_Assign (by rfl) (gStore hk (by decide +kernel)) (gE_DictGet kc40 kc39 kc42 kc43 (by decide) (by decide) (by decide) (by rfl) (by rfl) (AE_evk hGC hk 8 [.v (.str t0)] (fun z k => ?_) (by with_unfolding_all rfl) ⟨t0, rfl, AE_evk hGC hk 8 [.v (.str t0)] (fun z k => ?_) (by with_unfolding_all rfl) ?_⟩)))
 ·with_unfolding_all exact k (sub_last hl)
 ·with_unfolding_all exact k (sub_last hl)
 rw [e2]
 exact AB_pk (m' := lnM room left0 (escT t0)) rfl rfl (ln_loop hGC hk hall hlen hesc hm0 hm1)
theorem fn_lines (hG : GFs Γ F) {row : List Nat} {room : Nat} (hrow : ∀ c ∈ row, c < 256) (hr0 : row ≠ []) (hr1 : row.length ≤ 1000) (hm0 : 4 ≤ room) (hm1 : room ≤ 1000) : Fn Γ 6 (.ref (F 62)) [.str row, .int room] (strsL (linesL room row)) :=
 Fn.of (n := 5) (k := 1) (m' := [("row", .str row), ("room", .int room)]) (hG.fs 62 (by decide)) (by decide +kernel) (by rfl) rfl (by intro p hp; simp at hp; rcases hp with rfl | rfl <;> rfl) fun C hk h1 h2 => w_lines hG hk hrow hr0 hr1 hm0 hm1 h1 (by omega)
end
end
section
open PySem.Builtin PySem.Builtin.Str PySem.StrLaws
noncomputable def occR (y : List Nat) : Nat → Nat → List Nat → List Nat
 | _, _, [] => []
 | i, k + 1, _ :: r => occR y (i + 1) k r
 | i, 0, c :: r => if y.isPrefixOf (c :: r) then i :: occR y (i + 1) (y.length - 1) r else occR y (i + 1) 0 r
theorem subAt_is {x y : List Nat} {i : Nat} : subAt (S x) (S y) i = decide ((x.drop i).take y.length = y) := by
 unfold subAt
 rw [S_len]
 rw [Bool.eq_iff_iff, beq_iff_eq, decide_eq_true_eq]
 simp only [S, ← Array.toList_inj, Array.toList_extract, List.extract]
 rw [Nat.add_sub_cancel_left]
theorem occ_run {x y : List Nat} {hi limit : Nat} (hy : y ≠ []) : ∀ (suf : List Nat) (i : Nat) (acc : Array Nat) (free : Nat), suf = (x.take hi).drop i → i + suf.length = hi →
  (forIn (List.range' i (suf.length + 1)) (acc, free) (occBody (S x) (S y) hi limit)).run.fst.toList = acc.toList ++ (occR y i (free - i) suf).take (limit - acc.size) := by
 have hyl : 0 < y.length := List.length_pos_iff.mpr hy
 intro suf
 induction suf with
 | nil =>
  intro i acc free _ hl
  simp only [List.length_nil, Nat.add_zero] at hl
  simp only [List.length_nil, Nat.zero_add, List.range'_succ, List.range'_zero, List.forIn_cons, List.forIn_nil]
  unfold occBody
  rw [if_neg fun h => absurd (S_len y ▸ h.1.2) (Nat.not_le.mpr (hl ▸ Nat.lt_add_of_pos_right hyl))]
  simp [occR]
 | cons c r ih =>
  intro i acc free hs hl
  simp only [List.length_cons] at hl
  have hs' : r = (x.take hi).drop (i + 1) := by
   have := congrArg List.tail hs
   simpa [List.tail_drop] using this
  rw [List.length_cons, List.range'_succ, List.forIn_cons]
  have hpre : (i + y.length ≤ hi ∧ subAt (S x) (S y) i = true) ↔ y.isPrefixOf (c :: r) = true := by
   have hlen : (c :: r).length = hi - i := (Nat.sub_eq_of_eq_add' hl.symm).symm
   rw [subAt_is, decide_eq_true_eq, List.isPrefixOf_iff_prefix, List.prefix_iff_eq_take]
   constructor
   ·rintro ⟨h1, h2⟩
    rw [hs, List.drop_take, List.take_take, Nat.min_eq_left (Nat.le_sub_of_add_le' h1), h2]
   ·intro h
    have h1 : y.length ≤ hi - i := by
     have := congrArg List.length h
     rw [List.length_take, hlen] at this; exact Nat.le_trans (Nat.le_of_eq this) (Nat.min_le_right _ _)
    refine ⟨Nat.add_le_of_le_sub' (hl ▸ Nat.le_add_right _ _) h1, ?_⟩
    rw [hs, List.drop_take, List.take_take, Nat.min_eq_left h1] at h
    exact h.symm
  have hi1 : i + 1 + r.length = hi := (Nat.succ_add_eq_add_succ i r.length).trans hl
  unfold occBody
  rw [S_len]
  by_cases hf : free ≤ i
  ·rw [Nat.sub_eq_zero_of_le hf]
   by_cases hp : y.isPrefixOf (c :: r) = true
   ·by_cases hlim : acc.size < limit
    ·rw [if_pos ⟨⟨⟨hlim, hf⟩, (hpre.mpr hp).1⟩, (hpre.mpr hp).2⟩]
     refine (ih (i + 1) (acc.push i) (i + y.length) hs' hi1).trans ?_
     rw [Nat.add_sub_add_left, occR, if_pos hp, Array.toList_push, List.append_assoc, Array.size_push]
     congr 1
     rw [show limit - acc.size = (limit - (acc.size + 1)) + 1 from (Nat.sub_add_cancel (Nat.sub_pos_of_lt hlim)).symm, List.take_succ_cons]
     rfl
    ·rw [if_neg (by intro h; exact hlim h.1.1.1)]
     refine (ih (i + 1) acc free hs' hi1).trans ?_
     rw [Nat.sub_eq_zero_of_le (Nat.le_of_not_lt hlim)]; rfl
   ·rw [if_neg (by intro h; exact hp (hpre.mp ⟨h.1.2, h.2⟩))]
    refine (ih (i + 1) acc free hs' hi1).trans ?_
    rw [Nat.sub_eq_zero_of_le (Nat.le_succ_of_le hf), occR, if_neg hp]
  ·rw [if_neg (by intro h; exact hf h.1.1.2)]
   refine (ih (i + 1) acc free hs' hi1).trans ?_
   rw [show free - i = (free - (i + 1)) + 1 from (Nat.sub_add_cancel (Nat.sub_pos_of_lt (Nat.lt_of_not_le hf))).symm, occR]
theorem occ_is {x y : List Nat} {lo hi limit : Nat} (hy : y ≠ []) (hh : hi ≤ x.length) : occurrences (S x) (S y) lo hi limit = (occR y lo 0 ((x.take hi).drop lo)).take limit := by
 rw [occ_eq]
 by_cases hl : lo ≤ hi
 ·have := occ_run (x := x) (hi := hi) (limit := limit) hy ((x.take hi).drop lo) lo #[] lo rfl (by rw [List.length_drop, List.length_take, Nat.min_eq_left hh, Nat.add_sub_cancel' hl])
  rw [List.length_drop, List.length_take, Nat.min_eq_left hh, ← Nat.sub_add_comm hl] at this
  rw [this]; simp
 ·rw [Nat.sub_eq_zero_of_le (Nat.succ_le_of_lt (Nat.lt_of_not_le hl)), List.drop_eq_nil_of_le (by rw [List.length_take]; exact Nat.le_trans (Nat.min_le_left _ _) (Nat.le_of_lt (Nat.lt_of_not_le hl)))]
  simp [occR]
theorem occ_sign {c : Nat} : ∀ {l : List Nat} {i : Nat} {r : List Nat}, c ∉ l → occR [c] i 0 (l ++ c :: r) = (i + l.length) :: occR [c] (i + l.length + 1) 0 r
 | [], i, r, _ => by simp [occR]
 | a :: l, i, r, h => by
  have ha : a ≠ c := by rintro rfl; exact h (.head _)
  have hl : c ∉ l := fun q => h (.tail _ q)
  rw [List.cons_append, occR, if_neg (by simp; exact fun q => ha q.symm), occ_sign hl]
  simp [Nat.add_assoc, Nat.add_comm 1, Nat.add_left_comm]
theorem occ_none {c : Nat} : ∀ {l : List Nat} {i : Nat}, c ∉ l → occR [c] i 0 l = []
 | [], i, _ => rfl
 | a :: l, i, h => by
  have ha : a ≠ c := by rintro rfl; exact h (.head _)
  have hl : c ∉ l := fun q => h (.tail _ q)
  rw [occR, if_neg (by simp; exact fun q => ha q.symm), occ_none hl]
theorem from_at {n a : Nat} : fromIndex n (a : Int) = a := by
 unfold fromIndex
 rw [if_neg (Int.not_lt.mpr (Int.natCast_nonneg _)), Int.max_eq_right (Int.natCast_nonneg _), Int.toNat_natCast]
theorem idx_set {T l u : List Nat} {a : Nat} (hdr : T.drop a = (91 :: l) ++ 93 :: u) (h93 : 93 ∉ l) : occurrences (S T) (S [93]) (fromIndex T.length (a : Int)) T.length 1 = [a + 1 + l.length] := by
 rw [occ_is (List.cons_ne_nil _ _) (Nat.le_refl _), List.take_length, from_at, hdr, occ_sign (fun q => (List.mem_cons.mp q).elim (by decide) h93), List.take_succ_cons, List.take_zero, List.length_cons, Nat.add_assoc, Nat.add_comm 1]
end
section
/-! reading an expression -/
inductive Tok where
 | any
 | lit (c : Nat)
 | esc (c : Nat)
 | set (l : List Nat)
 | held
 | close
 | free
noncomputable def tokS : Tok → List Nat
 | .any => [46]
 | .lit c => [c]
 | .esc c => [92, c]
 | .set l => 91 :: (l ++ [93])
 | .held => [40, 63, 62, 46, 42, 63]
 | .close => [41]
 | .free => [46, 42]
noncomputable abbrev Part := List Nat × List (Bool × List Nat)
noncomputable def addA (a : Bool × List Nat) : Part → Part := fun p => (p.1, p.2 ++ [a])
noncomputable def readT : Tok → List Part × Part → List Part × Part
 | .any, (ps, p) => (ps, addA (true, []) p)
 | .lit c, (ps, p) => (ps, addA (false, [c]) p)
 | .esc c, (ps, p) => (ps, addA (false, [c]) p)
 | .set l, (ps, p) => (ps, addA (setA l) p)
 | .held, (ps, p) => (ps ++ [p], (heldK, []))
 | .close, (ps, p) => (ps ++ [p], (runK, []))
 | .free, (ps, p) => (ps ++ [p], (freeK, []))
noncomputable def readR (ts : List Tok) (s : List Part × Part) : List Part × Part := ts.foldl (fun s t => readT t s) s
noncomputable def readL (ts : List Tok) : List Part := let s := readR ts ([], (runK, [])); s.1 ++ [s.2]
noncomputable def badL : List Nat := [40, 41, 42, 43, 63, 123, 125, 124, 94, 36]
noncomputable def tokOk : Tok → List Nat → Bool
 | .lit c, _ => !decide (c ∈ badL) && c != 91 && c != 46 && c != 92
 | .set l, _ => !decide (93 ∈ l) && setOk (if l.head? = some 94 then l.tail else l) && decide (l.length ≤ 1000)
 | .close, k => decide (k = heldK)
 | _, _ => true
noncomputable def toksOk : List Tok → List Part × Part → Bool
 | [], s => !decide (freeK ∈ s.1.map (·.1)) && decide (s.2.1 ≠ heldK)
 | t :: r, s => tokOk t s.2.1 && toksOk r (readT t s)
noncomputable def textT (ts : List Tok) : List Nat := ts.flatMap tokS
theorem tokS_ne (t : Tok) : tokS t ≠ [] := by cases t <;> simp [tokS]
noncomputable def muI (i : Nat) : Nat := if i = 0 then 0 else i + 1
noncomputable def refD (i : Nat) (k : List Nat) : D := .tup [.str k, .mut (muI i)]
noncomputable def refs (ps : List Part) : List D := ps.mapIdx fun i p => refD i p.1
noncomputable def atomsD (p : Part) : List D := p.2.map atomD
noncomputable def muOf : List Part → List (List D)
 | [] => []
 | p :: r => atomsD p :: refs (p :: r) :: r.map atomsD
theorem refs_snoc (ps : List Part) (p : Part) : refs (ps ++ [p]) = refs ps ++ [refD ps.length p.1] := by simp [refs, List.mapIdx_append]
theorem muOf_len {ps : List Part} (h : ps ≠ []) : (muOf ps).length = ps.length + 1 := by
 cases ps with
 | nil => exact absurd rfl h
 | cons p r => simp [muOf]
theorem muOf_1 {ps : List Part} (h : ps ≠ []) : (muOf ps)[1]? = some (refs ps) := by
 cases ps with
 | nil => exact absurd rfl h
 | cons p r => rfl
theorem muOf_last (ps : List Part) (p : Part) : (muOf (ps ++ [p]))[muI ps.length]? = some (atomsD p) := by
 cases ps with
 | nil => rfl
 | cons q r => simp [muOf, muI]
theorem muOf_add (ps : List Part) (p : Part) (a : Bool × List Nat) : (muOf (ps ++ [p])).set (muI ps.length) (atomsD p ++ [atomD a]) = muOf (ps ++ [addA a p]) := by
 cases ps with
 | nil => simp [muOf, muI, addA, atomsD, refs]
 | cons q r =>
  have e : refs (q :: r ++ [addA a p]) = refs (q :: r ++ [p]) := by rw [refs_snoc, refs_snoc]; rfl
  simp only [List.cons_append] at e
  simp only [List.cons_append, muOf, muI, List.length_cons, Nat.add_eq_zero_iff, Nat.one_ne_zero, and_false, if_false, e, List.set_cons_succ, List.map_append, List.map_cons, List.map_nil]
  rw [List.set_append_right _ _ (by simp), List.length_map, Nat.sub_self]
  simp [atomsD, addA]
theorem muOf_new {ps : List Part} (h : ps ≠ []) (k : List Nat) : ((muOf ps) ++ [[]]).set 1 (refs ps ++ [D.tup [.str k, .mut (muOf ps).length]]) = muOf (ps ++ [(k, [])]) := by
 rw [muOf_len h]
 have e := refs_snoc ps (k, [])
 cases ps with
 | nil => exact absurd rfl h
 | cons q r =>
  simp only [List.cons_append] at e
  simp [muOf, e, refD, muI, atomsD]
theorem sub_parts {ps : List Part} {p : Part} : subD (muOf (ps ++ [p])) (.mut 1) (-1) = some (.tup [.str p.1, .mut (muI ps.length)]) := by
 show (Option.bind _ _) = _
 rw [muOf_1 (by simp), Option.bind_some, pyIdx_last, refs_snoc]
 exact List.getLast?_concat
noncomputable def kindG : D → Option D
 | .tup (.str k :: _) => some (.str k)
 | _ => none
theorem refs_hd (qs : List Part) : (refs qs).map (hd 4) = qs.map fun q => D.tup [.str q.1, .any] := by
 unfold refs
 apply List.ext_getElem?
 intro i
 simp only [List.getElem?_map, List.getElem?_mapIdx]
 cases qs[i]? <;> rfl
theorem muOf_get : ∀ (qs : List Part) (i : Nat), i < qs.length → (muOf qs)[muI i]? = qs[i]?.map atomsD
 | [], _, h => by simp at h
 | q :: r, 0, _ => rfl
 | q :: r, i + 1, h => by simp [muOf, muI]
theorem fz_atoms (mu : List (List D)) (l : List D) : l.map (fz 0 mu) = l := by
 induction l with
 | nil => rfl
 | cons a r ih => rw [List.map_cons, ih]; rfl
theorem fz_parts {qs : List Part} (h : qs ≠ []) : fz 3 (muOf qs) (.mut 1) = .lst (qs.map partD) := by
 simp only [fz, muOf_1 h]
 congr 1
 apply List.ext_getElem?
 intro i
 simp only [List.getElem?_map, refs, List.getElem?_mapIdx]
 cases e : qs[i]? with
 | none => rfl
 | some q =>
  have hi := (List.getElem?_eq_some_iff.mp e).1
  have := muOf_get qs i hi
  rw [e] at this
  simp only [Option.map_some, refD, fz, List.map_cons, List.map_nil, this, List.map_id']
  rfl
section
variable {Γ : Gl prog w} {F : Nat → Addr}
inductive RdI (ts : List Tok) : Nat → St → Prop
 | mk (at_ : Nat) (r : List Tok) (ps : List Part) (p : Part) (hd : (textT ts).drop at_ = textT r) (hl : at_ + (textT r).length = (textT ts).length) (ho : toksOk r (ps, p) = true) (hr : readR r (ps, p) = readR ts ([], (runK, [])))
  (hs : ps.length + p.2.length ≤ at_) (hw : ∀ q ∈ ps ++ [p], low q.1 = true) : RdI ts r.length ⟨[("body", .str (textT ts)), ("at", .int (at_ : Nat)), ("parts", .mut 1)], muOf (ps ++ [p])⟩
theorem readT_ok {t : Tok} {ps : List Part} {p : Part} (h : ∀ q ∈ ps ++ [p], low q.1 = true) : (∀ q ∈ (readT t (ps, p)).1 ++ [(readT t (ps, p)).2], low q.1 = true) ∧ (readT t (ps, p)).1.length + (readT t (ps, p)).2.2.length ≤ ps.length + p.2.length + 1 := by
 cases t <;> simp only [readT, addA, List.length_append, List.length_cons, List.length_nil] <;> refine ⟨fun q hq => ?_, by first | exact Nat.le_refl _ | exact Nat.le_succ _ | exact Nat.succ_le_succ (Nat.le_add_right _ _)⟩
 all_goals
  simp only [List.mem_append, List.mem_singleton] at hq h
  rcases hq with hq | rfl <;> first | exact h _ (.inl hq) | exact h p (.inr rfl) | exact h _ hq | rfl
theorem w_read {ts : List Tok} {C : Cx} (hG : GFs Γ F) (hk : C.kn = (fScope 57).names) (hok : toksOk ts ([], (runK, [])) = true) (hlen : (textT ts).length ≤ 1000) (hd1 : C.A.depth + 5 ≤ 600) (hd2 : C.A.units + 50 ≤ 5000) :
  AB Γ C (fBody 57) ⟨[("told", .str ([40, 63, 115, 58] ++ textT ts ++ [41, 92, 90]))], []⟩ (Res 3 (.lst ((readL ts).map partD))) := by
 have hGC := hG.toGC
 refine AB_runk hGC hk 12 2 [.b false, .b false, .b true, .b true] (fun q k => ?_) (by with_unfolding_all rfl) ?_
 ·with_unfolding_all refine k ?_ ?_
  ·rw [show pySlice ([40, 63, 115, 58] ++ textT ts ++ [41, 92, 90]) (some (-3)) none = [41, 92, 90] from slice_from (k := 2) rfl]; rfl
  ·rw [show pySlice ([40, 63, 115, 58] ++ textT ts ++ [41, 92, 90]) none (some 4) = [40, 63, 115, 58] by rw [show (some 4 : Option Int) = some ((4 : Nat) : Int) from rfl, slice_to]; simp]; rfl
 rw [show pySlice ([40, 63, 115, 58] ++ textT ts ++ [41, 92, 90]) (some 4) (some (-3)) = textT ts from slice_mid (j := 4) (k := 3) rfl rfl (by decide)]
 change AB Γ C _ ⟨_, muOf ([] ++ [(runK, [])])⟩ _
 with_reducible refine AB_weak (m' := [("body", .str (textT ts)), ("at", .int ((0 : Nat) : Int)), ("parts", .mut 1)]) (by with_unfolding_all exact ⟨rfl, rfl, rfl, trivial⟩) ?_
 with_reducible refine AB_c (AS_While ?_)
 with_reducible refine AC_inv (RdI ts) ?_ _ _ (RdI.mk 0 ts [] (runK, []) rfl (Nat.zero_add _) hok rfl (by decide) (by decide))
 rintro n Φ' W' hΦ hW st ⟨at_, rest, ps, p, hdr, hal, hok, hres, hsz, hlw⟩
 have hpsB : ps.length + p.2.length ≤ 1000 := Nat.le_trans hsz (Nat.le_trans (Nat.le_trans (Nat.le_add_right _ _) (Nat.le_of_eq hal)) hlen)
 have hB : ∀ k, k ≤ 1001 → k < 1048576 := fun k h => Nat.lt_of_le_of_lt h (by decide)
 cases rest with
 | nil =>
   refine AT_evk hGC hk 8 [.b false] (fun q k => ?_) (by with_unfolding_all rfl) (B_ff (AB_nil (C_next (AB_c ?_))))
   ·with_unfolding_all exact k (decide_eq_false (Int.not_lt.mpr (Int.ofNat_le.mpr (Nat.le_of_eq hal.symm))))
   have hRL : readL ts = ps ++ [p] := by
    unfold readL
    rw [← hres]; rfl
   simp only [toksOk, Bool.and_eq_true, Bool.not_eq_true', decide_eq_false_iff_not, decide_eq_true_eq] at hok
   have hkd : (refs (ps ++ [p])).map (hd 4) = (ps ++ [p]).map fun q => D.tup [.str q.1, .any] := refs_hd _
   have hkg : ((ps ++ [p]).map fun q => D.tup [.str q.1, .any]).filterMap kindG = ((ps ++ [p]).map (·.1)).map D.str := by
    rw [List.filterMap_map, List.map_map, ← List.filterMap_eq_map]; rfl
   have cin : ∀ l, l = (ps.map (·.1)).map D.str → SV Γ C (compareOp .In) (.str freeK) (.lst l) (.bool false) := by
    rintro _ rfl st Φ k
    refine cmp_in_strs (l := (ps.map (·.1)).map D.str) rfl (strsD_str _) ?_ rfl ?_
    ·simp only [lows, List.all_eq_true, List.mem_map]
     rintro x ⟨q, hq, rfl⟩
     exact hlw q (List.mem_append_left _ hq)
    ·rw [decide_eq_false hok.1]; exact k
   refine AS_AssignComp (lim := 1) (m0 := []) (kn := [(".0", .local), ("part", .local)]) (gStore hk (by decide +kernel)) rfl (by rw [hk]; rfl) (by rfl) (o_dep hd1 (by decide)) (o_dep hd2 (by decide)) (gE_Name (by decide +kernel) rfl ⟨refs (ps ++ [p]), (ps ++ [p]).map fun q => D.tup [.str q.1, .any], kindG, muOf_1 (by simp), hkd.symm, ?_, nofun, fun d hd => ?_, by rw [hkg]; exact noMutL_str _, ?_⟩)
   ·simp; omega
   ·obtain ⟨q, hq, rfl⟩ := List.mem_map.mp hd
    refine CT_ev (by decide +kernel) fun C' acc hk' _ _ => AE_evk hGC hk' 8 [.v (.str q.1)] (fun z k => ?_) (by with_unfolding_all rfl) ⟨rfl, rfl, rfl⟩
    with_unfolding_all exact k rfl
   ·rw [hkg]
    refine AB_evk hGC hk 12 [.b false, .b false, .v (.str p.1), .b false] (fun z k => ?_) ?_
    ·with_unfolding_all exact k (decide_eq_false hok.2) (sub_last (by simp)) rfl (cin _ (by rw [slice_m1]; simp))
    rw [hRL]
    exact ⟨_, rfl, fz_parts (by simp), by simp only [noMut, noMut_parts]⟩
 | cons t r =>
   rw [show textT (t :: r) = tokS t ++ textT r from List.flatMap_cons] at hdr hal
   rw [List.length_append] at hal
   rw [toksOk, Bool.and_eq_true] at hok
   have hlt := List.length_pos_iff.mpr (tokS_ne t)
   have s_ : ∀ k, pySlice (textT ts) (some (at_ : Int)) (some ((at_ + k : Nat) : Int)) = (tokS t ++ textT r).take k := fun k => by rw [slice_d, hdr, Nat.add_sub_cancel_left]
   have e_ : ∀ k l b, decide ((tokS t ++ textT r).take k = l) = b → decide (pySlice (textT ts) (some (at_ : Int)) (some ((at_ + k : Nat) : Int)) = l) = b := fun k l b h => by rw [s_]; exact h
   have hc : ∀ c u, tokS t = c :: u → subD (muOf (ps ++ [p])) (.str (textT ts)) (at_ : Int) = some (.str [c]) := fun c u e => sub_str (by rw [← Nat.add_zero at_, ← List.getElem?_drop, hdr, e]; rfl)
   have hlast : (muOf (ps ++ [p]))[muI ps.length]? = some (atomsD p) ∧ (atomsD p).length < 1048576 := ⟨muOf_last ps p, by rw [atomsD, List.length_map]; exact hB _ (Nat.le_succ_of_le (Nat.le_trans (Nat.le_add_left _ _) hpsB))⟩
   have hone : (muOf (ps ++ [p]))[1]? = some (refs (ps ++ [p])) := muOf_1 (by simp)
   have hnew : (muOf (ps ++ [p]) ++ [[]])[1]? = some (refs (ps ++ [p])) ∧ (refs (ps ++ [p])).length < 1048576 := ⟨by
    rw [List.getElem?_append_left (by rw [muOf_len (by simp)]; simp)]; exact hone, by rw [refs, List.length_mapIdx, List.length_append]; exact hB _ (Nat.succ_le_succ (Nat.le_trans (Nat.le_add_right _ _) hpsB))⟩
   refine AT_evk hGC hk 8 [.b true] (fun q k => ?_) (by with_unfolding_all rfl) (B_tt ?_)
   ·with_unfolding_all exact k (decide_eq_true (Int.ofNat_lt.mpr (hal ▸ Nat.lt_add_of_pos_right (Nat.lt_of_lt_of_le hlt (Nat.le_add_right _ _)))))
   have hgo : ∀ m mu, mu = muOf ((readT t (ps, p)).1 ++ [(readT t (ps, p)).2]) → Pk [("body", .str (textT ts)), ("at", .int ((at_ + (tokS t).length : Nat) : Int)), ("parts", .mut 1)] m → Turn Φ' W' .next ⟨m, mu⟩ := fun m mu e s =>
    T_go hW ⟨r.length, Nat.lt_succ_self _, .mk (at_ + (tokS t).length) r (readT t (ps, p)).1 (readT t (ps, p)).2 (by rw [← List.drop_drop, hdr, List.drop_left]) (by rw [Nat.add_assoc]; exact hal) hok.2 hres (Nat.le_trans (readT_ok hlw).2 (Nat.add_le_add hsz hlt)) (readT_ok hlw).1⟩ s e
   cases t with
   | held =>
    refine AB_evk hGC hk 14 [.v (.str [40]), .v (.tup [.str p.1, .mut (muI ps.length)]), .v (.mut (muI ps.length)), .b true, .l (refs (ps ++ [p])), .b true, .l (refs (ps ++ [p]))] (fun q k => ?_) (hgo _ _ (muOf_new (ps := ps ++ [p]) (by simp) _) rfl)
    with_unfolding_all exact k hnew hone (e_ 6 _ _ rfl) rfl sub_parts (hc _ _ rfl)
   | close =>
    have hheld : p.1 = heldK := by simpa [tokOk] using hok.1
    refine AB_evk hGC hk 14 [.v (.str [41]), .v (.tup [.str p.1, .mut (muI ps.length)]), .v (.mut (muI ps.length)), .b false, .b false, .b true, .v (.tup [.str p.1, .mut (muI ps.length)]), .v (.str p.1), .b true, .l (refs (ps ++ [p])), .b true, .l (refs (ps ++ [p]))] (fun q k => ?_) (hgo _ _ (muOf_new (ps := ps ++ [p]) (by simp) _) rfl)
    with_unfolding_all exact k hnew hone (decide_eq_true hheld) rfl sub_parts rfl (e_ 2 _ _ (by simp [tokS])) (e_ 6 _ _ (by simp [tokS])) rfl sub_parts (hc _ _ rfl)
   | free =>
    refine AB_evk hGC hk 14 [.v (.str [46]), .v (.tup [.str p.1, .mut (muI ps.length)]), .v (.mut (muI ps.length)), .b false, .b true, .l (refs (ps ++ [p])), .b true, .l (refs (ps ++ [p]))] (fun q k => ?_) (hgo _ _ (muOf_new (ps := ps ++ [p]) (by simp) _) rfl)
    with_unfolding_all exact k hnew hone (e_ 2 _ _ rfl) (e_ 6 _ _ (by simp [tokS])) rfl sub_parts (hc _ _ rfl)
   | set l =>
    simp only [tokOk, Bool.and_eq_true, Bool.not_eq_true', decide_eq_false_iff_not, decide_eq_true_eq] at hok
    have hd1' : (textT ts).drop (at_ + 1) = l ++ 93 :: textT r := by rw [← List.drop_drop, hdr]; simp [tokS]
    have sl : pySlice (textT ts) (some ((at_ : Int) + 1)) (some ((at_ + 1 + l.length : Nat) : Int)) = l := by rw [ad1, slice_d, hd1', Nat.add_sub_cancel_left, List.take_left]
    refine AB_evk hGC hk 14 [.v (.str [91]), .v (.tup [.str p.1, .mut (muI ps.length)]), .v (.mut (muI ps.length)), .b false, .b false, .b false, .b true, .v (.int ((at_ + 1 + l.length : Nat) : Int)), .l (atomsD p), .v (atomD (setA l)), .l (atomsD p)] (fun q k => ?_) (hgo _ _ (muOf_add ps p (setA l)) (by rw [show (tokS (.set l)).length = l.length + 2 by simp [tokS], show at_ + (l.length + 2) = at_ + 1 + l.length + 1 from congrArg (· + 1) (Nat.succ_add_eq_add_succ at_ l.length).symm]; rfl))
    with_unfolding_all refine k hlast (by rw [sl]; exact ⟨1, fn_set hG hok.1.2 hok.1.1.2, o_dep hd1 (by decide), o_dep hd2 (by decide)⟩) hlast.1 (fun Φ hΦ => ?_) rfl rfl (e_ 2 _ _ (by simp [tokS])) (e_ 6 _ _ (by simp [tokS])) rfl sub_parts (hc _ _ rfl)
    refine ACall_index3 (k := at_ + 1 + l.length) (rest := []) (idx_set (u := textT r) (hdr.trans (by simp [tokS])) hok.1.1.1) ?_
    exact hΦ
   | any =>
    have h42 : (textT r).take 1 ≠ [42] := by
     cases r with
     | nil => simp [textT]
     | cons t2 r2 =>
      have ho2 := hok.2
      simp only [toksOk, Bool.and_eq_true] at ho2
      cases t2 with
      | lit d =>
       have := ho2.1
       simp only [tokOk, Bool.and_eq_true, Bool.not_eq_true', decide_eq_false_iff_not] at this
       have hd : d ≠ 42 := fun e => this.1.1.1 (e ▸ (by decide))
       simp [textT, tokS, hd]
      | _ => simp [textT, tokS]
    refine AB_evk hGC hk 14 [.v (.str [46]), .v (.tup [.str p.1, .mut (muI ps.length)]), .v (.mut (muI ps.length)), .b false, .b false, .b false, .b false, .b true, .l (atomsD p), .l (atomsD p)] (fun q k => ?_) (hgo _ _ (muOf_add ps p (true, [])) rfl)
    with_unfolding_all exact k hlast hlast.1 rfl rfl rfl (e_ 2 _ _ (by simp [tokS, h42])) (e_ 6 _ _ (by simp [tokS])) rfl sub_parts (hc _ _ rfl)
   | lit c =>
    simp only [tokOk, Bool.and_eq_true, Bool.not_eq_true', decide_eq_false_iff_not, bne_iff_ne] at hok
    obtain ⟨⟨⟨⟨hb1, hb2⟩, hb3⟩, hb4⟩, -⟩ := hok
    have one : ∀ k : Nat, c ≠ k → decide ([c] = [k]) = false := fun k h => decide_eq_false fun e => h (List.cons.inj e).1
    have bad : ∀ k ∈ badL, c ≠ k := fun k hk e => hb1 (e ▸ hk)
    refine AB_evk hGC hk 14 [.v (.str [c]), .v (.tup [.str p.1, .mut (muI ps.length)]), .v (.mut (muI ps.length)), .b false, .b false, .b false, .b false, .b false, .b false, .b false, .l (atomsD p), .l (atomsD p)] (fun q k => ?_) (hgo _ _ ((congrArg (fun x => (muOf (ps ++ [p])).set (muI ps.length) (atomsD p ++ [D.tup [.bool false, .str x]])) (s_ 1)).trans (muOf_add ps p (false, [c]))) rfl)
    with_unfolding_all exact k hlast hlast.1 (one _ hb4) (decide_eq_false hb1) (one _ hb3) (one _ hb2) (one _ (bad 41 (by decide))) (e_ 2 _ _ (by simp [tokS, hb3])) (e_ 6 _ _ (by simp [tokS, bad 40 (by decide)])) rfl sub_parts (hc _ _ rfl)
   | esc d =>
    have s1 : pySlice (textT ts) (some ((at_ : Int) + 1)) (some ((at_ : Int) + 1 + 1)) = [d] := by rw [ad1, ad1, slice_d, ← List.drop_drop, hdr]; simp [tokS]
    refine AB_evk hGC hk 14 [.v (.str [92]), .v (.tup [.str p.1, .mut (muI ps.length)]), .v (.mut (muI ps.length)), .b false, .b false, .b false, .b false, .b false, .b false, .b true, .l (atomsD p), .l (atomsD p)] (fun q k => ?_) (hgo _ _ ((congrArg (fun x => (muOf (ps ++ [p])).set (muI ps.length) (atomsD p ++ [D.tup [.bool false, .str x]])) s1).trans (muOf_add ps p (false, [d]))) rfl)
    with_unfolding_all exact k hlast hlast.1 rfl rfl rfl rfl rfl (e_ 2 _ _ (by simp [tokS])) (e_ 6 _ _ (by simp [tokS])) rfl sub_parts (hc _ _ rfl)
theorem fn_read (hG : GFs Γ F) {ts : List Tok} (hok : toksOk ts ([], (runK, [])) = true) (hlen : (textT ts).length ≤ 1000) : Fn Γ 6 (.ref (F 57)) [.str ([40, 63, 115, 58] ++ textT ts ++ [41, 92, 90])] (.lst ((readL ts).map partD)) :=
 Fn.of (n := 5) (k := 3) (m' := [("told", .str ([40, 63, 115, 58] ++ textT ts ++ [41, 92, 90]))]) (hG.fs 57 (by decide)) (by decide +kernel) (by rfl) rfl (by intro p hp; simp only [List.mem_singleton] at hp; subst hp; rfl) fun C hk h1 h2 => w_read hG hk hok hlen h1 (by omega)
end
end
section
/-! the pattern that is asked -/
structure Ask where
 L : List Nat
 c1 : Nat
 c2 : Nat
 dress : Nat
 kind : Nat
noncomputable def brS (dress : Nat) : List Nat := if dress = 0 then [91] else if dress = 1 then [91, 33] else [91, 122, 45, 97]
noncomputable def colS (a : Ask) (k : Nat) : List Nat := if k = a.c1 ∨ k = a.c2 then brS a.dress ++ [a.L.getD k 0] ++ [93] else [63]
noncomputable def colI (a : Ask) (k : Nat) : Option (Bool × List Nat) := if k = a.c1 ∨ k = a.c2 then some (a.dress == 1, [a.L.getD k 0]) else some (true, [])
noncomputable def quoS (kind : Nat) : List Nat := [[], [61, 69, 57], [61, 51, 68], [61, 50, 48], [91, 32, 9, 93], [61, 63, 63]].getD kind []
noncomputable def wishS (kind : Nat) : List Nat := [[], [61, 69, 57], [61, 51, 68], [61, 50, 48], [], [61]].getD kind []
noncomputable def restI (kind : Nat) : List (Option (Bool × List Nat)) := [[], [none], [none], [], [some (false, [32, 9])], [some (true, []), some (true, [])]].getD kind []
noncomputable def starS (kind : Nat) : List Nat := if kind = 1 ∨ kind = 2 then [42] else []
noncomputable def askP (a : Ask) : List Nat := (List.range 10).flatMap (colS a) ++ [42] ++ quoS a.kind ++ starS a.kind
noncomputable def askI (a : Ask) : List (Option (Bool × List Nat)) := (List.range 10).map (colI a) ++ [none] ++ (wishS a.kind).map (fun s => some (false, [s])) ++ restI a.kind
noncomputable def askOf (rows : List (List Nat)) (x : Int) : Ask := ⟨(rows.getD (x % 3).toNat []).take 10, (x / 3 % 10).toNat, (x / 30 % 10).toNat, (x / 300 % 3).toNat, (x / 900 % 6).toNat⟩
theorem np (x : Int) (b : Nat) (h : (b : Int).natAbs.log2 < 9000) : Builtin.divisionGoesByPylong x (b : Int) = false := PyProof.noPylong_of_log2 h
theorem fdm (x : Int) (a b : Nat) : (x.fdiv (a : Int)).fmod ((b + 1 : Nat) : Int) = (((x / (a : Int) % ((b + 1 : Nat) : Int)).toNat : Nat) : Int) := by
 rw [Int.fdiv_eq_ediv_of_nonneg _ (Int.natCast_nonneg a), Int.fmod_eq_emod_of_nonneg _ (Int.natCast_nonneg _), Int.toNat_of_nonneg (Int.emod_nonneg _ (Int.ofNat_ne_zero.mpr (Nat.succ_ne_zero b)))]
theorem colS_len (a : Ask) (j : Nat) : (colS a j).length ≤ 6 := by
 unfold colS brS; split
 ·split
  ·exact Nat.le_of_ble_eq_true rfl
  ·split <;> exact Nat.le_of_ble_eq_true rfl
 ·decide
theorem cols_len (a : Ask) : ∀ j, ((List.range j).flatMap (colS a)).length ≤ j * 6
 | 0 => Nat.le_refl 0
 | j + 1 => by
  rw [List.range_succ, List.flatMap_append, List.flatMap_singleton, List.length_append, Nat.succ_mul]
  exact Nat.add_le_add (cols_len a j) (colS_len a j)
section
variable {Γ : Gl prog w} {F : Nat → Addr} {C : Cx}
noncomputable def pS (a : Ask) (x c1 c2 dr : Int) (told : List Nat) : List (Str × D) := [("x", .int x), ("listed", .str a.L), ("dress", .int dr), ("any_sign", .tup [.bool true, .str []]), ("columns", .lst [.int c1, .int c2]), ("told", .str told), ("items", .mut 0)]
inductive PtI (a : Ask) (x : Int) : List D → St → Prop
 | mk (j n : Nat) (hj : j + n = 10) : PtI a x ((List.range' j n).map fun i : Nat => D.int (i : Int)) ⟨pS a x (a.c1 : Nat) (a.c2 : Nat) (a.dress : Nat) ((List.range j).flatMap (colS a)), [((List.range j).map (colI a)).map itemD]⟩
theorem pat_turn {a : Ask} {x : Int} {j : Nat} {told : List Nat} {II : List D} {Φ : Fl → St → Prop} (hG : GC Γ F) (hk : C.kn = (fScope 64).names) (hj : j < a.L.length) (hd : a.dress < 3) (ht : told.length ≤ 100) (hI : II.length ≤ 100)
  (k : ∀ m', Pk (pS a x (a.c1 : Nat) (a.c2 : Nat) (a.dress : Nat) (told ++ colS a j)) m' → Φ .next ⟨m', [II ++ [itemD (colI a j)]]⟩) :
  AB Γ C (subB (fBody 64) 3) ⟨(pS a x (a.c1 : Nat) (a.c2 : Nat) (a.dress : Nat) told).append [("k", .int (j : Nat))], [II]⟩ Φ := by
 have hjL : a.L[j]? = some (a.L.getD j 0) := by rw [List.getD_eq_getElem?_getD, List.getElem?_eq_getElem hj]; rfl
 have hp : ([II])[0]? = some II ∧ II.length < 1048576 := ⟨rfl, Nat.lt_of_le_of_lt hI (by decide)⟩
 have hin : decide ((j : Int) ∈ [((a.c1 : Nat) : Int), ((a.c2 : Nat) : Int)]) = decide (j = a.c1 ∨ j = a.c2) := by simp [Int.ofNat_inj]
 have ci : SV Γ C (compareOp .In) (.int (j : Int)) (.lst [.int (a.c1 : Nat), .int (a.c2 : Nat)]) (.bool (decide (j = a.c1 ∨ j = a.c2))) := fun st Φ k => cmp_in_ints rfl rfl (hin.symm ▸ k)
 by_cases h : j = a.c1 ∨ j = a.c2
 ·rw [show colS a j = brS a.dress ++ [a.L.getD j 0] ++ [93] from if_pos h, show colI a j = some (a.dress == 1, [a.L.getD j 0]) from if_pos h] at k
  rw [decide_eq_true h] at ci
  have hb : (brS a.dress).length ≤ 4 := by unfold brS; split <;> first | decide | (split <;> decide)
  have hbr : ∀ mu, subD mu (.lst [.str [91], .str [91, 33], .str [91, 122, 45, 97]]) (a.dress : Int) = some (.str (brS a.dress)) := fun mu => by
   rcases lt3 a.dress hd with q | q | q <;> rw [q] <;> rfl
  have e : decide ((a.dress : Int) = 1) = (a.dress == 1) := by rw [Bool.eq_iff_iff, decide_eq_true_eq, beq_iff_eq]; exact Int.ofNat_inj (n := 1)
  have k2 : ∀ m', Pk (pS a x (a.c1 : Nat) (a.c2 : Nat) (a.dress : Nat) (told ++ (brS a.dress ++ [a.L.getD j 0] ++ [93]))) m' → Φ .next ⟨m', [II ++ [D.tup [.bool (decide ((a.dress : Int) = 1)), .str [a.L.getD j 0]]]]⟩ := fun m' s => by rw [e]; exact k m' s
  refine AB_evk hG hk 14 [.b true, .b true, .b false, .v (.str (brS a.dress)), .v (.str [a.L.getD j 0]), .l II, .v (.str [a.L.getD j 0]), .l II] (fun z k => ?_) (k2 _ rfl)
  ·with_unfolding_all exact k hp (sub_str hjL) rfl (by rw [List.length_append, List.length_append, List.length_append]; exact Nat.le_trans (Nat.add_le_add ht (Nat.add_le_add_right (Nat.add_le_add_right hb 1) 1)) (by decide)) (by rw [List.length_append, List.length_append]; exact Nat.le_trans (Nat.add_le_add_right (Nat.add_le_add_right hb 1) 1) (by decide)) (by rw [List.length_append]; exact Nat.le_trans (Nat.add_le_add_right hb 1) (by decide)) (sub_str hjL) (hbr _) rfl ci
 ·rw [show colS a j = [63] from if_neg h, show colI a j = some (true, []) from if_neg h] at k
  rw [decide_eq_false h] at ci
  refine AB_evk hG hk 12 [.b false, .b false, .l II, .l II] (fun z k => ?_) (k _ rfl)
  with_unfolding_all exact k hp rfl (by rw [List.length_append]; exact Nat.le_trans (Nat.add_le_add_right ht 1) (by decide)) rfl ci
theorem pat_end {a : Ask} {x c1 c2 dr : Int} {T : List Nat} {II : List (Option (Bool × List Nat))} (hG : GFs Γ F) (hk : C.kn = (fScope 64).names) (h4 : (x.fdiv 900).fmod 6 = ((a.kind : Nat) : Int)) (h6 : a.kind < 6) (ht : T.length ≤ 100) (hI : II.length ≤ 100) (hd1 : C.A.depth + 5 ≤ 600) (hd2 : C.A.units + 50 ≤ 5000) :
  AB Γ C ((fBody 64).drop 4) ⟨pS a x c1 c2 dr T, [II.map itemD]⟩ (Res 2 (.tup [.str (T ++ [42] ++ quoS a.kind ++ starS a.kind), .lst ((II ++ [none] ++ (wishS a.kind).map (fun s => some (false, [s])) ++ restI a.kind).map itemD)])) := by
 have hGC := hG.toGC
 generalize a.kind = kd at h4 h6
 have k6 := lt6 kd h6
 have hq : ∀ c, c < 256 → FnOk Γ C F 16 [.str [c]] (.str (quoL c)) := fun c hc => ⟨1, fn_quote hG hc, o_dep hd1 (by decide), o_dep hd2 (by decide)⟩
 have hwl : (wishS kd).length ≤ 3 := by rcases k6 with q | q | q | q | q | q <;> rw [q] <;> decide
 have hrl : (restI kd).length ≤ 2 := by rcases k6 with q | q | q | q | q | q <;> rw [q] <;> decide
 have hql : (quoS kd).length ≤ 4 := by rcases k6 with q | q | q | q | q | q <;> rw [q] <;> decide
 have hsl : (starS kd).length ≤ 1 := by unfold starS; split <;> decide
 have hb : ∀ l : List (Option (Bool × List Nat)), l.length ≤ 10 → ((II ++ l).map itemD).length ≤ 1000 := fun l hl => by
  rw [List.length_map, List.length_append]; exact Nat.le_trans (Nat.add_le_add hI hl) (by decide)
 refine AB_runk (b' := (fBody 64).drop 10) (st' := ⟨(pS a x c1 c2 dr T).append [("kind", .int ((x.fdiv 900).fmod 6)), ("quoted", .str (quoS kd)), ("wished", .str (wishS kd))], [II.map itemD ++ [.none] ++ ((wishS kd).map fun s => some (false, [s])).map itemD ++ (restI kd).map itemD]⟩) hGC hk 14 6
  [.v (.str (quoL 233)), .v (.str (quoL 61)), .v (.str (quoL 32)), .b false, .v (.str (quoS kd)), .b false, .v (.str (wishS kd)), .l (II.map itemD), .l (II.map itemD), .v (.lst (((wishS kd).map fun s => some (false, [s])).map itemD)), .l (II.map itemD ++ [.none]), .l (((wishS kd).map fun s => some (false, [s])).map itemD),
   .b false, .b false, .b false, .b false, .b false, .b false, .b false, .v (.lst ((restI kd).map itemD)), .l (II.map itemD ++ [.none] ++ ((wishS kd).map fun s => some (false, [s])).map itemD), .l ((restI kd).map itemD)] (fun z k => ?_) (by with_unfolding_all rfl) ?_
 ·with_unfolding_all refine k ⟨rfl, rfl, ?_⟩ ?_ ⟨rfl, rfl, ?_⟩ (fun Φ hΦ => ?_) ⟨rfl, ?_⟩ rfl ?_ ?_ (hq 32 (by decide)) (hq 61 (by decide)) (hq 233 (by decide)) (by decide) ⟨by decide, np x 900 (by decide +kernel)⟩
  ·have := hb ([none] ++ ((wishS kd).map fun s => some (false, [s])) ++ restI kd) (by rw [List.length_append, List.length_append, List.length_map]; exact Nat.le_trans (Nat.add_le_add (Nat.add_le_add_left hwl 1) hrl) (by decide))
   rw [List.map_append, List.map_append, List.map_append, ← List.append_assoc, ← List.append_assoc] at this
   exact Nat.le_trans this (by decide)
  ·rw [h4]; rcases k6 with q | q | q | q | q | q <;> rw [q] <;> rfl
  ·have := hb ([none] ++ ((wishS kd).map fun s => some (false, [s]))) (by rw [List.length_append, List.length_map]; exact Nat.le_trans (Nat.add_le_add_left hwl 1) (by decide))
   rw [List.map_append, List.map_append, ← List.append_assoc] at this
   exact Nat.le_trans this (by decide)
  ·refine AE_CompS (lim := 1) (m0 := []) (kn := [(".0", .local), ("sign", .local)]) (fun s => .tup [.bool false, .str s]) (by rfl) (by rw [hk]; with_unfolding_all rfl) (by rfl) (o_dep hd1 (by decide)) (o_dep hd2 (by decide)) (gE_Name (by decide +kernel) rfl ⟨(wishS kd).map fun c => [c], by rw [List.map_map]; rfl, by rw [List.length_map]; exact Nat.le_trans hwl (by decide), nofun, fun s hs => CT_ev (by decide +kernel) fun C' acc hk' _ _ => AE_evk hGC hk' 8 [] (fun z k => k) (by with_unfolding_all rfl) ⟨rfl, rfl, rfl⟩, ?_, ?_⟩)
   ·have := noMut_items ((wishS kd).map fun s => some (false, [s]))
    rw [List.map_map] at this ⊢; exact this
   ·rw [List.map_map] at hΦ ⊢; exact hΦ
  ·exact Nat.lt_of_le_of_lt (by rw [List.length_map]; exact hI) (by decide)
  ·rw [h4]; rcases k6 with q | q | q | q | q | q <;> rw [q] <;> rfl
  ·rw [h4]; rcases k6 with q | q | q | q | q | q <;> rw [q] <;> rfl
 rw [h4]
 have e1 : II.map itemD ++ [.none] ++ ((wishS kd).map fun s => some (false, [s])).map itemD ++ (restI kd).map itemD = (II ++ [none] ++ (wishS kd).map (fun s => some (false, [s])) ++ restI kd).map itemD := by rw [List.map_append, List.map_append, List.map_append]; rfl
 rw [e1]
 generalize II ++ [none] ++ (wishS kd).map (fun s => some (false, [s])) ++ restI kd = J
 have c1 : (T ++ [42]).length ≤ 200 := by rw [List.length_append]; exact Nat.le_trans (Nat.add_le_add_right ht 1) (by decide)
 have c2 : (T ++ [42] ++ quoS kd).length ≤ 300 := by rw [List.length_append]; exact Nat.le_trans (Nat.add_le_add c1 hql) (by decide)
 have c3 : (T ++ [42] ++ quoS kd ++ starS kd).length ≤ 1048576 := by rw [List.length_append]; exact Nat.le_trans (Nat.add_le_add c2 hsl) (by decide)
 have hin : decide ((kd : Int) ∈ [(1 : Int), 2]) = decide (kd = 1 ∨ kd = 2) := by rcases k6 with q | q | q | q | q | q <;> rw [q] <;> rfl
 have ci : SV Γ C (compareOp .In) (.int (kd : Int)) (.lst [.int 1, .int 2]) (.bool (decide (kd = 1 ∨ kd = 2))) := fun st Φ k => cmp_in_ints rfl rfl (hin.symm ▸ k)
 have fin : ∀ m d, d = D.tup [.str (T ++ [42] ++ quoS kd ++ starS kd), .mut 0] → Res 2 (.tup [.str (T ++ [42] ++ quoS kd ++ starS kd), .lst (J.map itemD)]) (.ret d) ⟨m, [J.map itemD]⟩ := fun m d e => ⟨d, rfl, by
  rw [e]
  show D.tup [_, .lst ((J.map itemD).map (fz 0 [J.map itemD]))] = _
  rw [fz_atoms]; rfl, by
  show (true && (noMutL (J.map itemD) && true)) = true
  rw [noMut_items]; rfl⟩
 by_cases h : kd = 1 ∨ kd = 2
 ·rw [decide_eq_true h] at ci
  have hS : starS kd = [42] := if_pos h
  rw [hS] at c3 fin ⊢
  refine AB_evk hGC hk 12 [.b false, .b true, .b true] (fun z k => ?_) (fin _ _ rfl)
  with_unfolding_all exact k c3 rfl ci (Nat.le_trans c2 (by decide)) (Nat.le_trans c1 (by decide))
 ·rw [decide_eq_false h] at ci
  have hS : starS kd = [] := if_neg h
  rw [hS] at c3 fin ⊢
  refine AB_evk hGC hk 12 [.b false, .b false, .b false] (fun z k => ?_) (fin _ _ rfl)
  with_unfolding_all exact k c3 rfl ci (Nat.le_trans c2 (by decide)) (Nat.le_trans c1 (by decide))
theorem w_pattern {rows : List (List Nat)} {x : Int} (hG : GFs Γ F) (hk : C.kn = (fScope 64).names) (hr : rows.length = 3) (hrl : ∀ r ∈ rows, 10 ≤ r.length ∧ r.length ≤ 1000) (hd1 : C.A.depth + 5 ≤ 600) (hd2 : C.A.units + 50 ≤ 5000) :
  AB Γ C (fBody 64) ⟨[("rows", strsL rows), ("x", .int x)], []⟩ (Res 2 (.tup [.str (askP (askOf rows x)), .lst ((askI (askOf rows x)).map itemD)])) := by
 have hGC := hG.toGC
 have h1 : (x.fdiv 3).fmod 10 = (((askOf rows x).c1 : Nat) : Int) := fdm x 3 9
 have h2 : (x.fdiv 30).fmod 10 = (((askOf rows x).c2 : Nat) : Int) := fdm x 30 9
 have h3 : (x.fdiv 300).fmod 3 = (((askOf rows x).dress : Nat) : Int) := fdm x 300 2
 have h4 : (x.fdiv 900).fmod 6 = (((askOf rows x).kind : Nat) : Int) := fdm x 900 5
 have lt : ∀ (y : Int) (b : Nat), (y % ((b + 1 : Nat) : Int)).toNat < b + 1 := fun y b => (Int.toNat_lt' (Nat.succ_pos b)).mpr (Int.emod_lt_of_pos _ (Int.natCast_pos.mpr (Nat.succ_pos b)))
 have h5 : (askOf rows x).dress < 3 := lt _ 2
 have h6 : (askOf rows x).kind < 6 := lt _ 5
 have h7 : x.fmod 3 = (((x % 3).toNat : Nat) : Int) := by rw [Int.fmod_eq_emod_of_nonneg _ (by decide), Int.toNat_of_nonneg (Int.emod_nonneg _ (by decide))]
 have h9 : rows[(x % 3).toNat]? = some (rows.getD (x % 3).toNat []) := by rw [List.getD_eq_getElem?_getD, List.getElem?_eq_getElem (hr.symm ▸ lt x 2)]; rfl
 have h10 : (askOf rows x).L.length = 10 := by
  show ((rows.getD (x % 3).toNat []).take 10).length = 10
  rw [List.length_take]; exact Nat.min_eq_left (hrl _ (List.mem_of_getElem? h9)).1
 refine AB_runk (b' := (fBody 64).drop 3) (st' := ⟨[("rows", strsL rows), ("x", .int x), ("any_sign", .tup [.bool true, .str []]), ("dress", .int ((x.fdiv 300).fmod 3)), ("listed", .str (askOf rows x).L), ("columns", .lst [.int ((x.fdiv 3).fmod 10), .int ((x.fdiv 30).fmod 10)]), ("items", .mut 0), ("told", .str [])], [[]]⟩) hGC hk 12 3 [.v (.str (rows.getD (x % 3).toNat [])), .b false, .b true] (fun z k => ?_) (by with_unfolding_all rfl) ?_
 ·with_unfolding_all exact k (by decide) ⟨by decide, np x 30 (by decide +kernel)⟩ (by decide) ⟨by decide, np x 3 (by decide +kernel)⟩ (by decide) ⟨by decide, np x 300 (by decide +kernel)⟩ (h7 ▸ sub_map h9) (by decide)
 rw [h1, h2, h3]
 generalize askOf rows x = a at h3 h4 h5 h6 h10
 refine AB_pk (m' := pS a x (a.c1 : Nat) (a.c2 : Nat) (a.dress : Nat) []) rfl rfl (AB_c (AS_ForR (by rfl) (AE_evk hGC hk 8 [.v (.rng 0 10 1)] (fun z k => ?_) (by with_unfolding_all rfl) ⟨_, _, _, rfl, by decide, fun I => ?_⟩)))
 ·with_unfolding_all exact k fun Φ hΦ => ACall_range1 hΦ
 rw [show rngD 0 10 1 = (List.range' 0 10).map fun i : Nat => D.int (i : Int) from by rfl]
 refine AFor_inv (PtI a x) ?_ ?_ _ _ (.mk 0 10 rfl)
 ·intro d r Φ' W' _ hW st h
  generalize hr : d :: r = ds at h
  obtain ⟨j, n, hj⟩ := h
  cases n with
  | zero => cases hr
  | succ n =>
   cases hr
   have hj10 : j < 10 := hj ▸ Nat.lt_add_of_pos_right (Nat.succ_pos n)
   refine AAs_Name (gStore hk (by decide +kernel)) (pat_turn hGC hk (h10.symm ▸ hj10) h5 (Nat.le_trans (cols_len a j) (Nat.le_trans (Nat.mul_le_mul_right 6 (Nat.le_of_lt hj10)) (by decide))) (by rw [List.length_map, List.length_map, List.length_range]; exact Nat.le_trans (Nat.le_of_lt hj10) (by decide)) fun m' s => T_go hW (.mk (j + 1) n (by rw [← hj, Nat.add_assoc, Nat.add_comm 1])) (by rw [List.range_succ, List.flatMap_append, List.flatMap_singleton]; exact s) (by rw [List.range_succ, List.map_append, List.map_append]; rfl))
 ·intro st h
  generalize hr : ([] : List D) = ds at h
  obtain ⟨j, n, hj⟩ := h
  cases n with
  | succ n => cases hr
  | zero =>
   cases hj
   exact AB_nil (C_next (pat_end hG hk h4 h6 (Nat.le_trans (cols_len a 10) (by decide)) (by rw [List.length_map, List.length_range]; decide) hd1 hd2))
theorem fn_pattern (hG : GFs Γ F) {rows : List (List Nat)} {x : Int} (hr : rows.length = 3) (hrl : ∀ r ∈ rows, 10 ≤ r.length ∧ r.length ≤ 1000) : Fn Γ 6 (.ref (F 64)) [strsL rows, .int x] (.tup [.str (askP (askOf rows x)), .lst ((askI (askOf rows x)).map itemD)]) :=
 Fn.of (n := 5) (k := 2) (m' := [("rows", strsL rows), ("x", .int x)]) (hG.fs 64 (by decide)) (by decide +kernel) (by rfl) (by simp only [strsL, noMutL, noMut, noMutL_str]; rfl) (List.forall_mem_cons.mpr ⟨rfl, List.forall_mem_cons.mpr ⟨rfl, nofun⟩⟩) fun C hk h1 h2 => w_pattern hG hk hr hrl h1 h2
end
end
section
open PySem.AutoSeq1 (wpAny_loadPart')
section
variable {prog : Program} {w : World} {A : Around} {E : Value → Shared → Prop} {s : Shared}
theorem nextOf_tuple_item {it t : Addr} {i : Nat} {items} {x : Value} {Q : Value → Shared → Prop} (hit : s.heap.IsTupleIter it t i) (ht : s.heap.IsTuple t items) (hx : items[i]? = some x)
  (hQ : ∀ h', h'.IsTupleIter it t (i + 1) → Heap.SameBut it s.heap h' → Q x { s with heap := h' }) : wpAny (model prog w) A (Builtin.SmallTypes.nextOf (.ref it)) Q E s := by
 obtain ⟨o, ho, hc, hd⟩ := id hit
 obtain ⟨ol, hol, _, nl, hdl⟩ := ht
 unfold Builtin.SmallTypes.nextOf
 refine wpAny_bind (wpAny_callSpecial?_slot (name := Str.ofString "__next__") hit.typeIs F.slot_tuple_iterator_next
  (wpAny_call_entry F.slot_tuple_iterator_next hit.typeIs F.entry_tuple_iterator_next ?_ (F.args_tuple_iterator_next_1 _)))
 show wpAny _ _ (field (.ref it) 0 >>= _) _ _ s
 refine wpAny_bind (wpAny_field ho hd (x := .ref t) rfl ?_)
 show wpAny _ _ (if (Value.ref t == Value.none) = true then _ else _) _ _ s
 rw [if_neg (show ¬ ((Value.ref t == Value.none) = true) from Bool.false_ne_true)]
 show wpAny _ _ (field (.ref it) 1 >>= _) _ _ s
 refine wpAny_bind (wpAny_field ho hd (x := .int i 0) rfl ?_)
 show wpAny _ _ (seqItems? (.ref t) >>= _) _ _ s
 refine wpAny_bind (wpAny_seqItems hol hdl ?_)
 simp only [Int.toNat_natCast, hx]
 refine wpAny_bind (wpAny_setField ho hd (by simp) (wpAny_pure ⟨x, rfl, wpAny_pure (hQ _ ?_ (Heap.SameBut.update ..))⟩))
 exact ⟨_, Heap.get?_update_self _ ho (Obj.isFreed_of_fields (Obj.data_mapFields hd _)), (Obj.cls_mapFields ..).trans hc, by
  rw [Obj.data_mapFields hd]; simp [rawInt]⟩
theorem nextOf_tuple_end {it t : Addr} {i : Nat} {items} {Q : Value → Shared → Prop} (hh : A.handled = none) (hit : s.heap.IsTupleIter it t i) (ht : s.heap.IsTuple t items) (hx : items[i]? = none)
  (hE : ∀ h' e, Heap.ExtBut it s.heap h' → (∃ o, h'.get? e = some o ∧ o.cls = .type "StopIteration") → E (.ref e) { s with heap := h' }) : wpAny (model prog w) A (Builtin.SmallTypes.nextOf (.ref it)) Q E s := by
 obtain ⟨o, ho, hc, hd⟩ := id hit
 obtain ⟨ol, hol, _, nl, hdl⟩ := ht
 unfold Builtin.SmallTypes.nextOf
 refine wpAny_bind (wpAny_callSpecial?_slot (name := Str.ofString "__next__") hit.typeIs F.slot_tuple_iterator_next
  (wpAny_call_entry F.slot_tuple_iterator_next hit.typeIs F.entry_tuple_iterator_next ?_ (F.args_tuple_iterator_next_1 _)))
 show wpAny _ _ (field (.ref it) 0 >>= _) _ _ s
 refine wpAny_bind (wpAny_field ho hd (x := .ref t) rfl ?_)
 show wpAny _ _ (if (Value.ref t == Value.none) = true then _ else _) _ _ s
 rw [if_neg (show ¬ ((Value.ref t == Value.none) = true) from Bool.false_ne_true)]
 show wpAny _ _ (field (.ref it) 1 >>= _) _ _ s
 refine wpAny_bind (wpAny_field ho hd (x := .int i 0) rfl ?_)
 show wpAny _ _ (seqItems? (.ref t) >>= _) _ _ s
 refine wpAny_bind (wpAny_seqItems hol hdl ?_)
 simp only [Int.toNat_natCast, hx]
 refine wpAny_bind (wpAny_rule (wpAny_bind (wpAny_setField ho hd (by simp) ?_)))
 show wpAny _ _ (newExc (.type "StopIteration") [] >>= _) _ _ _
 refine wpAny_bind ?_
 simp only [newExc, newTuple]
 refine wpAny_bind (wpAny_newObj_type ?_ (by size_fits))
 refine wpAny_bind (m := firstArgMember _ _) (wpAny_of_eq (a := Value.none) (by first | rfl | (simp only [firstArgMember]; rfl)) ?_)
 refine wpAny_newObj_type ?_ (by size_fits)
 simp only [raiseNew]
 refine wpAny_bind (wpAny_handled ?_)
 first | rw [show A.in1.handled = none from hh] | rw [hh]
 refine wpAny_bind (wpAny_pure (wpAny_throw ?_))
 exact hE _ _ (((Heap.SameBut.update ..).extBut.push _).push _) ⟨_, Heap.get?_push_size _ rfl, rfl⟩
theorem draws_tuple {A : Around} (hh : A.handled = none) (it l : Addr) (hne : l ≠ it) (items : Array Value) :
  Draws prog w A it [it, l] items.size (fun i v => items[i]? = some v) (fun i h => h.IsTupleIter it l i ∧ h.IsTuple l items) where
 live := fun _ _ st => let ⟨o, ho, _⟩ := st.1; ⟨o, ho⟩
 frame := fun _ _ _ st hk => by
  obtain ⟨⟨o, ho, r⟩, ⟨o', ho', r'⟩⟩ := st
  exact ⟨⟨o, hk it (by simp) o ho, r⟩, ⟨o', hk l (by simp) o' ho', r'⟩⟩
 item := fun i s Q E hi st hQ => by
  refine nextOf_tuple_item st.1 st.2 (x := items[i]) (by simp [hi]) fun h' hit' hs' => ?_
  exact hQ _ h' s.toks (by simp [hi]) ⟨hit', st.2.extBut hs'.extBut hne⟩ hs'
 done := fun s Q E st hE => nextOf_tuple_end hh st.1 st.2 (by simp) hE
theorem meets_enum_tup (l : Addr) (items : Array Value) (n : Nat) (dct : Option Addr) (sl : Array (Option Value)) :
  Meets (Builtin.«enumerate.__new__» ⟨[.type "enumerate", .ref l], []⟩) (fun _ R s => s.heap.get? l = some { cls := .type "tuple", dict := dct, data := .seq items n, slots := sl } ∧
   R (.ok (.ret (.ref (s.heap.push { cls := .type "tuple_iterator", data := .fields #[.ref l, .int 0 0] }).objs.size)))
    { s with heap := (s.heap.push { cls := .type "tuple_iterator", data := .fields #[.ref l, .int 0 0] }).push { cls := .type "enumerate", data := .fields #[.none, .bool false, .ref s.heap.objs.size, rawInt 0, .none, .none] } }) :=
 .of_wp fun prog w A R s h => by
  obtain ⟨hp, g, d, tk, os⟩ := s; obtain ⟨hl, h⟩ := h
  have hsub := sub_enumerate
  have hL : Heap.IsTuple (Shared.heap ⟨hp, g, d, tk, os⟩) l items := ⟨_, hl, rfl, n, rfl⟩
  wp_walk using wpAny_loadPart' hl
  refine wpAny_stack_any fun st => wpAny_pure ?_
  split
  ·rename_i c _ _ _ _ _
   cases (c == Value.type "enumerate")
   ·wp_walk using wpAny_loadPart' hl, wpAny_pyIter_tuple hL
    exact ⟨_, rfl, h⟩
   ·wp_walk using wpAny_loadPart' hl, wpAny_pyIter_tuple hL
    exact ⟨_, rfl, h⟩
  ·wp_walk using wpAny_loadPart' hl, wpAny_pyIter_tuple hL
   exact ⟨_, rfl, h⟩
theorem call_enum_tup {l : Addr} {items : Array Value} {Q : Value → Shared → Prop} (hL : s.heap.IsTuple l items)
  (h : ∀ h', IsEnum h' (s.heap.objs.size + 1) s.heap.objs.size 0 .none → h'.IsTupleIter s.heap.objs.size l 0 → h'.objs.size = s.heap.objs.size + 2 →
   (∀ b o, s.heap.get? b = some o → h'.get? b = some o) → Q (.ref (s.heap.objs.size + 1)) { s with heap := h' }) :
  wpAny (model prog w) A (call (.type "enumerate") [.ref l]) Q E s := by
 obtain ⟨⟨c, dct, dt, sl⟩, hl, hc, n, hd⟩ := hL
 replace hc : c = .type "tuple" := hc
 replace hd : dt = .seq items n := hd
 subst hc hd
 refine callType_new F.called_enumerate (by decide) (F.typeCall_enumerate_1 _) (F.newCall_enumerate_1 _) (fun obj => F.args_object_init_2 obj _) F.entry_enumerate_new
  (meets_enum_tup l items n dct sl) ⟨hl, ?_⟩
 have hz : (s.heap.push { cls := .type "tuple_iterator", data := .fields #[.ref l, .int 0 0] }).objs.size = s.heap.objs.size + 1 := Heap.size_push ..
 show _ ∧ _
 rw [hz]
 have he : IsEnum ((s.heap.push { cls := .type "tuple_iterator", data := .fields #[.ref l, .int 0 0] }).push
   { cls := .type "enumerate", data := .fields #[.none, .bool false, .ref s.heap.objs.size, rawInt 0, .none, .none] }) (s.heap.objs.size + 1) s.heap.objs.size 0 .none := by
  have := Heap.get?_push_size (s.heap.push { cls := .type "tuple_iterator", data := .fields #[.ref l, .int 0 0] })
   (o := { cls := .type "enumerate", data := .fields #[.none, .bool false, .ref s.heap.objs.size, rawInt 0, .none, .none] }) rfl
  rw [hz] at this; exact this
 refine ⟨⟨_, he, rfl⟩, h _ he ⟨_, Heap.get?_push_of_some _ (Heap.get?_push_size _ rfl), rfl, rfl⟩ (by rw [Heap.size_push, hz]) fun b o x => Heap.get?_push_of_some _ (Heap.get?_push_of_some _ x)⟩
end
end
section
section
variable {Γ : Gl prog w} {C : Cx} {st : St}
structure EOk (C : Cx) (h : Heap) (as : List Addr) (e it t : Addr) (items : Array Value) (i : Nat) (ds : List D) : Prop where
 enum : ∃ old, IsEnum h e it i old
 iter : h.IsTupleIter it t i
 tup : h.IsTuple t items
 new1 : C.h₀.get? e = Option.none
 new2 : C.h₀.get? it = Option.none
 ne : e ≠ it
 te : t ≠ e
 ti : t ≠ it
 len : items.size = i + ds.length
 item : ∀ (j : Nat) (v : Value) (d : D), items[i + j]? = some v → ds[j]? = some d → Rp h C.X as d v
theorem enumT (t : String) (h : decide ((Value.type "enumerate" : Value) = .type t) = false) : (Value.type "enumerate" : Value) ≠ .type t := of_decide_eq_false h
theorem enum_it {vs : Array Value} : itO { cls := .type "enumerate", data := .fields vs } := ⟨⟨_, rfl⟩, nofun, enumT _ (by decide), enumT _ (by decide), enumT _ (by decide)⟩
theorem isEnum_it {h : Heap} {e it : Addr} {i : Int} {old : Value} (x : IsEnum h e it i old) : ∃ o, h.get? e = some o ∧ itO o := ⟨_, x, enum_it⟩
theorem isOut_it {h : Heap} {e it a : Addr} {i : Int} {old : Value} (x : IsEnumOut h e it i old a) : ∃ o, h.get? e = some o ∧ itO o := ⟨_, x, enum_it⟩
theorem isTupIt_it {h : Heap} {it t : Addr} {i : Nat} (x : h.IsTupleIter it t i) : ∃ o, h.get? it = some o ∧ itO o := by
 obtain ⟨o, ho, hc, hd⟩ := x
 exact ⟨o, ho, ⟨_, hd⟩, by rw [hc]; decide, by rw [hc]; decide, by rw [hc]; decide, by rw [hc]; decide⟩
theorem itO_keep {h h' : Heap} {as as' : List Addr} (R : Rel Γ C h as st) (x : Ext C h as h' as') {a : Addr} {o : Obj} (ho : h.get? a = some o) (hi : itO o) : h'.get? a = some o :=
 hi.1.elim fun vs hd => x.keep a o ho (R.notMu ho (.inr fun _ _ => ob_no hd rfl)) (R.notL ho fun _ _ => ob_no hd rfl) (R.notOwn ho fun _ => ob_no hd rfl) (R.notEx ho (.inr hi.2.1))
theorem EOk.ext {h h' : Heap} {as as' : List Addr} {e it t : Addr} {items : Array Value} {i : Nat} {ds : List D} (k : EOk C h as e it t items i ds) (R : Rel Γ C h as st) (x : Ext C h as h' as') : EOk C h' as' e it t items i ds := by
 have ke : ∀ a, (∃ o, h.get? a = some o ∧ itO o) → ∀ o, h.get? a = some o → h'.get? a = some o := fun a q o ho => q.elim fun o2 q => itO_keep R x ho (Option.some.inj (q.1.symm.trans ho) ▸ q.2)
 refine ⟨k.enum.imp fun _ he => ke _ (isEnum_it he) _ he, k.iter.imp fun o q => ⟨ke _ (isTupIt_it k.iter) _ q.1, q.2⟩, k.tup.imp fun o q => ⟨?_, q.2⟩, k.new1, k.new2, k.ne, k.te, k.ti, k.len, fun j v d h1 h2 => (k.item j v d h1 h2).lift (R.lean x)⟩
 obtain ⟨ho, hc, n, hd⟩ := q
 exact x.keep t o ho (R.notMu ho (.inl (by rw [hc]; decide))) (R.notL ho fun _ _ => ob_no hd rfl) (R.notOwn ho fun _ => ob_no hd rfl) (R.notEx ho (.inl fun _ => ob_no hd rfl))
theorem EOk.hit {h : Heap} {as : List Addr} {e it t : Addr} {items : Array Value} {i : Nat} {ds : List D} (k : EOk C h as e it t items i ds) : ∀ a, a ∈ [e, it] → C.h₀.get? a = Option.none ∧ ∃ o, h.get? a = some o ∧ itO o := fun a ha =>
 (List.mem_cons.mp ha).elim (fun q => q ▸ ⟨k.new1, k.enum.elim fun _ => isEnum_it⟩) fun ha => (List.mem_singleton.mp ha) ▸ ⟨k.new2, isTupIt_it k.iter⟩
theorem EOk.step {h h' : Heap} {as : List Addr} {e it : Addr} (R : Rel Γ C h as st) (hit : ∀ a, a ∈ [e, it] → C.h₀.get? a = Option.none ∧ ∃ o, h.get? a = some o ∧ itO o) (hk : ∀ a, a ∉ [e, it] → ∀ o, h.get? a = some o → h'.get? a = some o) :
  Rel Γ C h' as st ∧ (∀ d v, Rp h C.X as d v → Rp h' C.X as d v) ∧ ExtX [e, it] C h as h' as :=
 ⟨(R.subBut (· ∈ [e, it]) hit fun a o e n => hk a n o e).1, (R.subBut (· ∈ [e, it]) hit fun a o e n => hk a n o e).2, fun a o e w _ _ _ _ => hk a w o e, ⟨[], (List.append_nil _).symm⟩, fun _ ha => .inl ha⟩
theorem EOk.turn {h h1 h2 : Heap} {as : List Addr} {e it t T : Addr} {items vals : Array Value} {i : Nat} {d : D} {ds : List D} (R : Rel Γ C h as st) (x : EOk C h as e it t items i (d :: ds)) (hk : ∀ b o, b ∉ [e, it] → h.get? b = some o → h1.get? b = some o)
  (ho : ∃ y, IsEnumOut h1 e it ((i : Int) + 1) y T) (hi : h1.IsTupleIter it t (i + 1)) (hk2 : ∀ b o, b ∉ [e, it] → h1.get? b = some o → h2.get? b = some o) (h21 : ∃ old, IsEnum h2 e it ((i + 1 : Nat) : Int) old) (h22 : h2.IsTupleIter it t (i + 1)) (h23 : h2.IsTuple t items)
  (hP : ∃ tt v, items[i]? = some v ∧ vals = #[.int i tt, v]) (htup : h1.IsTuple T vals) (hTw : T ∉ [e, it]) :
  Rel Γ C h2 as st ∧ Rp h2 C.X as (.tup [.int (i : Nat), d]) (.ref T) ∧ EOk C h2 as e it t items (i + 1) ds ∧ ExtX [e, it] C h as h2 as := by
 obtain ⟨R1, lift1, x1⟩ := EOk.step R x.hit fun a n o => hk a o n
 obtain ⟨R2, lift2, x2⟩ := EOk.step R1 (fun a ha => (List.mem_cons.mp ha).elim (fun q => q ▸ ⟨x.new1, ho.elim fun _ => isOut_it⟩) fun ha => (List.mem_singleton.mp ha) ▸ ⟨x.new2, isTupIt_it hi⟩) fun a n o => hk2 a o n
 refine ⟨R2, hP.elim fun tt q => q.elim fun v q => ?_, ⟨h21, h22, h23, x.new1, x.new2, x.ne, x.te, x.ti, x.len.trans (Nat.succ_add_eq_add_succ i ds.length).symm, fun j v d h1 h2 => lift2 _ _ (lift1 _ _ (x.item (j + 1) v d ((congrArg (items[·]?) (Nat.succ_add_eq_add_succ i j)).symm.trans h1) h2))⟩, x1.trans R1 x2⟩
 exact ⟨T, vals, rfl, htup.imp fun o z => ⟨hk2 T o hTw z.1, z.2⟩, Nat.le_of_ble_eq_true rfl, q.2 ▸ ⟨⟨tt, rfl⟩, lift2 _ _ (lift1 _ _ (x.item 0 v d q.1 rfl)), trivial⟩⟩
noncomputable def AForE (Γ : Gl prog w) (C : Cx) (I : Value) (i : Nat) (ds : List D) (target : Expr) (body orelse : List Stmt) (st : St) (Φ : Fl → St → Prop) : Prop :=
 ∀ (s : Shared) (as : List Addr) (e it t : Addr) (items : Array Value) (R' : Result → Shared → Prop), I = .ref e → Rel Γ C s.heap as st → EOk C s.heap as e it t items i ds →
  (∀ f fl st' as' s', Φ fl st' → Rel Γ C s'.heap as' st' → relF C s'.heap as' fl f → ExtX [e, it] C s.heap as s'.heap as' → Sm s s' → R' (.ok f) s') →
  codeAny (model prog w) C.A (.forLoop target I body orelse C.env) R' s
theorem apart2 {a b c : Addr} (h : a ≠ b) (k : a ≠ c) : a ∉ [b, c] := fun q => (List.mem_cons.mp q).elim h fun q => k (List.mem_singleton.mp q)
theorem AForE_nil {I i target body orelse} {Φ : Fl → St → Prop} (h : AB Γ C orelse st Φ) : AForE Γ C I i [] target body orelse st Φ := by
 intro s as e it t items R' eI R x k
 subst eI
 have W := WalksT.enumerateD (draws_tuple (prog := prog) (w := w) (A := C.A.in1) R.c.hand it t x.ti items) e x.ne (apart2 x.ne x.te.symm) (.head _)
 have hl := x.len
 simp only [List.length_nil, Nat.add_zero] at hl
 refine for_step (W.done s _ _ ⟨hl ▸ x.enum, hl ▸ x.iter, x.tup⟩ fun h' tk hk => ?_)
 replace hk : ∀ a, a ∉ [e, it] → ∀ o, s.heap.get? a = some o → h'.get? a = some o := fun a n o => hk a o n
 obtain ⟨R1, -, x1⟩ := EOk.step (h' := h') R x.hit hk
 refine codeAny_block (h { s with heap := h', toks := tk } as _ _ R1 fun f fl st2 as2 s2 f2 R2 r2 x2 m2 => ?_)
 exact k f fl st2 as2 s2 f2 R2 r2 (x1.trans R1 (x2.x _)) (Sm.trans (b := { s with heap := h', toks := tk }) ⟨rfl, id⟩ m2)
theorem AForE_cons {I i d ds elts kk pp body orelse} {Φ : Fl → St → Prop}
  (h : AAs Γ C (.Tuple elts kk pp) (.tup [.int (i : Nat), d]) st fun st1 => AB Γ C body st1 fun fl st2 => match fl with | .next => AForE Γ C I (i + 1) ds (.Tuple elts kk pp) body orelse st2 Φ | .cont => AForE Γ C I (i + 1) ds (.Tuple elts kk pp) body orelse st2 Φ | .brk => Φ .next st2 | .ret d => Φ (.ret d) st2) :
  AForE Γ C I i (d :: ds) (.Tuple elts kk pp) body orelse st Φ := by
 intro s as e it t items R' eI R x k
 subst eI
 have W := WalksT.enumerateD (draws_tuple (prog := prog) (w := w) (A := C.A.in1) R.c.hand it t x.ti items) e x.ne (apart2 x.ne x.te.symm) (.head _)
 have hl := x.len
 simp only [List.length_cons] at hl
 refine for_step (W.item i s _ _ (hl ▸ Nat.lt_add_of_pos_right (Nat.succ_pos _)) ⟨x.enum, x.iter, x.tup⟩ fun T vals h1 tk hP hT htup hmid hk => ?_)
 refine W.go elts kk pp i T { s with heap := h1, toks := tk } _ _ hmid fun h2 hst2 hk2 => ?_
 refine hide fun G hG => ?_
 obtain ⟨R2, rT, E2, x12⟩ := EOk.turn R x hk hmid.1 hmid.2.1.1 hk2 hst2.1 hst2.2.1 hst2.2.2 hP htup (W.apart i T h1 hmid)
 refine hG (h { s with heap := h2, toks := tk } as (.ref T) _ _ R2 rT fun st3 s3 h3 R3 x3 m3 => ?_)
 refine h3 s3 as _ _ R3 fun f fl st4 as4 s4 h4 R4 r4 x4 m4 => ?_
 have x24 := x3.trans R3 x4
 have X := x12.trans R2 (x24.x [e, it])
 have M : Sm s s4 := Sm.trans (b := { s with heap := h2, toks := tk }) ⟨rfl, id⟩ (m3.trans m4)
 have go : AForE Γ C (.ref e) (i + 1) ds (.Tuple elts kk pp) body orelse st4 Φ → codeAny (model prog w) C.A (.forLoop (.Tuple elts kk pp) (.ref e) body orelse C.env) R' s4 := fun q =>
  q s4 as4 e it t items R' rfl R4 (E2.ext R2 x24) fun f fl st5 as5 s5 f5 R5 r5 x5 m5 => k f fl st5 as5 s5 f5 R5 r5 (X.trans R4 x5) (M.trans m5)
 cases fl with
 | next => simp only [relF] at r4; subst r4; exact go h4
 | cont => simp only [relF] at r4; subst r4; exact go h4
 | brk => simp only [relF] at r4; subst r4; exact k _ .next st4 as4 s4 h4 R4 rfl X M
 | ret d => obtain ⟨v, rfl, rv⟩ := r4; exact k _ (.ret d) st4 as4 s4 h4 R4 ⟨v, rfl, rv⟩ X M
theorem AS_ForEnum {x : Str} {p q pos target arg body orelse} {Φ : Fl → St → Prop} (hn : nmOk x = true) (hk : C.kn.lookup x = some .globalImplicit) (hv : Γ.nv x = some (.type "enumerate")) (hs : noStar [arg] = true)
  (h : AE Γ C arg st fun d st1 => ∃ ds, d = .tup ds ∧ ∀ I, AForE Γ C I 0 ds target body orelse st1 Φ) : AS Γ C (.For target (.Call (.Name x p) [arg] [] q) body orelse pos) st Φ := by
 intro s as Q E R k
 show wpAny _ _ (do
  standAt pos
  let x' ← foldedSetIterable (.Call (.Name x p) [arg] [] q) C.env (← eval (.Call (.Name x p) [arg] [] q) C.env)
  standAt (Expr.pos (.Call (.Name x p) [arg] [] q))
  runOwn (.forLoop target (← holding [x'] (pyIter x')) body orelse C.env) C.env) Q E s
 refine wpAny_bind (wpAny_standAt (wpAny_bind ?_))
 refine Call_Name (back_plain hs) (wpAny_Name (load_global hk hv R ?_) (nmOk_d hn))
 refine PyProof.Rows.callWith_type noStar_plain (args_is (Φ := fun ds st1 => ∃ d, ds = [d] ∧ ∃ dd, d = .tup dd ∧ ∀ I, AForE Γ C I 0 dd target body orelse st1 Φ) (AEs_c (AW.mono h fun d st1 hh => ?_)) R fun vs ds st1 as1 s1 h1 R1 r1 x1 m1 => ?_)
 ·exact ⟨d, rfl, hh⟩
 obtain ⟨d, rfl, dd, rfl, f⟩ := h1
 obtain ⟨v, rfl, a, us, rfl, hT, hb, rr⟩ := RpL.one r1
 have ne := R1.end_new
 refine call_enum_tup hT fun h' he hit hsz hkp => ?_
 have R2 := R1.sub hkp
 have hal : a < s1.heap.objs.size := hT.elim fun o q => Heap.lt_size q.1
 have K1 : Lean1 s1.heap C.X as1 h' C.X as1 := R1.lean (Ext.sub hkp)
 refine wpAny_bind (wpAny_of_eq (folded_no rfl _) (wpAny_bind (wpAny_standAt (wpAny_bind (wpAny_holding (wpAny_pyIter_enum he ?_))))))
 refine wpAny_runOwn ?_
 rw [show C.A.mark none = C.A by cases C.A; simp only [Around.mark, Option.none_or]]
 refine f (.ref (s1.heap.objs.size + 1)) { s1 with heap := h' } as1 (s1.heap.objs.size + 1) s1.heap.objs.size a us _ rfl R2 ⟨⟨_, he⟩, hit, hT.imp fun o q => ⟨hkp a o q.1, q.2⟩, R1.new_none (Heap.get?_none_of_le (Nat.le_succ _)), ne.1, Nat.succ_ne_self _, Nat.ne_of_lt (Nat.lt_succ_of_lt hal), Nat.ne_of_lt hal, (Array.length_toList.symm.trans rr.length).trans (Nat.zero_add _).symm, fun j v d h1 h2 => ?_⟩ fun fl' fl st3 as3 s3 f3 R3 r3 x3 m3 => ?_
 ·obtain ⟨v', hv', rv⟩ := rr.get h2
  rw [Nat.zero_add, ← Array.getElem?_toList] at h1
  exact Option.some.inj (hv'.symm.trans h1) ▸ rv.lift K1
 ·exact k fl' fl st3 as3 s3 f3 R3 r3 (x1.trans R1 (x3.ext hkp fun b hb => (List.mem_cons.mp hb).elim (fun q => q ▸ Heap.get?_none_of_le (Nat.le_succ _)) fun q => List.mem_singleton.mp q ▸ none_end s1.heap)) (m1.trans (Sm.trans (b := { s1 with heap := h' }) ⟨rfl, id⟩ m3))
end
end
section
theorem AForE_weak {Γ : Gl prog w} {C : Cx} {I i ds t b o m' m mu} {Φ : Fl → St → Prop} (s : Sub m' m) (h : AForE Γ C I i ds t b o ⟨m', mu⟩ Φ) : AForE Γ C I i ds t b o ⟨m, mu⟩ Φ := fun sh as e it tt items R' eI R x k => h sh as e it tt items R' eI (R.weak s) x k
theorem AForE_inv {Γ : Gl prog w} {C : Cx} {I : Value} {elts kk pp} {b o : List Stmt} {Φ : Fl → St → Prop} (W : Nat → List D → St → Prop) (turn : ∀ (i : Nat) d r (Φ' : Fl → St → Prop) (W' : St → Prop), (∀ fl st, Φ fl st → Φ' fl st) → (∀ st, W (i + 1) r st → W' st) → ∀ st, W i (d :: r) st → AAs Γ C (.Tuple elts kk pp) (.tup [.int i, d]) st fun st1 => AB Γ C b st1 (Turn Φ' W')) (fin : ∀ i st, W i [] st → AB Γ C o st Φ) : ∀ (ds : List D) (i : Nat) (st : St), W i ds st → AForE Γ C I i ds (.Tuple elts kk pp) b o st Φ
 | [], i, st, h => AForE_nil (fin i st h)
 | d :: r, i, st, h => by
  refine AForE_cons ?_
  intro s as v Q E R rv k
  refine turn i d r _ _ (fun _ _ x => x) (fun _ x => x) st h s as v Q E R rv fun st1 s1 h1 R1 x1 m1 => k st1 s1 (AW.mono h1 fun fl st2 hT => ?_) R1 x1 m1
  cases fl with
  | next => obtain ⟨m', sb, hw⟩ := hT; exact AForE_weak sb (AForE_inv W turn fin r (i + 1) _ hw)
  | cont => obtain ⟨m', sb, hw⟩ := hT; exact AForE_weak sb (AForE_inv W turn fin r (i + 1) _ hw)
  | brk => exact hT
  | ret d => exact hT
noncomputable def ftL : List (List (Nat × Nat)) := [[(40960, 108), (49152, 115), (32768, 45), (24576, 98), (16384, 100), (8192, 99), (4096, 112)], [(256, 114)], [(128, 119)], [(2112, 115), (2048, 83), (64, 120)], [(32, 114)], [(16, 119)], [(1032, 115), (1024, 83), (8, 120)], [(4, 114)], [(2, 119)], [(513, 116), (512, 84), (1, 120)]]
noncomputable def bitD (p : Nat × Nat) : D := .tup [.int (p.1 : Nat), .str [p.2]]
noncomputable def tabD (t : List (Nat × Nat)) : D := .tup (t.map bitD)
noncomputable def ftD : D := .tup (ftL.map tabD)
noncomputable def bitHit (m i : Nat) (p : Nat × Nat) : Bool := if i = 0 then decide (Builtin.bitAnd m 61440 = (p.1 : Int)) else decide (Builtin.bitAnd m p.1 = (p.1 : Int))
noncomputable def pickC (m i : Nat) : List (Nat × Nat) → Nat
 | [] => if i = 0 then 63 else 45
 | p :: r => if bitHit m i p then p.2 else pickC m i r
noncomputable def fileR (m : Nat) : Nat → List (List (Nat × Nat)) → List Nat
 | _, [] => []
 | i, t :: r => pickC m i t :: fileR m (i + 1) r
noncomputable def fileL (m : Nat) : List Nat := fileR m 0 ftL
noncomputable def hexD : List Nat := [48, 49, 50, 51, 52, 53, 54, 55, 56, 57, 97, 98, 99, 100, 101, 102, 65, 66, 67, 68, 69, 70]
structure GDa (Γ : Gl prog w) : Prop where
 ft : Γ.gd "_filemode_table" = some ftD
 hx : Γ.gd "hexdigits" = some (.str hexD)
section
variable {Γ : Gl prog w} {F : Nat → Addr}
noncomputable abbrev fmM (m : Nat) : List (Str × D) := [("mode", .int m), ("perm", .mut 0)]
noncomputable abbrev fmI (m i : Nat) : List (Str × D) := [("mode", .int m), ("perm", .mut 0), ("index", .int (i : Nat))]
noncomputable abbrev chD (pl : List Nat) : List D := pl.map fun c => D.str [c]
inductive FmI (m : Nat) (R : List Nat) : Nat → List D → St → Prop
 | mk (i : Nat) (rs : List (List (Nat × Nat))) (pl : List Nat) (hf : pl ++ fileR m i rs = R) (hl : pl.length + rs.length ≤ 10) : FmI m R i (rs.map tabD) ⟨fmM m, [chD pl]⟩
inductive FmB (m i : Nat) (pl : List Nat) (R : Nat) : List D → St → Prop
 | mk (ts : List (Nat × Nat)) (hp : pickC m i ts = R) : FmB m i pl R (ts.map bitD) ⟨fmI m i, [chD pl]⟩
theorem w_filemode {m : Nat} {C : Cx} (hG : GFs Γ F) (hD : GDa Γ) (hk : C.kn = (fScope 53).names) (hd1 : C.A.depth + 1 ≤ 600) (hd2 : C.A.units + 10 ≤ 5000) :
  AB Γ C (fBody 53) ⟨[("mode", .int m)], []⟩ (Res 0 (.str (fileL m))) := by
 have hGC := hG.toGC
 refine AB_runk (b' := (fBody 53).drop 1) (st' := ⟨fmM m, [chD []]⟩) hGC hk 8 1 [.b true] (fun z k => k) (by with_unfolding_all rfl) (AB_c (AS_ForEnum (by decide +kernel) (by rw [hk]; rfl) (hGC.toGF.bv _ _ rfl) (by rfl) (gE_Glob hk (by decide +kernel) hD.ft ⟨_, rfl, fun I => AForE_inv (FmI m (fileL m)) ?_ ?_ _ _ _ (.mk 0 ftL [] rfl (by decide))⟩)))
 ·intro i d r Φ'O W'O hΦO hO st h
  generalize hr : d :: r = ds at h
  obtain ⟨rs, pl, hf, hl⟩ := h
  cases rs with
  | nil => cases hr
  | cons t rs =>
   cases hr
   rw [fileR] at hf
   have hl2 : (chD pl).length < 1048576 := by rw [List.length_map]; exact Nat.lt_of_le_of_lt (Nat.le_trans (Nat.le_add_right _ _) hl) (by decide)
   have fin : ∀ c mm, c = pickC m i t → Pk (fmM m) mm → Turn Φ'O W'O .next ⟨mm, [chD pl ++ [.str [c]]]⟩ := fun c mm e s => T_go hO (.mk (i + 1) rs (pl ++ [c]) (by rw [e, List.append_assoc]; exact hf) (by rw [List.length_append, Nat.add_assoc, Nat.add_comm [c].length]; exact hl)) s (by rw [show chD (pl ++ [c]) = chD pl ++ [.str [c]] from List.map_append])
   refine AAs_Tuple (ds := [.int i, .tup (t.map bitD)]) (by rfl) (by rfl) (AAsL_c (AAs_Name (gStore hk (by decide +kernel)) (AAsL_c (AAs_Name (gStore hk (by decide +kernel)) (AAsL_n (AB_1 (AS_For (by rfl) (gE_Name (by decide +kernel) rfl ⟨_, rfl, fun I2 => AFor_weak (m' := fmI m i) (Sub_of rfl) (AFor_inv (FmB m i pl (pickC m i t)) ?_ ?_ _ _ (.mk t rfl))⟩))))))))
   ·intro d r Φ' W' hΦ hW st h
    generalize hr : d :: r = ds at h
    obtain ⟨ts, hp⟩ := h
    cases ts with
    | nil => cases hr
    | cons p ts =>
     cases hr
     rw [pickC, bitHit] at hp
     refine AAs_Tuple (ds := [.int (p.1 : Nat), .str [p.2]]) (by rfl) (by rfl) (AAsL_c (AAs_Name (gStore hk (by decide +kernel)) (AAsL_c (AAs_Name (gStore hk (by decide +kernel)) (AAsL_n ?_)))))
     by_cases h0 : i = 0
     ·rw [if_pos h0] at hp
      have fo : FnOk Γ C F 32 [.int (m : Nat)] (.int (Builtin.bitAnd m 61440)) := ⟨1, fn_ifmt hG, hd1, hd2⟩
      by_cases h1 : Builtin.bitAnd m 61440 = (p.1 : Int)
      ·rw [decide_eq_true h1] at hp
       refine AB_evk hGC hk 12 [.b true, .v (.int (Builtin.bitAnd m 61440)), .b true, .l (chD pl), .l (chD pl)] (fun z k => ?_) (T_brk hΦ (fin _ _ hp rfl))
       with_unfolding_all exact k ⟨rfl, hl2⟩ rfl (decide_eq_true h1) fo (decide_eq_true (congrArg Int.ofNat h0))
      ·rw [decide_eq_false h1] at hp
       refine AB_evk hGC hk 12 [.b true, .v (.int (Builtin.bitAnd m 61440)), .b false] (fun z k => ?_) (T_go hW (.mk ts hp) rfl rfl)
       with_unfolding_all exact k (decide_eq_false h1) fo (decide_eq_true (congrArg Int.ofNat h0))
     ·rw [if_neg h0] at hp
      have h0' : ¬ (i : Int) = 0 := fun e => h0 (Int.ofNat.inj e)
      by_cases h1 : Builtin.bitAnd m p.1 = (p.1 : Int)
      ·rw [decide_eq_true h1] at hp
       refine AB_evk hGC hk 12 [.b false, .b true, .l (chD pl), .l (chD pl)] (fun z k => ?_) (T_brk hΦ (fin _ _ hp rfl))
       with_unfolding_all exact k ⟨rfl, hl2⟩ rfl (decide_eq_true h1) (decide_eq_false h0')
      ·rw [decide_eq_false h1] at hp
       refine AB_evk hGC hk 12 [.b false, .b false] (fun z k => ?_) (T_go hW (.mk ts hp) rfl rfl)
       with_unfolding_all exact k (decide_eq_false h1) (decide_eq_false h0')
   ·intro st h
    generalize hr : ([] : List D) = ds at h
    obtain ⟨ts, hp⟩ := h
    cases ts with
    | cons p ts => cases hr
    | nil =>
     rw [pickC] at hp
     by_cases h0 : i = 0
     ·rw [if_pos h0] at hp
      refine AB_evk hGC hk 12 [.b true, .l (chD pl), .l (chD pl)] (fun z k => ?_) (fin _ _ hp rfl)
      with_unfolding_all exact k ⟨rfl, hl2⟩ rfl (decide_eq_true (congrArg Int.ofNat h0))
     ·rw [if_neg h0] at hp
      refine AB_evk hGC hk 12 [.b false, .l (chD pl), .l (chD pl)] (fun z k => ?_) (fin _ _ hp rfl)
      with_unfolding_all exact k ⟨rfl, hl2⟩ rfl (decide_eq_false fun e => h0 (Int.ofNat.inj e))
 ·intro i st h
  generalize hr : ([] : List D) = ds at h
  obtain ⟨rs, pl, hf, hl⟩ := h
  cases rs with
  | cons t rs => cases hr
  | nil =>
   rw [fileR, List.append_nil] at hf
   refine AB_nil (C_next (AB_evk hGC hk 10 [.v (.str (joinL [] (pl.map fun c => [c])))] (fun z k => ?_) ⟨_, rfl, by rw [AE_joinL0, hf]; rfl, rfl⟩))
   with_unfolding_all exact k (fun Φ hΦ => ACall_join rfl (strsD_map _ pl) (by rw [joinSum0]; exact Nat.le_trans (Nat.le_trans (Nat.le_add_right _ _) hl) (by decide)) hΦ)
theorem fn_filemode (hG : GFs Γ F) (hD : GDa Γ) {m : Nat} : Fn Γ 2 (.ref (F 53)) [.int m] (.str (fileL m)) :=
 Fn.of (n := 1) (k := 0) (m' := [("mode", .int m)]) (hG.fs 53 (by decide)) (by decide +kernel) (by rfl) rfl (by intro p hp; simp at hp; subst hp; rfl) fun C hk h1 h2 => w_filemode hG hD hk h1 (by omega)
end
end
section
/-! the rows of lines -/
noncomputable def softT : List Tok := [.free, .lit 61]
noncomputable def softP : List Part := readL softT
noncomputable def framed (ts : List Tok) : List Nat := [40, 63, 115, 58] ++ textT ts ++ [41, 92, 90]
noncomputable def addLast : List (List (List Nat)) → List Nat → List (List (List Nat))
 | [], _ => []
 | [g], x => [g ++ [x]]
 | g :: h :: r, x => g :: addLast (h :: r) x
theorem addLast_snoc (x : List Nat) (g : List (List Nat)) : ∀ pre : List (List (List Nat)), addLast (pre ++ [g]) x = pre ++ [g ++ [x]]
 | [] => rfl
 | [a] => rfl
 | a :: b :: r => by
  have := addLast_snoc x g (b :: r)
  simp only [List.cons_append] at this ⊢
  rw [addLast, this]
noncomputable def grpStep (s : List (List (List Nat)) × Bool) (line : List Nat) : List (List (List Nat)) × Bool := (if s.2 then addLast s.1 line else s.1 ++ [[line]], takesR line softP 0)
noncomputable def groupsL (lines : List (List Nat)) : List (List (List Nat)) := (lines.foldl grpStep ([], false)).1
noncomputable def refsG (n : Nat) : List D := (List.range n).map fun i => D.mut (i + 1)
noncomputable def muG (gs : List (List (List Nat))) : List (List D) := refsG gs.length :: gs.map fun g => g.map D.str
theorem muG_new (gs : List (List (List Nat))) (x : List Nat) : (muG gs ++ [[D.str x]]).set 0 (refsG gs.length ++ [.mut (muG gs).length]) = muG (gs ++ [[x]]) := by
 simp [muG, refsG, List.range_succ]
theorem muG_last (pre : List (List (List Nat))) (g : List (List Nat)) : (muG (pre ++ [g]))[pre.length + 1]? = some (g.map D.str) := by
 simp [muG]
theorem muG_add (pre : List (List (List Nat))) (g : List (List Nat)) (x : List Nat) : (muG (pre ++ [g])).set (pre.length + 1) (g.map D.str ++ [D.str x]) = muG (pre ++ [g ++ [x]]) := by
 simp [muG]
theorem sub_groups (pre : List (List (List Nat))) (g : List (List Nat)) : subD (muG (pre ++ [g])) (.mut 0) (-1) = some (.mut (pre.length + 1)) := by
 show pyIdx (refsG (pre ++ [g]).length) (-1) = _
 rw [pyIdx_last]; simp [refsG, List.range_succ]
theorem fz_groups (gs : List (List (List Nat))) : fz 2 (muG gs) (.mut 0) = .lst (gs.map strsL) := by
 simp only [fz, muG, List.getElem?_cons_zero]
 congr 1
 apply List.ext_getElem?
 intro i
 simp only [List.getElem?_map, refsG, List.getElem?_range]
 by_cases h : i < gs.length
 ·simp [h, fz, strsL]
 ·simp [h]
theorem noMutL_strsL : ∀ gs : List (List (List Nat)), noMutL (gs.map strsL) = true
 | [] => rfl
 | g :: r => by simp only [List.map_cons, noMutL, strsL, noMut, noMutL_str, noMutL_strsL r]; rfl
theorem softP_len : ∀ p ∈ softP, p.2.length ≤ 1000000 := by decide
section
variable {Γ : Gl prog w} {F : Nat → Addr}
noncomputable def gS (lines : List (List Nat)) (go : Bool) : List (Str × D) := [("lines", strsL lines), ("soft", .lst (softP.map partD)), ("groups", .mut 0), ("going", .bool go)]
noncomputable def gSz (gs : List (List (List Nat))) : Nat := gs.length + (gs.map (·.length)).sum
theorem ar4 {a n K : Nat} (h : a + 2 * (n + 1) ≤ K) : a + 1 + 2 * n ≤ K := by
 rw [Nat.add_right_comm]; exact Nat.le_of_succ_le h
theorem ar5 {a n K : Nat} (h : a + 2 * (n + 1) ≤ K) : a + 2 + 2 * n ≤ K := by
 rw [Nat.add_right_comm]; exact h
theorem gSz_add (pre : List (List (List Nat))) (g : List (List Nat)) (x : List Nat) : gSz (pre ++ [g ++ [x]]) = gSz (pre ++ [g]) + 1 := by
 simp only [gSz, List.length_append, List.map_append, List.sum_append, List.map_cons, List.map_nil, List.sum_cons, List.sum_nil, List.length_cons, List.length_nil]; rfl
theorem gSz_new (gs : List (List (List Nat))) (x : List Nat) : gSz (gs ++ [[x]]) = gSz gs + 2 := by
 simp only [gSz, List.length_append, List.map_append, List.sum_append, List.map_cons, List.map_nil, List.sum_cons, List.sum_nil, List.length_cons, List.length_nil]; exact congrArg (· + 1) (Nat.succ_add _ _)
theorem gSz_last (pre : List (List (List Nat))) (g : List (List Nat)) : g.length ≤ gSz (pre ++ [g]) := by
 simp only [gSz, List.length_append, List.map_append, List.sum_append, List.map_cons, List.map_nil, List.sum_cons, List.sum_nil]; exact Nat.le_trans (Nat.le_add_left _ _) (Nat.le_add_left _ _)
inductive GrI (lines : List (List Nat)) : List D → St → Prop
 | mk (rs : List (List Nat)) (gs : List (List (List Nat))) (go : Bool) (hf : (rs.foldl grpStep (gs, go)).1 = groupsL lines) (hg : go = true → gs ≠ []) (hsz : gSz gs + 2 * rs.length ≤ 200000) : GrI lines (rs.map D.str) ⟨gS lines go, muG gs⟩
theorem w_groups {lines : List (List Nat)} {N : Nat} {C : Cx} (hG : GFs Γ F) (hT : Fn Γ N (.ref (F 24)) [.str [42, 61]] (.str (framed softT))) (hk : C.kn = (fScope 65).names) (hl : lines.length ≤ 100000) (hd1 : C.A.depth + (N + 6) ≤ 600) (hd2 : C.A.units + 10 * (N + 6) ≤ 5000) :
  AB Γ C (fBody 65) ⟨[("lines", strsL lines)], []⟩ (Res 2 (.lst ((groupsL lines).map strsL))) := by
 have hGC := hG.toGC
 have hd3 : C.A.depth + 6 ≤ 600 := o_dep hd1 (Nat.le_add_left 6 N)
 have hd4 : C.A.units + 60 ≤ 5000 := o_dep hd2 (Nat.mul_le_mul_left 10 (Nat.le_add_left 6 N))
 have ht : ∀ x, FnOk Γ C F 59 [.lst (softP.map partD), .str x] (.bool (takesR x softP 0)) := fun x => ⟨2, fn_takes hG softP_len, o_dep hd3 (by decide), o_dep hd4 (by decide)⟩
 refine AB_runk (b' := (fBody 65).drop 1) (st' := ⟨[("lines", strsL lines), ("going", .bool false), ("groups", .mut 0), ("soft", .lst (softP.map partD))], [[]]⟩) hGC hk 12 1 [.v (.str (framed softT)), .v (.lst (softP.map partD)), .b true] (fun z k => ?_) (by with_unfolding_all rfl)
  (AB_pk (m' := gS lines false) (mu' := muG []) rfl rfl (AB_c (AS_For (by with_unfolding_all rfl) (gE_Name (by decide +kernel) rfl ⟨_, rfl, fun I => AFor_inv (GrI lines) ?_ ?_ _ _ (.mk lines [] false rfl nofun (Nat.le_trans (Nat.le_of_eq (Nat.zero_add _)) (Nat.mul_le_mul_left 2 hl)))⟩))))
 ·with_unfolding_all exact k ⟨6, fn_read hG (ts := softT) (by decide) (by decide), hd3, hd4⟩ ⟨N, hT, o_dep hd1 (Nat.le_add_right N 6), o_dep hd2 (Nat.mul_le_mul_left 10 (Nat.le_add_right N 6))⟩
 ·intro d r Φ' W' _ hW st h
  generalize hr : d :: r = ds at h
  obtain ⟨rs, gs, go, hf, hg, hsz⟩ := h
  cases rs with
  | nil => cases hr
  | cons x rs =>
   cases hr
   rw [List.length_cons] at hsz
   have hB : ∀ k, k ≤ gSz gs → k < 1048576 := fun k h => Nat.lt_of_le_of_lt (Nat.le_trans h (Nat.le_trans (Nat.le_add_right _ _) hsz)) (by decide)
   refine AAs_Name (gStore hk (by decide +kernel)) ?_
   show AB Γ C (subB (fBody 65) 1) _ _
   cases go with
   | true =>
    obtain ⟨pre, g, rfl⟩ : ∃ pre g, gs = pre ++ [g] := ⟨gs.dropLast, gs.getLast (hg rfl), (List.dropLast_concat_getLast (hg rfl)).symm⟩
    have hf : (rs.foldl grpStep (addLast (pre ++ [g]) x, takesR x softP 0)).1 = groupsL lines := hf
    rw [addLast_snoc] at hf
    have hgl := gSz_last pre g
    refine AB_evk hGC hk 12 [.b true, .v (.mut (pre.length + 1)), .l (g.map D.str), .l (g.map D.str), .v (.bool (takesR x softP 0))] (fun z k => ?_) (T_go hW (.mk rs (pre ++ [g ++ [x]]) (takesR x softP 0) hf (fun _ => List.append_ne_nil_of_right_ne_nil _ (List.cons_ne_nil _ _)) (gSz_add .. ▸ ar4 hsz)) rfl (muG_add pre g x))
    with_unfolding_all exact k (ht x) ⟨muG_last pre g, by rw [List.length_map]; exact hB _ hgl⟩ (muG_last pre g) (sub_groups pre g) rfl
   | false =>
    have hgl : gs.length ≤ gSz gs := Nat.le_add_right _ _
    refine AB_evk hGC hk 12 [.b false, .l (refsG gs.length), .b true, .l (refsG gs.length), .v (.bool (takesR x softP 0))] (fun z k => ?_) (T_go hW (.mk rs (gs ++ [[x]]) (takesR x softP 0) hf (fun _ => List.append_ne_nil_of_right_ne_nil _ (List.cons_ne_nil _ _)) (gSz_new .. ▸ ar5 hsz)) rfl (muG_new gs x))
    with_unfolding_all exact k (ht x) ⟨rfl, by rw [refsG, List.length_map, List.length_range]; exact hB _ hgl⟩ rfl rfl
 ·intro st h
  generalize hr : ([] : List D) = ds at h
  obtain ⟨rs, gs, go, hf, hg, hsz⟩ := h
  cases rs with
  | cons t rs => cases hr
  | nil =>
   rw [← hf]
   exact AB_nil (C_next (AB_evk hGC hk 8 [] (fun z k => k) ⟨_, rfl, fz_groups _, noMutL_strsL _⟩))
theorem fn_groups (hG : GFs Γ F) {lines : List (List Nat)} {N : Nat} (hT : Fn Γ N (.ref (F 24)) [.str [42, 61]] (.str (framed softT))) (hl : lines.length ≤ 100000) : Fn Γ (N + 7) (.ref (F 65)) [strsL lines] (.lst ((groupsL lines).map strsL)) :=
 Fn.of (n := N + 6) (k := 2) (m' := [("lines", strsL lines)]) (hG.fs 65 (by decide)) (by decide +kernel) (by rfl) (by simp only [strsL, noMutL, noMut, noMutL_str]; rfl) (List.forall_mem_cons.mpr ⟨rfl, nofun⟩) fun C hk h1 h2 => w_groups hG hT hk hl h1 h2
end
end
section
open PySem.Builtin PySem.Builtin.Str PySem.StrLaws
/-! the lines of a text -/
noncomputable def lsF (s : Str) (st : LsSt) (i : Nat) : LsSt := if (decide (st.snd ≤ i) && Unicode.isLineBreak (s.cps.getD i 0)) = true then (st.fst.push (st.snd, i, lsNext s i), lsNext s i) else st
theorem lsBody_eq (s : Str) : lsBody s = fun i st => pure (.yield (lsF s st i)) := by
 funext i st
 unfold lsBody lsF
 split <;> rfl
theorem spans_eq (s : Str) : lineSpans s = lsEnd s ((List.range' 0 s.length).foldl (lsF s) (#[], 0)) := by
 rw [ls_eq, lsBody_eq, List.forIn_pure_yield_eq_foldl]; rfl
theorem lines_of (s : Str) : Txt.lines s = (lineSpans s).map fun p => strSub s p.1 p.2.1 := by
 have e : linesOf s = (lineSpans s).map fun p => strSub s p.1 p.2.1 := by
  unfold linesOf lineCuts
  rw [List.map_map]
  apply List.map_congr_left
  intro ⟨i, j, k⟩ _
  rfl
 unfold Txt.lines
 split
 ·rename_i h
  rw [beq_iff_eq] at h
  rw [← e]
  unfold linesOf
  rw [h]
  simp only [List.map_cons, List.map_nil, strSub]
  congr 1
  cases s with
  | mk c => simp [Str.length]
 ·exact e
theorem S_getD (l : List Nat) (i : Nat) : (S l).cps.getD i 0 = l.getD i 0 := by
 simp [S, Array.getD_eq_getD_getElem?, List.getD_eq_getElem?_getD]
theorem S_get? (l : List Nat) (i : Nat) : (S l).cps[i]? = l[i]? := by simp [S]
theorem run_plain (s : Str) : ∀ (m cur : Nat) (st : LsSt), (∀ i, cur ≤ i → i < cur + m → Unicode.isLineBreak (s.cps.getD i 0) = false) → (List.range' cur m).foldl (lsF s) st = st
 | 0, _, _, _ => rfl
 | m + 1, cur, st, h => by
  rw [List.range'_succ, List.foldl_cons]
  have h0 : lsF s st cur = st := by unfold lsF; rw [h cur (Nat.le_refl _) (Nat.lt_add_of_pos_right (Nat.succ_pos _))]; simp
  rw [h0]
  exact run_plain s m (cur + 1) st fun i h1 h2 => h i (Nat.le_of_succ_le h1) (Nat.succ_add_eq_add_succ cur m ▸ h2)
noncomputable def spansL (k : Nat) : Nat → List (List Nat) → List (Nat × Nat × Nat)
 | _, [] => []
 | pos, l :: r => (pos, pos + l.length, pos + l.length + k) :: spansL k (pos + l.length + k) r
theorem run_lines {full e : List Nat} (he : e = [10] ∨ e = [13, 10]) : ∀ (ls : List (List Nat)) (pos : Nat) (acc : Array (Nat × Nat × Nat)), full.drop pos = ls.flatMap (· ++ e) → (∀ l ∈ ls, ∀ c ∈ l, Unicode.isLineBreak c = false) →
  (List.range' pos (ls.flatMap (· ++ e)).length).foldl (lsF (S full)) (acc, pos) = (acc ++ (spansL e.length pos ls).toArray, pos + (ls.flatMap (· ++ e)).length)
 | [], pos, acc, _, _ => by simp [spansL]
 | l :: r, pos, acc, hd, hl => by
  rw [List.flatMap_cons] at hd ⊢
  have hlen : (l ++ e ++ r.flatMap (· ++ e)).length = l.length + e.length + (r.flatMap (· ++ e)).length := by rw [List.length_append, List.length_append]
  rw [hlen, ← List.range'_append_1, ← List.range'_append_1, List.foldl_append, List.foldl_append]
  have hget : ∀ i, full.getD (pos + i) 0 = (l ++ e ++ r.flatMap (· ++ e)).getD i 0 := by
   intro i
   rw [List.getD_eq_getElem?_getD, List.getD_eq_getElem?_getD, ← hd, List.getElem?_drop]
  have rp : (List.range' pos l.length).foldl (lsF (S full)) (acc, pos) = (acc, pos) := by
   refine run_plain _ _ _ _ ?_
   intro i h1 h2
   rw [S_getD, show i = pos + (i - pos) from (Nat.add_sub_cancel' h1).symm, hget]
   have : (l ++ e ++ r.flatMap (· ++ e)).getD (i - pos) 0 = l[i - pos]'(Nat.sub_lt_left_of_lt_add h1 h2) := by
    rw [List.getD_eq_getElem?_getD, List.append_assoc, List.getElem?_append_left (Nat.sub_lt_left_of_lt_add h1 h2), List.getElem?_eq_getElem (Nat.sub_lt_left_of_lt_add h1 h2)]; rfl
   rw [this]
   exact hl l (.head _) _ (List.getElem_mem _)
  have hdr : full.drop (pos + (l.length + e.length)) = r.flatMap (· ++ e) := by
   rw [← List.drop_drop, hd, show l.length + e.length = (l ++ e).length by simp, List.drop_left]
  have h10 : Unicode.isLineBreak 10 = true := by decide
  have h13 : Unicode.isLineBreak 13 = true := by decide
  have step : (List.range' (pos + l.length) e.length).foldl (lsF (S full)) (acc, pos) = (acc.push (pos, pos + l.length, pos + l.length + e.length), pos + l.length + e.length) := by
   rcases he with rfl | rfl
   ·have g0 : full.getD (pos + l.length) 0 = 10 := by rw [hget]; simp
    simp only [List.length_cons, List.length_nil, Nat.zero_add, List.range'_succ, List.range'_zero, List.foldl_cons, List.foldl_nil]
    unfold lsF lsNext
    rw [S_getD, g0]
    simp [h10]
   ·have g0 : full.getD (pos + l.length) 0 = 13 := by rw [hget]; simp
    have g1 : full[pos + l.length + 1]? = some 10 := by
     have := congrArg (·[l.length + 1]?) hd
     simp only [List.getElem?_drop] at this
     rw [show pos + l.length + 1 = pos + (l.length + 1) from rfl, this]
     simp
    simp only [List.length_cons, List.length_nil, Nat.zero_add, List.range'_succ, List.range'_zero, List.foldl_cons, List.foldl_nil]
    have s1 : lsF (S full) (acc, pos) (pos + l.length) = (acc.push (pos, pos + l.length, pos + l.length + 2), pos + l.length + 2) := by
     unfold lsF lsNext
     rw [S_getD, g0, S_get?, g1]
     simp [h13]
    rw [s1]
    unfold lsF
    rw [show decide (pos + l.length + 2 ≤ pos + l.length + 1) = false by simp]
    simp
  rw [rp, step]
  have ih := run_lines he r (pos + l.length + e.length) (acc.push (pos, pos + l.length, pos + l.length + e.length)) (by rw [Nat.add_assoc]; exact hdr) fun l' h' => hl l' (.tail _ h')
  rw [show pos + (l.length + e.length) = pos + l.length + e.length from (Nat.add_assoc _ _ _).symm, ih]
  simp only [spansL, hlen]
  refine Prod.ext ?_ (by simp only [Nat.add_assoc])
  simp
theorem sub_S (l : List Nat) (i j : Nat) : strSub (S l) i j = S ((l.take j).drop i) := by
 unfold strSub S
 congr 1
 apply Array.ext'
 simp [List.extract, List.drop_take]
theorem subs_lines {full e : List Nat} : ∀ (ls : List (List Nat)) (pos : Nat), full.drop pos = ls.flatMap (· ++ e) → (spansL e.length pos ls).map (fun p => strSub (S full) p.1 p.2.1) = ls.map S
 | [], _, _ => rfl
 | l :: r, pos, h => by
  rw [List.flatMap_cons] at h
  simp only [spansL, List.map_cons]
  rw [sub_S, List.drop_take, h, Nat.add_sub_cancel_left, List.append_assoc, List.take_left]
  rw [subs_lines r _ (by rw [Nat.add_assoc, ← List.drop_drop, h, show l.length + e.length = (l ++ e).length by simp, List.drop_left])]
theorem lines_is {ls : List (List Nat)} {e : List Nat} (he : e = [10] ∨ e = [13, 10]) (hl : ∀ l ∈ ls, ∀ c ∈ l, Unicode.isLineBreak c = false) : Txt.lines (S (ls.flatMap (· ++ e))) = ls.map S := by
 rw [lines_of, spans_eq, S_len, run_lines (full := ls.flatMap (· ++ e)) he ls 0 #[] rfl hl]
 unfold lsEnd
 rw [if_neg (by rw [S_len]; simp)]
 simp only [Array.empty_append, List.toList_toArray]
 exact subs_lines ls 0 rfl
end
section
noncomputable def finP (M : Nat) (eol line : List Nat) (start : Nat) : List Nat :=
 match line.getLast? with
 | some c => if c = 32 ∨ c = 9 then (line.take (line.length - 1)).drop start ++ (if line.length + 2 ≤ start + M then quoL c else if line.length + 1 = start + M then c :: 61 :: eol else 61 :: eol ++ quoL c) else line.drop start
 | none => line.drop start
theorem dec_lt {M L s k : Nat} (h : 4 ≤ M ∧ s + M < L) (hk : k < 4) : L - (s + M - k) < L - s :=
 Nat.sub_lt_sub_left (Nat.lt_of_le_of_lt (Nat.le_add_right s M) h.2) (Nat.lt_sub_of_add_lt (Nat.add_lt_add_left (Nat.lt_of_lt_of_le hk h.1) s))
noncomputable def encR (M : Nat) (eol line : List Nat) (start : Nat) : List (List Nat) :=
 if h : 4 ≤ M ∧ start + M < line.length then
  if line.getD (start + M - 3) 0 = 61 then (line.drop start).take (M - 2) :: encR M eol line (start + M - 3)
  else if line.getD (start + M - 2) 0 = 61 then (line.drop start).take (M - 1) :: encR M eol line (start + M - 2)
  else ((line.drop start).take (M - 1) ++ [61]) :: encR M eol line (start + M - 1)
 else [finP M eol line start]
termination_by line.length - start
decreasing_by all_goals exact dec_lt h (by decide)
noncomputable def encB (r : List Nat) : List Nat := r.flatMap bodyL
noncomputable def piecesL (M : Nat) (eol : List Nat) (rows : List (List Nat)) : List (List Nat) := rows.flatMap fun r => encR M eol (encB r) 0
noncomputable def encBody (M : Nat) (eol : List Nat) (rows : List (List Nat)) : List Nat := joinL eol (piecesL M eol rows ++ [[]])
structure GDf (Γ : Gl prog w) (F : Nat → Addr) : Prop where
 f20 : GFn Γ (F 20) 20
 f21 : GFn Γ (F 21) 21
theorem encR_go4 {m s : Nat} {eol line : List Nat} (h : s + (m + 4) < line.length) : encR (m + 4) eol line s =
  if line.getD (s + m + 1) 0 = 61 then (line.drop s).take (m + 2) :: encR (m + 4) eol line (s + m + 1) else if line.getD (s + m + 2) 0 = 61 then (line.drop s).take (m + 3) :: encR (m + 4) eol line (s + m + 2)
  else ((line.drop s).take (m + 3) ++ [61]) :: encR (m + 4) eol line (s + m + 3) := by
 rw [encR, dif_pos ⟨Nat.le_add_left 4 m, h⟩]; rfl
theorem encR_stop {M s : Nat} {e line : List Nat} (h : ¬ s + M < line.length) : encR M e line s = [finP M e line s] := by
 rw [encR, dif_neg fun z => h z.2]
theorem finP_len {m s : Nat} {eol line : List Nat} (hm : m ≤ 96) (he : eol.length ≤ 4) (h : ¬ s + (m + 4) < line.length) : (finP (m + 4) eol line s).length ≤ 112 := by
 have hL : line.length ≤ 100 + s := Nat.add_comm 100 s ▸ Nat.le_trans (Nat.le_of_not_lt h) (Nat.add_le_add_left (Nat.add_le_add_right hm 4) s)
 have h0 : (line.drop s).length ≤ 100 := by rw [List.length_drop]; exact Nat.sub_le_of_le_add hL
 have h1 : ((line.take (line.length - 1)).drop s).length ≤ 100 := by rw [List.length_drop, List.length_take]; exact Nat.sub_le_of_le_add (Nat.le_trans (Nat.min_le_right _ _) hL)
 unfold finP
 split
 ·split
  ·rw [List.length_append]
   refine Nat.add_le_add (b := 100) (d := 12) h1 ?_
   split
   ·exact Nat.le_of_ble_eq_true rfl
   ·split
    ·exact Nat.le_trans (Nat.add_le_add_right he 2) (by decide)
    ·rw [List.length_append]; exact Nat.le_trans (Nat.add_le_add_right (Nat.succ_le_succ he) 3) (by decide)
  ·exact Nat.le_trans h0 (by decide)
 ·exact Nat.le_trans h0 (by decide)
theorem ltA3 {s m k : Nat} (h : 0 < k) : s < s + m + k := Nat.lt_of_le_of_lt (Nat.le_add_right s m) (Nat.lt_add_of_pos_right h)
theorem encR_sz {m : Nat} {eol line : List Nat} (hm : m ≤ 96) (he : eol.length ≤ 4) : ∀ (k s : Nat), line.length - s ≤ k → (encR (m + 4) eol line s).length ≤ k + 1 ∧ ∀ p ∈ encR (m + 4) eol line s, p.length ≤ 112 := by
 intro k
 induction k with
 | zero =>
  intro s h
  have hz := Nat.not_lt.mpr (Nat.le_trans (Nat.sub_eq_zero_iff_le.mp (Nat.le_zero.mp h)) (Nat.le_add_right s (m + 4)))
  rw [encR_stop hz]
  exact ⟨Nat.le_refl 1, fun p hp => List.mem_singleton.mp hp ▸ finP_len hm he hz⟩
 | succ k ih =>
  intro s h
  by_cases hlt : s + (m + 4) < line.length
  ·have go : ∀ (x : List Nat) (s2 : Nat), s < s2 → x.length ≤ 112 → (x :: encR (m + 4) eol line s2).length ≤ k + 1 + 1 ∧ ∀ p ∈ x :: encR (m + 4) eol line s2, p.length ≤ 112 := fun x s2 h2 hx => by
    have := ih s2 (Nat.le_of_lt_succ (Nat.lt_of_lt_of_le (Nat.sub_lt_sub_left (Nat.lt_of_le_of_lt (Nat.le_add_right _ _) hlt) h2) h))
    exact ⟨Nat.succ_le_succ this.1, List.forall_mem_cons.mpr ⟨hx, this.2⟩⟩
   rw [encR_go4 hlt]
   split
   ·exact go _ _ (ltA3 (by decide)) (Nat.le_trans (List.length_take_le ..) (Nat.le_trans (Nat.add_le_add_right hm 2) (by decide)))
   ·split
    ·exact go _ _ (ltA3 (by decide)) (Nat.le_trans (List.length_take_le ..) (Nat.le_trans (Nat.add_le_add_right hm 3) (by decide)))
    ·exact go _ _ (ltA3 (by decide)) (by rw [List.length_append]; exact Nat.le_trans (Nat.add_le_add_right (Nat.le_trans (List.length_take_le ..) (Nat.add_le_add_right hm 3)) 1) (by decide))
  ·rw [encR_stop hlt]
   exact ⟨Nat.le_add_left 1 _, fun p hp => List.mem_singleton.mp hp ▸ finP_len hm he hlt⟩
theorem pieces_sz {m : Nat} {eol : List Nat} (hm : m ≤ 96) (he : eol.length ≤ 4) : ∀ rows : List (List Nat), (piecesL (m + 4) eol rows).length ≤ (rows.map fun r => (encB r).length + 1).sum ∧ (∀ p ∈ piecesL (m + 4) eol rows, p.length ≤ 112) ∧ ∀ l ∈ rows.map encB, l.length ≤ (rows.map fun r => (encB r).length + 1).sum
 | [] => ⟨Nat.le_refl 0, nofun, nofun⟩
 | r :: rows => by
  have h1 := encR_sz (line := encB r) hm he (encB r).length 0 (Nat.le_refl _)
  have h2 := pieces_sz hm he rows
  unfold piecesL
  rw [List.flatMap_cons, List.length_append, List.map_cons, List.sum_cons, List.map_cons]
  exact ⟨Nat.add_le_add h1.1 h2.1, fun p hp => (List.mem_append.mp hp).elim (h1.2 p) (h2.2.1 p), List.forall_mem_cons.mpr ⟨Nat.le_trans (Nat.le_succ _) (Nat.le_add_right _ _), fun l hl => Nat.le_trans (h2.2.2 l hl) (Nat.le_add_left _ _)⟩⟩
theorem sums_le {k : Nat} : ∀ {ls : List (List Nat)}, (∀ p ∈ ls, p.length ≤ k) → (ls.map (·.length)).sum ≤ k * ls.length
 | [], _ => Nat.le_refl 0
 | a :: r, h => by
  rw [List.map_cons, List.sum_cons, List.length_cons, Nat.mul_succ, Nat.add_comm]
  exact Nat.add_le_add (sums_le fun t ht => h t (.tail _ ht)) (h a (.head _))
noncomputable def encS (m : Nat) (eol B : List Nat) : List (Str × D) := [("body", .str B), ("maxlinelen", .int ((m + 4 : Nat) : Int)), ("eol", .str eol), ("soft_break", .str (61 :: eol)), ("maxlinelen1", .int (((m + 4 : Nat) : Int) - 1)), ("encoded_body", .mut 0), ("append", .meth 0)]
noncomputable def forB (i k : Nat) : List Stmt := subB (fBody i) k
inductive EncI (m : Nat) (eol B line : List Nat) (P : List (List Nat)) : Nat → St → Prop
 | mk (start : Nat) (pl : List (List Nat)) (i : Int) (hi : i = start) (hf : pl ++ encR (m + 4) eol line start = P) :
  EncI m eol B line P (line.length - start) ⟨(encS m eol B).append [("line", .str line), ("start", .int i), ("laststart", .int ((line.length : Int) - 1 - ((m + 4 : Nat) : Int)))], [pl.map D.str]⟩
theorem en_t {s k L : Nat} : (s : Int) ≤ (L : Int) - 1 - (k : Int) ↔ s + k < L := Int.add_le_iff_le_sub.symm.trans (Int.le_sub_one_iff.trans Int.ofNat_lt)
theorem en_3 {m : Nat} : ((m + 4 : Nat) : Int) - 1 = ((m + 3 : Nat) : Int) := Int.add_sub_cancel ((m + 3 : Nat) : Int) 1
theorem en_2 {s m : Nat} : (s : Int) + (((m + 4 : Nat) : Int) - 1) - 2 = ((s + m + 1 : Nat) : Int) := by
 rw [en_3]; exact Int.add_sub_cancel ((s + m + 1 : Nat) : Int) 2
theorem en_1 {s m : Nat} : (s : Int) + (((m + 4 : Nat) : Int) - 1) - 1 = ((s + m + 2 : Nat) : Int) := by
 rw [en_3]; exact Int.add_sub_cancel ((s + m + 2 : Nat) : Int) 1
theorem en_0 {s m : Nat} : (s : Int) + (((m + 4 : Nat) : Int) - 1) = ((s + m + 3 : Nat) : Int) := by
 rw [en_3]; rfl
theorem en_r {s L k : Nat} : (s : Int) - ((L : Int) - 1 - (k : Int)) = ((s + k + 1 : Nat) : Int) - L := by omega
theorem en_r3 {s L k : Nat} : (3 : Int) ≤ (s : Int) - ((L : Int) - 1 - (k : Int)) ↔ L + 2 ≤ s + k := by
 rw [en_r, ← Int.add_le_iff_le_sub]
 exact (Int.ofNat_le (m := 3 + L)).trans (by rw [Nat.add_comm 3 L]; exact Nat.succ_le_succ_iff)
theorem en_r2 {s L k : Nat} : (s : Int) - ((L : Int) - 1 - (k : Int)) = 2 ↔ L + 1 = s + k := by
 rw [en_r, Int.sub_eq_iff_eq_add]
 exact (Int.ofNat_inj (n := 2 + L)).trans (by rw [Nat.add_comm 2 L]; exact Nat.succ_inj.trans eq_comm)
theorem sub_at {mu : List (List D)} {l : List Nat} {i : Int} {n : Nat} (e : i = n) (h : n < l.length) : subD mu (.str l) i = some (.str [l.getD n 0]) := by
 rw [e]; exact sub_str (by rw [List.getD_eq_getElem?_getD, List.getElem?_eq_getElem h]; rfl)
theorem slice_at {l : List Nat} {s k : Nat} {i : Int} (e : i = ((s + k : Nat) : Int)) : pySlice l (some (s : Int)) (some i) = (l.drop s).take k := by
 rw [e, slice_d, Nat.add_sub_cancel_left]
section
variable {Γ : Gl prog w} {F : Nat → Addr}
theorem enc_line {m : Nat} {eol B line : List Nat} {pl0 : List (List Nat)} {C : Cx} {Φ : Fl → St → Prop} (hG : GFs Γ F) (hk : C.kn = (fScope 20).names) (hm : m ≤ 96) (he : eol.length ≤ 4) (hl : line.length ≤ 5000)
  (hP : (pl0 ++ encR (m + 4) eol line 0).length ≤ 5000) (hd1 : C.A.depth + 1 ≤ 600) (hd2 : C.A.units + 10 ≤ 5000) (k : ∀ m', Pk (encS m eol B) m' → Φ .next ⟨m', [(pl0 ++ encR (m + 4) eol line 0).map D.str]⟩) :
  AB Γ C (forB 20 7) ⟨(encS m eol B).append [("line", .str line)], [pl0.map D.str]⟩ Φ := by
 have hGC := hG.toGC
 refine AB_runk (b' := (forB 20 7).drop 2) (st' := ⟨(encS m eol B).append [("line", .str line), ("start", .int 0), ("laststart", .int ((line.length : Int) - 1 - ((m + 4 : Nat) : Int)))], [pl0.map D.str]⟩) hGC hk 8 2 [] (fun q k => k) (by with_unfolding_all rfl) (AB_c (AS_While (AC_inv (EncI m eol B line (pl0 ++ encR (m + 4) eol line 0)) ?_ _ _ (.mk 0 pl0 0 rfl rfl))))
 generalize pl0 ++ encR (m + 4) eol line 0 = P at hP k
 clear pl0
 rintro n Φ' W' - hW st ⟨start, pl, _, rfl, hf⟩
 have hb : (pl.map D.str)[0 - 0]? = (pl.map D.str)[0]? := rfl
 have hp : ([pl.map D.str])[0]? = some (pl.map D.str) ∧ (pl.map D.str).length < 1048576 := ⟨rfl, by
  rw [← hf, List.length_append] at hP
  rw [List.length_map]
  exact Nat.lt_of_le_of_lt (Nat.le_trans (Nat.le_add_right _ _) hP) (by decide)⟩
 by_cases hlt : start + (m + 4) < line.length
 ·refine AT_evk hGC hk 8 [.b true] (fun q k => ?_) (by with_unfolding_all rfl) (B_tt ?_)
  ·with_unfolding_all exact k (decide_eq_true (en_t.mpr hlt))
  have hgo : ∀ (s2 : Nat) (x y : List Nat) (i : Int) (m' : List (Str × D)), encR (m + 4) eol line start = x :: encR (m + 4) eol line s2 → start < s2 → i = s2 → y = x →
    Pk ((encS m eol B).append [("line", .str line), ("start", .int i), ("laststart", .int ((line.length : Int) - 1 - ((m + 4 : Nat) : Int)))]) m' → Turn Φ' W' .next ⟨m', [pl.map D.str ++ [.str y]]⟩ := fun s2 x y i m' e1 h1 e2 e3 s =>
   T_go hW ⟨_, Nat.sub_lt_sub_left (Nat.lt_of_le_of_lt (Nat.le_add_right _ _) hlt) h1, .mk s2 (pl ++ [x]) i e2 (by rw [← hf, e1, List.append_assoc]; rfl)⟩ s (by rw [e3, List.map_append]; rfl)
  rw [encR_go4 hlt] at hgo
  have g2 := sub_at (mu := [pl.map D.str]) (l := line) (en_2 (s := start) (m := m)) (Nat.lt_trans (Nat.add_lt_add_left (k := start + m) (show 1 < 4 by decide)) hlt)
  have g1 := sub_at (mu := [pl.map D.str]) (l := line) (en_1 (s := start) (m := m)) (Nat.lt_trans (Nat.add_lt_add_left (k := start + m) (show 2 < 4 by decide)) hlt)
  by_cases h1 : line.getD (start + m + 1) 0 = 61
  ·refine AB_evk hGC hk 12 [.v (.str [line.getD (start + m + 1) 0]), .b true, .l (pl.map D.str)] (fun q k => ?_) (hgo (start + m + 1) _ _ _ _ (if_pos h1) (ltA3 (by decide)) en_2 (slice_at en_1) rfl)
   with_unfolding_all exact k hp (decide_eq_true (by rw [h1])) g2
  ·have h1' : decide ([line.getD (start + m + 1) 0] = [61]) = false := decide_eq_false fun e => h1 (List.cons.inj e).1
   by_cases h2 : line.getD (start + m + 2) 0 = 61
   ·refine AB_evk hGC hk 12 [.v (.str [line.getD (start + m + 1) 0]), .b false, .v (.str [line.getD (start + m + 2) 0]), .b true, .l (pl.map D.str)] (fun q k => ?_) (hgo (start + m + 2) _ _ _ _ ((if_neg h1).trans (if_pos h2)) (ltA3 (by decide)) en_1 (slice_at en_0) rfl)
    with_unfolding_all exact k hp (decide_eq_true (by rw [h2])) g1 h1' g2
   ·refine AB_evk hGC hk 12 [.v (.str [line.getD (start + m + 1) 0]), .b false, .v (.str [line.getD (start + m + 2) 0]), .b false, .l (pl.map D.str)] (fun q k => ?_) (hgo (start + m + 3) _ _ _ _ ((if_neg h1).trans (if_neg h2)) (ltA3 (by decide)) en_0 (congrArg (· ++ [61]) (slice_at en_0)) rfl)
    with_unfolding_all exact k hp (by rw [List.length_append]; exact Nat.le_trans (Nat.add_le_add_right (Nat.le_trans (pySlice_length ..) hl) 1) (by decide)) (decide_eq_false fun e => h2 (List.cons.inj e).1) g1 h1' g2
 ·refine AT_evk hGC hk 8 [.b false] (fun q k => ?_) (by with_unfolding_all rfl) (B_ff (AB_nil (C_next ?_)))
  ·with_unfolding_all exact k (decide_eq_false fun h => hlt (en_t.mp h))
  have hend : ∀ (y : List Nat) (m' : List (Str × D)), y = finP (m + 4) eol line start → Pk (encS m eol B) m' → Φ .next ⟨m', [pl.map D.str ++ [.str y]]⟩ := fun y m' e s => by
   have := k m' s
   rw [← hf, encR_stop hlt, ← e, List.map_append] at this
   exact this
  cases hgl : line.getLast? with
  | none =>
   have hl0 : line = [] := List.getLast?_eq_none_iff.mp hgl
   refine AB_evk hGC hk 12 [.b false, .l (pl.map D.str)] (fun q k => ?_) (hend _ _ (by rw [slice_n, finP, hgl]) rfl)
   with_unfolding_all exact k hp (by rw [hl0]; rfl)
  | some c =>
   have htr : truthyD [pl.map D.str] (.str line) = some true := by
    cases line with
    | nil => cases hgl
    | cons a b => rfl
   have gc := sub_lastS (mu := [pl.map D.str]) hgl
   by_cases h9 : c = 32 ∨ c = 9
   ·have e9 : decide (c ∈ [32, 9]) = true := by rcases h9 with rfl | rfl <;> rfl
    have hq : FnOk Γ C F 16 [.str [c]] (.str (quoL c)) := ⟨1, fn_quote hG (by rcases h9 with rfl | rfl <;> decide), hd1, hd2⟩
    have hfin : finP (m + 4) eol line start = (line.take (line.length - 1)).drop start ++ (if line.length + 2 ≤ start + (m + 4) then quoL c else if line.length + 1 = start + (m + 4) then c :: 61 :: eol else 61 :: eol ++ quoL c) := by rw [finP, hgl]; exact if_pos h9
    have hsz : ∀ x : List Nat, x.length ≤ 8 → (pySlice line (some (start : Int)) (some (-1)) ++ x).length ≤ 1048576 := fun x hx => by
     rw [List.length_append]; exact Nat.le_trans (Nat.add_le_add (Nat.le_trans (pySlice_length ..) hl) hx) (by decide)
    have hz : (61 :: eol ++ quoL c).length ≤ 8 := by rw [List.length_append, List.length_cons]; exact Nat.add_le_add_right (Nat.succ_le_succ he) 3
    by_cases h3 : line.length + 2 ≤ start + (m + 4)
    ·rw [if_pos h3] at hfin
     refine AB_evk hGC hk 14 [.b true, .v (.str [c]), .b true, .b true, .v (.str [c]), .v (.str (quoL c)), .l (pl.map D.str)] (fun q k => ?_) (hend _ _ hfin.symm rfl)
     with_unfolding_all exact k hp (hsz _ (by decide : 3 ≤ 8)) hq gc (decide_eq_true (en_r3.mpr h3)) e9 gc htr
    ·rw [if_neg h3] at hfin
     have h3' := decide_eq_false fun h => h3 (en_r3.mp h)
     by_cases h2 : line.length + 1 = start + (m + 4)
     ·rw [if_pos h2] at hfin
      refine AB_evk hGC hk 14 [.b true, .v (.str [c]), .b true, .b false, .b true, .v (.str [c]), .l (pl.map D.str)] (fun q k => ?_) (hend _ _ hfin.symm rfl)
      with_unfolding_all exact k hp (hsz _ (Nat.le_trans (Nat.succ_le_succ (Nat.succ_le_succ he)) (by decide))) (Nat.le_trans (Nat.succ_le_succ (Nat.succ_le_succ he)) (by decide)) gc (decide_eq_true (en_r2.mpr h2)) h3' e9 gc htr
     ·rw [if_neg h2] at hfin
      refine AB_evk hGC hk 14 [.b true, .v (.str [c]), .b true, .b false, .b false, .v (.str [c]), .v (.str (quoL c)), .l (pl.map D.str)] (fun q k => ?_) (hend _ _ hfin.symm rfl)
      with_unfolding_all exact k hp (hsz _ hz) (Nat.le_trans hz (by decide)) hq gc (decide_eq_false fun h => h2 (en_r2.mp h)) h3' e9 gc htr
   ·have e9 : decide (c ∈ [32, 9]) = false := decide_eq_false fun h => h9 (by simpa using h)
    refine AB_evk hGC hk 12 [.b true, .v (.str [c]), .b false, .l (pl.map D.str)] (fun q k => ?_) (hend _ _ (by rw [slice_n, finP, hgl]; exact (if_neg h9).symm) rfl)
    with_unfolding_all exact k hp e9 gc htr
inductive ForI (m : Nat) (eol B : List Nat) (PL : List (List Nat)) : List D → St → Prop
 | mk (rs pl : List (List Nat)) (hf : pl ++ (rs.flatMap fun l => encR (m + 4) eol l 0) = PL) (hl : ∀ l ∈ rs, l.length ≤ 5000) : ForI m eol B PL (rs.map D.str) ⟨encS m eol B, [pl.map D.str]⟩
theorem w_encode {m : Nat} {eol : List Nat} {rows : List (List Nat)} {C : Cx} (hG : GFs Γ F) (hk : C.kn = (fScope 20).names) (hm : m ≤ 96) (he : eol.length ≤ 4) (hr0 : rows ≠ [])
  (hrb : ∀ r ∈ rows, ∀ c ∈ r, c < 256) (hsz : (rows.map fun r => (encB r).length + 1).sum ≤ 5000) (hln : Txt.lines (S ((rows.map encB).flatMap (· ++ [10]))) = (rows.map encB).map S) (hd1 : C.A.depth + 1 ≤ 600) (hd2 : C.A.units + 10 ≤ 5000) :
  AB Γ C (fBody 20) ⟨[("body", .str (rows.flatMap (· ++ [10]))), ("maxlinelen", .int ((m + 4 : Nat) : Int)), ("eol", .str eol)], []⟩ (Res 0 (.str (encBody (m + 4) eol rows))) := by
 have hGC := hG.toGC
 obtain ⟨z1, z2, z3⟩ := pieces_sz hm he rows
 have hne : rows.flatMap (· ++ [10]) ≠ [] := by
  cases rows with
  | nil => exact absurd rfl hr0
  | cons a r => simp
 have hbd : (rows.flatMap (· ++ [10])).flatMap bodyL = (rows.map encB).flatMap (· ++ [10]) := by
  rw [List.flatMap_assoc, List.flatMap_map]
  congr 1
  funext r
  rw [List.flatMap_append]; rfl
 have hall : ∀ c ∈ rows.flatMap (· ++ [10]), c < 256 := by
  intro c hc
  obtain ⟨r, hr, hc⟩ := List.mem_flatMap.mp hc
  rcases List.mem_append.mp hc with hc | hc
  ·exact hrb r hr c hc
  ·exact List.mem_singleton.mp hc ▸ by decide
 have hlen2 : ((rows.map encB).flatMap (· ++ [10])).length ≤ 5000 := by
  rw [List.length_flatMap, List.map_map]
  refine Nat.le_trans (Nat.le_of_eq ?_) hsz
  congr 1
  apply List.map_congr_left
  intro r _; simp
 have hlast : ((rows.map encB).flatMap (· ++ [10])).getLast? = some 10 := by
  rw [← List.dropLast_concat_getLast hr0]
  simp [List.getLast?_append]
 have htr : truthyD [] (.str (rows.flatMap (· ++ [10]))) = some true := by
  cases h : rows.flatMap (· ++ [10]) with
  | nil => exact absurd h hne
  | cons a r => rfl
 have hll : ∀ l ∈ rows.map encB, l.length ≤ 5000 := fun l hl => Nat.le_trans (z3 l hl) hsz
 have hPL : (piecesL (m + 4) eol rows).length ≤ 5000 := Nat.le_trans z1 hsz
 refine AB_runk (b' := (fBody 20).drop 7) (st' := ⟨encS m eol ((rows.map encB).flatMap (· ++ [10])), [[]]⟩) hGC hk 12 7 [.b false, .b true, .v (.lst ((List.range 256).map fun c => .str (bodyL c))), .v (.str ((rows.map encB).flatMap (· ++ [10]))), .b true] (fun q k => ?_) (by with_unfolding_all rfl) ?_
 ·with_unfolding_all exact k (Nat.le_trans (Nat.succ_le_succ he) (by decide)) (fun Φ hΦ => ACall_translate (l := (List.range 256).map fun c => .str (bodyL c)) (f := bodyL) hne rfl (fun c hc => by rw [List.getElem?_map, List.getElem?_range (hall c hc)]; rfl) (by rw [hbd]; exact Nat.le_trans hlen2 (by decide)) (hbd ▸ hΦ)) hG.bmap htr (decide_eq_false (Int.not_lt.mpr (Int.ofNat_le.mpr (Nat.le_add_left 4 m))))
 generalize hB : (rows.map encB).flatMap (· ++ [10]) = B at hlen2 hlast hln
 have hP : ([] : List (List Nat)) ++ ((rows.map encB).flatMap fun l => encR (m + 4) eol l 0) = piecesL (m + 4) eol rows := by rw [List.flatMap_map]; rfl
 refine AB_c (AS_For (by with_unfolding_all rfl) (AE_evk hGC hk 8 [.v (.lst ((rows.map encB).map D.str))] (fun q k => ?_) (by with_unfolding_all rfl) ⟨_, rfl, fun I => AFor_inv (ForI m eol B (piecesL (m + 4) eol rows)) ?_ ?_ _ _ (.mk (rows.map encB) [] hP hll)⟩))
 ·have e : textsD (Txt.lines (S B)) = (rows.map encB).map D.str := by rw [hln]; simp only [textsD, List.map_map]; rfl
  with_unfolding_all exact k fun Φ hΦ => ACall_splitlines (x := B) (Nat.le_trans (Nat.add_le_add_right hlen2 2) (by decide)) (e ▸ hΦ)
 ·intro d r Φ' W' _ hW st h
  generalize hr : d :: r = ds at h
  obtain ⟨rs, pl, hf, hl⟩ := h
  cases rs with
  | nil => cases hr
  | cons line rs =>
   cases hr
   have hl := List.forall_mem_cons.mp hl
   rw [List.flatMap_cons, ← List.append_assoc] at hf
   exact AAs_Name (gStore hk (by decide +kernel)) (enc_line hG hk hm he hl.1 (by rw [← hf, List.length_append] at hPL; exact Nat.le_trans (Nat.le_add_right _ _) hPL) hd1 hd2 fun m' s => T_go hW (.mk rs _ hf hl.2) s rfl)
 ·intro st h
  generalize hr : ([] : List D) = ds at h
  obtain ⟨rs, pl, hf, hl⟩ := h
  cases rs with
  | cons line rs => cases hr
  | nil =>
   rw [List.flatMap_nil, List.append_nil] at hf
   subst hf
   have hsum : joinSum eol (piecesL (m + 4) eol rows ++ [[]]) ≤ 1048576 := by
    have h1 := sums_le (k := 112) (ls := piecesL (m + 4) eol rows ++ [[]]) (List.forall_mem_append.mpr ⟨z2, fun p hp => List.mem_singleton.mp hp ▸ Nat.zero_le _⟩)
    have h2 : (piecesL (m + 4) eol rows ++ [[]]).length ≤ 5001 := by rw [List.length_append]; exact Nat.succ_le_succ hPL
    exact Nat.le_trans (Nat.add_le_add (Nat.le_trans h1 (Nat.mul_le_mul_left 112 h2)) (Nat.mul_le_mul h2 he)) (by decide)
   refine AB_nil (C_next (AB_evk hGC hk 12 [.v (.str [10]), .v (.str [13, 10]), .b true, .l ((piecesL (m + 4) eol rows).map D.str), .v (.str (encBody (m + 4) eol rows))] (fun q k => ?_) ⟨_, rfl, rfl, rfl⟩))
   with_unfolding_all exact k (fun Φ hΦ => ACall_join (l := (piecesL (m + 4) eol rows ++ [[]]).map D.str) (by rw [List.map_append]; rfl) (strsD_str _) hsum hΦ) ⟨rfl, by rw [List.length_map]; exact Nat.lt_of_le_of_lt hPL (by decide)⟩ rfl hG.crlf (sub_lastS hlast)
theorem fn_encode (hG : GFs Γ F) (hX : GDf Γ F) {M : Nat} {eol : List Nat} {rows : List (List Nat)} (hM : 4 ≤ M) (hM2 : M ≤ 100) (he : eol.length ≤ 4) (hr0 : rows ≠ [])
  (hrb : ∀ r ∈ rows, ∀ c ∈ r, c < 256 ∧ c ≠ 10 ∧ c ≠ 13) (hsz : (rows.map fun r => (encB r).length + 1).sum ≤ 5000) (hln : Txt.lines (S ((rows.map encB).flatMap (· ++ [10]))) = (rows.map encB).map S) :
  Fn Γ 2 (.ref (F 20)) [.str (rows.flatMap (· ++ [10])), .int M, .str eol] (.str (encBody M eol rows)) := by
 obtain ⟨m, rfl⟩ : ∃ m, M = m + 4 := ⟨M - 4, (Nat.sub_add_cancel hM).symm⟩
 exact Fn.of (n := 1) (k := 0) (m' := [("body", .str (rows.flatMap (· ++ [10]))), ("maxlinelen", .int ((m + 4 : Nat) : Int)), ("eol", .str eol)]) hX.f20 (by decide +kernel) (by rfl) rfl (by intro p hp; simp at hp; rcases hp with rfl | rfl | rfl <;> rfl) fun C hk h1 h2 => w_encode hG hk (Nat.le_of_add_le_add_right hM2) he hr0 (fun r hr c hc => (hrb r hr c hc).1) hsz hln h1 h2
end
end
section
/-! decoding -/
noncomputable def decOk : List Nat → Bool
 | [] => true
 | c :: r => if c = 61 then (match r with
   | [] => true
   | [_] => false
   | a :: b :: r2 => (hex2 [a, b]).isSome && decOk r2)
  else decOk r
noncomputable def decR (eol : List Nat) : List Nat → List Nat
 | [] => []
 | c :: r => if c = 61 then (match r with
   | [] => []
   | [_] => []
   | a :: b :: r2 => ((hex2 [a, b]).getD 0).toNat :: (if r2 = [] then eol else decR eol r2))
  else c :: (if r = [] then eol else decR eol r)
noncomputable def decP (eol : List Nat) (line : List Nat) : List Nat := if line = [] then eol else decR eol line
noncomputable def decL (eol : List Nat) (lines : List (List Nat)) : List Nat := lines.flatMap (decP eol)
theorem hex2_all : hexT.all (fun p => p.1.all (fun c => decide (c ∈ hexD)) && decide (0 ≤ p.2 ∧ p.2 < 256)) = true := by decide +kernel
theorem hex2_dig {a b : Nat} (h : (hex2 [a, b]).isSome = true) : a ∈ hexD ∧ b ∈ hexD ∧ ∃ i : Nat, hex2 [a, b] = some (i : Int) ∧ i < 256 := by
 obtain ⟨i, hi⟩ := Option.isSome_iff_exists.mp h
 have m := Bool.and_eq_true_iff.mp (List.all_eq_true.mp hex2_all _ (hex2_mem hi))
 have m1 := List.all_eq_true.mp m.1
 have m2 := of_decide_eq_true m.2
 obtain ⟨k, rfl⟩ := Int.eq_ofNat_of_zero_le m2.1
 exact ⟨of_decide_eq_true (m1 a (.head _)), of_decide_eq_true (m1 b (.tail _ (.head _))), k, hi, Int.ofNat_lt.mp m2.2⟩
theorem decR_ne {eol : List Nat} {c : Nat} {r : List Nat} (h : c ≠ 61) : decR eol (c :: r) = c :: (if r = [] then eol else decR eol r) := by
 rw [decR.eq_def]; exact if_neg h
theorem decOk_ne {c : Nat} {r : List Nat} (h : c ≠ 61) : decOk (c :: r) = decOk r := by
 rw [decOk.eq_def]; exact if_neg h
theorem decR_eq {eol : List Nat} {a b : Nat} {r : List Nat} : decR eol (61 :: a :: b :: r) = ((hex2 [a, b]).getD 0).toNat :: (if r = [] then eol else decR eol r) := if_pos rfl
theorem decOk_eq {a b : Nat} {r : List Nat} : decOk (61 :: a :: b :: r) = ((hex2 [a, b]).isSome && decOk r) := if_pos rfl
theorem decR_len {eol : List Nat} (he : eol.length ≤ 4) : ∀ (n : Nat) (l : List Nat), l.length ≤ n → (decR eol l).length ≤ l.length + 4
 | _, [], _ => Nat.zero_le _
 | n + 1, c :: r, h => by
  have h := Nat.le_of_succ_le_succ h
  have go : ∀ (x : Nat) (q : List Nat), q.length ≤ r.length → (x :: (if q = [] then eol else decR eol q)).length ≤ r.length + 1 + 4 := fun x q hq => by
   rw [List.length_cons, Nat.add_right_comm]
   refine Nat.succ_le_succ ?_
   split
   ·exact Nat.le_trans he (Nat.le_add_left _ _)
   ·exact Nat.le_trans (decR_len he n q (Nat.le_trans hq h)) (Nat.add_le_add_right hq 4)
  by_cases hc : c = 61
  ·subst hc
   match r, go with
   | [], _ => exact Nat.zero_le _
   | [_], _ => exact Nat.zero_le _
   | a :: b :: r2, go => rw [decR_eq]; exact go _ r2 (Nat.le_add_right _ 2)
  ·rw [decR_ne hc]; exact go c r (Nat.le_refl _)
theorem decP_len {eol l : List Nat} (he : eol.length ≤ 4) : (decP eol l).length ≤ l.length + 5 := by
 unfold decP
 split
 ·exact Nat.le_trans he (Nat.le_trans (by decide) (Nat.le_add_left _ _))
 ·exact Nat.le_succ_of_le (decR_len he _ l (Nat.le_refl _))
theorem decL_len {eol : List Nat} (he : eol.length ≤ 4) : ∀ ls : List (List Nat), (decL eol ls).length ≤ (ls.map fun l => l.length + 5).sum
 | [] => Nat.le_refl 0
 | a :: r => by
  unfold decL
  rw [List.flatMap_cons, List.length_append, List.map_cons, List.sum_cons]
  exact Nat.add_le_add (decP_len he) (decL_len he r)
section
variable {Γ : Gl prog w} {F : Nat → Addr} {text eol line T : List Nat} {C : Cx} {Φ : Fl → St → Prop}
noncomputable def dS (text eol acc : List Nat) : List (Str × D) := [("encoded", .str text), ("eol", .str eol), ("decoded", .str acc)]
noncomputable def dI (text eol line acc : List Nat) (i : Int) : List (Str × D) := [("encoded", .str text), ("eol", .str eol), ("decoded", .str acc), ("line", .str line), ("i", .int i), ("n", .int (line.length : Nat))]
inductive DeI (text eol line T : List Nat) : Nat → St → Prop
 | mk (i : Nat) (rest acc : List Nat) (hd : line.drop i = rest) (hl : i + rest.length = line.length) (hf : acc ++ decR eol rest = T) (hok : decOk rest = true) : DeI text eol line T rest.length ⟨dI text eol line acc (i : Nat), []⟩
theorem T_goc {Φ : Fl → St → Prop} {I W : St → Prop} {m mu m' mu'} (hW : ∀ st, I st → W st) (h : I ⟨m', mu'⟩) (s : Pk m' m) (e : mu = mu') : Turn Φ W .cont ⟨m, mu⟩ := show Turn Φ W .next ⟨m, mu⟩ from T_go hW h s e
theorem de_line {acc : List Nat} (hG : GFs Γ F) (hD : GDa Γ) (hk : C.kn = (fScope 21).names) (heol : eol.length ≤ 4) (hst : Txt.rstrip (S line) = S line) (hok : decOk line = true) (hT : (acc ++ decP eol line).length ≤ 100000) (hd1 : C.A.depth + 1 ≤ 600) (hd2 : C.A.units + 10 ≤ 5000)
  (k : ∀ m', Pk (dS text eol (acc ++ decP eol line)) m' → Φ .next ⟨m', []⟩ ∧ Φ .cont ⟨m', []⟩) : AB Γ C (subB (fBody 21) 2) ⟨(dS text eol acc).append [("line", .str line)], []⟩ Φ := by
 have hGC := hG.toGC
 have hrs : ∀ mu, SA Γ C (.builtin "str.rstrip") [.str line] ⟨(dS text eol acc).append [("line", .str line)], mu⟩ (.str line) ⟨(dS text eol acc).append [("line", .str line)], mu⟩ := fun mu Φ hΦ => ACall_rstrip (by rw [hst]; exact hΦ) (by rw [hst, S_len]; exact Nat.le_refl _)
 cases line with
 | nil =>
  refine AB_evk hGC hk 10 [.v (.str []), .b false] (fun z k => ?_) (k _ rfl).2
  with_unfolding_all exact k (Nat.le_trans hT (by decide)) rfl (hrs _)
 | cons c0 r0 =>
  rw [show decP eol (c0 :: r0) = decR eol (c0 :: r0) from if_neg (List.cons_ne_nil _ _)] at hT k
  generalize hline : c0 :: r0 = line at hT k hrs hok
  refine AB_runk (b' := (subB (fBody 21) 2).drop 4) (st' := ⟨dI text eol line acc 0, []⟩) hGC hk 10 4 [.v (.str line), .b true] (fun z k => ?_) (by with_unfolding_all rfl) (AB_1 (AS_While (AC_inv (DeI text eol line (acc ++ decR eol line)) ?_ _ _ (.mk 0 line acc rfl (Nat.zero_add _) rfl hok))))
  ·with_unfolding_all exact k (by rw [← hline]; rfl) (hrs _)
  generalize acc ++ decR eol line = T at hT k
  clear hrs hok hline hst
  rintro n Φ' W' - hW st ⟨i, rest, acc, hd, hl, hf, hok⟩
  cases rest with
  | nil =>
   rw [show decR eol [] = [] from rfl, List.append_nil] at hf
   subst hf
   refine AT_evk hGC hk 8 [.b false] (fun z k => ?_) (by with_unfolding_all rfl) (B_ff (AB_nil (k _ rfl).1))
   with_unfolding_all exact k (decide_eq_false (Int.not_lt.mpr (Int.ofNat_le.mpr (Nat.le_of_eq hl.symm))))
  | cons c r =>
   have hin : i + 1 + r.length = line.length := by rw [← hl, List.length_cons, Nat.add_assoc, Nat.add_comm 1]
   have g : ∀ q, line[i + q]? = (c :: r)[q]? := fun q => by rw [← List.getElem?_drop, hd]
   have hd1' : line.drop (i + 1) = r := by rw [← List.drop_drop, hd]; rfl
   have hb : ∀ x : List Nat, x.length ≤ 10 → (acc ++ x).length ≤ 1048576 := fun x hx => by
    rw [← hf, List.length_append] at hT
    rw [List.length_append]
    exact Nat.le_trans (Nat.add_le_add (Nat.le_trans (Nat.le_add_right _ _) hT) hx) (by decide)
   have hbe : ∀ x : Nat, (acc ++ [x] ++ eol).length ≤ 1048576 := fun x => by rw [List.append_assoc]; exact hb _ (Nat.le_trans (Nat.succ_le_succ heol) (by decide))
   refine AT_evk hGC hk 8 [.b true] (fun z k => ?_) (by with_unfolding_all rfl) (B_tt ?_)
   ·with_unfolding_all exact k (decide_eq_true (Int.ofNat_lt.mpr (by rw [← hl]; exact Nat.lt_add_of_pos_right (Nat.succ_pos _))))
   have hgo : ∀ (i2 : Nat) (r2 acc2 : List Nat) (m : List (Str × D)), line.drop i2 = r2 → i2 + r2.length = line.length → acc2 ++ decR eol r2 = T → decOk r2 = true → r2.length ≤ r.length → Pk (dI text eol line acc2 (i2 : Nat)) m → Turn Φ' W' .next ⟨m, []⟩ := fun i2 r2 acc2 m h1 h2 h3 h4 h5 s =>
    T_go hW ⟨_, Nat.lt_succ_of_le h5, .mk i2 r2 acc2 h1 h2 h3 h4⟩ s rfl
   by_cases h61 : c = 61
   ·subst h61
    match r, hok with
    | [], _ =>
     refine AB_evk hGC hk 12 [.v (.str [61]), .b false, .b true] (fun z k => ?_) (hgo (i + 1) [] acc _ hd1' hin hf rfl (Nat.le_refl _) rfl)
     with_unfolding_all exact k (decide_eq_true (congrArg Int.ofNat hin)) rfl (sub_str (g 0))
    | [_], hok => cases hok
    | a :: b :: r2, hok =>
     rw [decOk_eq, Bool.and_eq_true] at hok
     obtain ⟨ha, hb2, x, hx, hx2⟩ := hex2_dig hok.1
     rw [decR_eq, hx] at hf
     have hl3 : i + 3 + r2.length = line.length := by rw [← hin, List.length_cons, List.length_cons]; exact Nat.add_right_comm (i + 1) 2 r2.length
     have t3 : pySlice line (some (i : Int)) (some ((i : Int) + 3)) = [61, a, b] := by rw [ad3, slice_d, hd, Nat.add_sub_cancel_left]; rfl
     have hu : FnOk Γ C F 15 [.str (pySlice line (some (i : Int)) (some ((i : Int) + 3)))] (.str [x]) := t3 ▸ ⟨1, fn_unquote hG hx hx2, hd1, hd2⟩
     have hd3 : line.drop (i + 3) = r2 := by rw [← List.drop_drop, hd]; rfl
     have hn1 : decide ((i : Int) + 1 = (line.length : Int)) = false := decide_eq_false fun e => by rw [← hin] at e; have := Int.ofNat_inj.mp e; simp at this
     have hn2 : decide ((i : Int) + 2 < (line.length : Int)) = true := decide_eq_true (Int.ofNat_lt.mpr (show i + 2 < line.length by rw [← hl3]; exact Nat.lt_of_lt_of_le (Nat.lt_succ_self _) (Nat.le_add_right _ _)))
     by_cases hr : r2 = []
     ·subst hr
      rw [if_pos rfl] at hf
      refine AB_evk hGC hk 14 [.v (.str [61]), .b false, .b false, .b true, .v (.str [a]), .v (.str hexD), .b true, .v (.str [b]), .v (.str hexD), .b true, .v (.str [x]), .b true] (fun z k => ?_) (hgo (i + 3) [] (acc ++ [x] ++ eol) _ hd3 hl3 (by rw [← hf]; show _ ++ [] = _; rw [List.append_nil, List.append_assoc]; rfl) rfl (Nat.zero_le _) rfl)
      with_unfolding_all exact k (hbe x) (decide_eq_true (congrArg Int.ofNat hl3)) (hb [x] (Nat.le_of_ble_eq_true rfl)) hu (decide_eq_true hb2) hD.hx (sub_str (n := i + 2) (g 2)) (decide_eq_true ha) hD.hx (sub_str (n := i + 1) (g 1)) hn2 hn1 rfl (sub_str (g 0))
     ·rw [if_neg hr] at hf
      refine AB_evk hGC hk 14 [.v (.str [61]), .b false, .b false, .b true, .v (.str [a]), .v (.str hexD), .b true, .v (.str [b]), .v (.str hexD), .b true, .v (.str [x]), .b false] (fun z k => ?_) (hgo (i + 3) r2 (acc ++ [x]) _ hd3 hl3 (by rw [← hf, List.append_assoc]; rfl) hok.2 (Nat.le_add_right _ 2) rfl)
      with_unfolding_all exact k (decide_eq_false fun e => hr (List.eq_nil_of_length_eq_zero (Nat.add_eq_left.mp (hl3.trans (Int.ofNat_inj.mp e).symm)))) (hb [x] (Nat.le_of_ble_eq_true rfl)) hu (decide_eq_true hb2) hD.hx (sub_str (n := i + 2) (g 2)) (decide_eq_true ha) hD.hx (sub_str (n := i + 1) (g 1)) hn2 hn1 rfl (sub_str (g 0))
   ·have h61' : (!decide ([c] = [61])) = true := by rw [decide_eq_false fun e => h61 (List.cons.inj e).1]; rfl
    rw [decR_ne h61] at hf
    rw [decOk_ne h61] at hok
    by_cases hr : r = []
    ·subst hr
     rw [if_pos rfl] at hf
     refine AB_evk hGC hk 12 [.v (.str [c]), .b true, .b true] (fun z k => ?_) (hgo (i + 1) [] (acc ++ [c] ++ eol) _ hd1' hin (by rw [← hf]; show _ ++ [] = _; rw [List.append_nil, List.append_assoc]; rfl) rfl (Nat.le_refl _) rfl)
     with_unfolding_all exact k (hbe c) (decide_eq_true (congrArg Int.ofNat hin)) (hb [c] (Nat.le_of_ble_eq_true rfl)) h61' (sub_str (g 0))
    ·rw [if_neg hr] at hf
     refine AB_evk hGC hk 12 [.v (.str [c]), .b true, .b false] (fun z k => ?_) (hgo (i + 1) r (acc ++ [c]) _ hd1' hin (by rw [← hf, List.append_assoc]; rfl) hok (Nat.le_refl _) rfl)
     with_unfolding_all exact k (decide_eq_false fun e => hr (List.eq_nil_of_length_eq_zero (Nat.add_eq_left.mp (hin.trans (Int.ofNat_inj.mp e).symm)))) (hb [c] (Nat.le_of_ble_eq_true rfl)) h61' (sub_str (g 0))
inductive DfI (text eol T : List Nat) : List D → St → Prop
 | mk (rs : List (List Nat)) (acc : List Nat) (hf : acc ++ decL eol rs = T) (hls : ∀ l ∈ rs, Txt.rstrip (S l) = S l ∧ decOk l = true) : DfI text eol T (rs.map D.str) ⟨dS text eol acc, []⟩
theorem w_decode {lines : List (List Nat)} {e : List Nat} (hG : GFs Γ F) (hD : GDa Γ) (hk : C.kn = (fScope 21).names) (he : e = [10] ∨ e = [13, 10]) (heol : eol.length ≤ 4)
  (hls : ∀ l ∈ lines, Txt.rstrip (S l) = S l ∧ decOk l = true) (hsz : (lines.map fun l => l.length + 5).sum ≤ 100000) (hln : Txt.lines (S (lines.flatMap (· ++ e))) = lines.map S) (hd1 : C.A.depth + 1 ≤ 600) (hd2 : C.A.units + 10 ≤ 5000) :
  AB Γ C (fBody 21) ⟨[("encoded", .str (lines.flatMap (· ++ e))), ("eol", .str eol)], []⟩ (Res 0 (.str (decL eol lines))) := by
 have hGC := hG.toGC
 have hlen : (lines.flatMap (· ++ e)).length ≤ 100000 := by
  have key : ∀ ls : List (List Nat), (ls.flatMap (· ++ e)).length ≤ (ls.map fun l => l.length + 5).sum := by
   intro ls
   induction ls with
   | nil => exact Nat.le_refl 0
   | cons a r ih =>
    rw [List.flatMap_cons, List.length_append, List.length_append, List.map_cons, List.sum_cons]
    exact Nat.add_le_add (Nat.add_le_add_left (by rcases he with rfl | rfl <;> decide) _) ih
  exact Nat.le_trans (key lines) hsz
 have hTL : (decL eol lines).length ≤ 100000 := Nat.le_trans (decL_len heol lines) hsz
 cases hl0 : lines with
 | nil =>
  refine AB_evk hGC hk 8 [.b false] (fun z k => ?_) ⟨_, rfl, rfl, rfl⟩
  with_unfolding_all exact k rfl
 | cons l0 ls0 =>
  rw [← hl0]
  have hlast : (lines.flatMap (· ++ e)).getLast? = some 10 := by
   rw [← List.dropLast_concat_getLast (l := lines) (by rw [hl0]; exact List.cons_ne_nil _ _)]
   rcases he with rfl | rfl <;> simp [List.getLast?_append]
  generalize lines.flatMap (· ++ e) = text at hlast hlen hln
  refine AB_runk (b' := (fBody 21).drop 2) (st' := ⟨dS text eol [], []⟩) hGC hk 8 2 [.b true] (fun z k => ?_) (by with_unfolding_all rfl) ?_
  ·with_unfolding_all exact k (by cases text; cases hlast; rfl)
  refine AB_c (AS_For (by with_unfolding_all rfl) (AE_evk hGC hk 8 [.v (.lst (lines.map D.str))] (fun z k => ?_) (by with_unfolding_all rfl) ⟨_, rfl, fun I => AFor_inv (DfI text eol (decL eol lines)) ?_ ?_ _ _ (.mk lines [] rfl hls)⟩))
  ·have e : textsD (Txt.lines (S text)) = lines.map D.str := by rw [hln]; simp only [textsD, List.map_map]; rfl
   with_unfolding_all exact k fun Φ hΦ => ACall_splitlines (x := text) (Nat.le_trans (Nat.add_le_add_right hlen 2) (by decide)) (e ▸ hΦ)
  ·intro d r Φ' W' _ hW st h
   generalize hr : d :: r = ds at h
   obtain ⟨rs, acc, hf, hls⟩ := h
   cases rs with
   | nil => cases hr
   | cons line rs =>
    cases hr
    have hls := List.forall_mem_cons.mp hls
    have hf : (acc ++ decP eol line) ++ decL eol rs = decL eol lines := (List.append_assoc ..).trans hf
    exact AAs_Name (gStore hk (by decide +kernel)) (de_line hG hD hk heol hls.1.1 hls.1.2 (by rw [← hf, List.length_append] at hTL; exact Nat.le_trans (Nat.le_add_right _ _) hTL) hd1 hd2 fun m' s => ⟨T_go hW (.mk rs _ hf hls.2) s rfl, T_goc hW (.mk rs _ hf hls.2) s rfl⟩)
  ·intro st h
   generalize hr : ([] : List D) = ds at h
   obtain ⟨rs, acc, hf, hls⟩ := h
   cases rs with
   | cons t rs => cases hr
   | nil =>
    rw [show decL eol [] = [] from rfl, List.append_nil] at hf
    subst hf
    refine AB_nil (C_next (AB_evk hGC hk 10 [.v (.str [10]), .b false] (fun z k => ?_) ⟨_, rfl, rfl, rfl⟩))
    with_unfolding_all exact k rfl (sub_lastS hlast)
theorem fn_decode (hG : GFs Γ F) (hX : GDf Γ F) (hD : GDa Γ) {lines : List (List Nat)} {e eol : List Nat} (he : e = [10] ∨ e = [13, 10]) (heol : eol.length ≤ 4)
  (hls : ∀ l ∈ lines, Txt.rstrip (S l) = S l ∧ decOk l = true) (hsz : (lines.map fun l => l.length + 5).sum ≤ 100000) (hln : Txt.lines (S (lines.flatMap (· ++ e))) = lines.map S) :
  Fn Γ 2 (.ref (F 21)) [.str (lines.flatMap (· ++ e)), .str eol] (.str (decL eol lines)) :=
 Fn.of (n := 1) (k := 0) (m' := [("encoded", .str (lines.flatMap (· ++ e))), ("eol", .str eol)]) hX.f21 (by decide +kernel) (by rfl) rfl (by intro p hp; simp at hp; rcases hp with rfl | rfl <;> rfl) fun C hk h1 h2 => w_decode hG hD hk he heol hls hsz hln h1 h2
end
end
section
section
variable {Γ : Gl prog w} {C : Cx} {st : St}
theorem CLoop_in {kn : List (Str × NameKind)} {lim : Nat} {m0 : List (Str × D)} {elt t1 i1 t2 i2 : Expr} {ifs : List Expr} {scope : Scope} {pos : Pos} {ds : List D} {g : D → Option D}
  (h : ∀ d ∈ ds, CTurn Γ kn lim m0 t2 ifs elt d (g d)) (hl : (ds.filterMap g).length = ds.length) : CLoop Γ kn lim m0 (.ListComp elt [⟨t1, i1, [], 0⟩, ⟨t2, i2, ifs, 0⟩] scope pos) 1 ds (ds.filterMap g) := by
 intro C I D0 wr R' s0 as0 acc s st hk hd hu K R e it hn X0 M0 k
 exact comp_loopG (gens := [⟨t1, i1, [], 0⟩, ⟨t2, i2, ifs, 0⟩]) (ip := i2.pos) (fun it acc env => by rfl) hk hd hu K ds acc s st R e it h hn X0 M0 k
theorem compTurn_two (elt t1 i1 t2 i2 : Expr) (ifs : List Expr) (scope : Scope) (pos : Pos) (it acc : Value) (env : Env) :
  compTurn (.ListComp elt [⟨t1, i1, [], 0⟩, ⟨t2, i2, ifs, 0⟩] scope pos) 0 it acc env = (do
   standAt i1.pos
   match ← pyNext it with
   | none => pure (.done .next)
   | some v =>
    letOwnedTupleGo t1 it v
    assign t1 env v
    let x ← eval i2 env
    standAt i2.pos
    let x ← foldedSetIterable i2 env x
    let _ ← runOwn (.compStart (.ListComp elt [⟨t1, i1, [], 0⟩, ⟨t2, i2, ifs, 0⟩] scope pos) 1 (← holding [x] (pyIter x)) acc env) env
    again (.compLoop (.ListComp elt [⟨t1, i1, [], 0⟩, ⟨t2, i2, ifs, 0⟩] scope pos) 0 it acc env)) := by rfl
theorem comp_step_two {elt t1 i1 t2 i2 : Expr} {ifs : List Expr} {scope : Scope} {pos : Pos} {I : Addr} {acc : Value} {A : Around} {env : Env} {s : Shared} {R' : Result → Shared → Prop}
  (h : wpAny (model prog w) A (pyNext (.ref I)) (fun r s₁ => match r with
   | none => R' (.ok .next) s₁
   | some v => wpAny (model prog w) A (letOwnedTupleGo t1 (.ref I) v) (fun _ s₁' => wpAny (model prog w) A (assign t1 env v) (fun _ s₂ =>
     wpAny (model prog w) A (eval i2 env) (fun x s₃ => wpAny (model prog w) A (foldedSetIterable i2 env x) (fun x s₄ => wpAny (model prog w) A (pyIter x) (fun y s₅ =>
      wpAny (model prog w) A (runOwn (.compStart (.ListComp elt [⟨t1, i1, [], 0⟩, ⟨t2, i2, ifs, 0⟩] scope pos) 1 y acc env) env) (fun _ s₆ => codeAny (model prog w) A (.compLoop (.ListComp elt [⟨t1, i1, [], 0⟩, ⟨t2, i2, ifs, 0⟩] scope pos) 0 (.ref I) acc env) R' s₆)
       (notedBy (model prog w) A env fun e s' => R' (.error e) s') s₅) (notedBy (model prog w) A env fun e s' => R' (.error e) s') s₄) (notedBy (model prog w) A env fun e s' => R' (.error e) s') s₃) (notedBy (model prog w) A env fun e s' => R' (.error e) s') s₂) (notedBy (model prog w) A env fun e s' => R' (.error e) s') s₁') (notedBy (model prog w) A env fun e s' => R' (.error e) s') s₁) (notedBy (model prog w) A env fun e s' => R' (.error e) s') s) :
  codeAny (model prog w) A (.compLoop (.ListComp elt [⟨t1, i1, [], 0⟩, ⟨t2, i2, ifs, 0⟩] scope pos) 0 (.ref I) acc env) R' s := by
 refine codeAny_of_tree ?_
 show wpAny _ A ((compTurn (.ListComp elt [⟨t1, i1, [], 0⟩, ⟨t2, i2, ifs, 0⟩] scope pos) 0 (.ref I) acc env).onRaise (fun x => do noteFrame x env; theTreesLotGoes x)) _ _ s
 refine wpAny_noted ?_
 rw [compTurn_two]
 refine wpAny_bind (wpAny_standAt (wpAny_bind (wpAny_mono h (fun r s₁ h₁ => ?_) fun _ _ h' => h')))
 cases r with
 | none => exact wpAny_pure h₁
 | some v =>
  refine wpAny_bind (wpAny_mono h₁ (fun _ s₁' h₁' => ?_) fun _ _ h' => h')
  refine wpAny_bind (wpAny_mono h₁' (fun _ s₂ h₂ => ?_) fun _ _ h' => h')
  refine wpAny_bind (wpAny_mono h₂ (fun x s₃ h₃ => ?_) fun _ _ h' => h')
  refine wpAny_bind (wpAny_standAt (wpAny_bind (wpAny_mono h₃ (fun x s₄ h₄ => ?_) fun _ _ h' => h')))
  refine wpAny_bind (wpAny_holding (wpAny_mono h₄ (fun y s₅ h₅ => ?_) fun _ _ h' => h'))
  exact wpAny_bind (wpAny_mono h₅ (fun _ s₆ h₆ => wpAny_pure ⟨rfl, h₆⟩) fun _ _ h' => h')
theorem compStart_one {elt t1 i1 t2 i2 : Expr} {ifs : List Expr} {scope : Scope} {pos : Pos} {it acc : Value} {A : Around} {env : Env} {s : Shared} {R : Result → Shared → Prop}
  (h0 : codeAny (model prog w) A (.compLoop (.ListComp elt [⟨t1, i1, [], 0⟩, ⟨t2, i2, ifs, 0⟩] scope pos) 1 it acc env) R s)
  (h : wpAny (model prog w) A (pyIter it) (fun it' s' => codeAny (model prog w) A (.compLoop (.ListComp elt [⟨t1, i1, [], 0⟩, ⟨t2, i2, ifs, 0⟩] scope pos) 1 it' acc env) R s')
   (notedBy (model prog w) A env fun x s' => R (.error x) s') s) :
  codeAny (model prog w) A (.compStart (.ListComp elt [⟨t1, i1, [], 0⟩, ⟨t2, i2, ifs, 0⟩] scope pos) 1 it acc env) R s := by
 refine codeAny_of_tree ?_
 show wpAny _ _ ((compStart (.ListComp elt [⟨t1, i1, [], 0⟩, ⟨t2, i2, ifs, 0⟩] scope pos) 1 it acc env).onRaise (fun x => do noteFrame x env; standAt theWindowsPlace)) _ _ s
 refine wpAny_notedAt ?_
 unfold compStart
 show wpAny _ _ (ask >>= _) _ _ s
 refine wpAny_bind (wpAny_askSetting (wpAny_ite ?_))
 split
 ·first
   | exact wpAny_bind (wpAny_pure (wpAny_pure (And.intro rfl h0)))
   | exact wpAny_pure (And.intro rfl h0)
 ·first
   | exact wpAny_bind (wpAny_rule (wpAny_bind (wpAny_standAt (wpAny_bind (wpAny_mono h (fun it' s' h' => wpAny_pure (And.intro rfl h')) fun _ _ x => x)))))
   | (refine wpAny_bind (wpAny_rule ?_); show wpAny _ _ (standAt i2.pos >>= _) _ _ s; exact wpAny_bind (wpAny_standAt (wpAny_bind (wpAny_mono h (fun it' s' h' => wpAny_pure (And.intro rfl h')) fun _ _ x => x))))
noncomputable def COut (Γ : Gl prog w) (kn : List (Str × NameKind)) (lim : Nat) (m0 : List (Str × D)) (t1 i2 e : Expr) (d : D) (r : List D) : Prop :=
 ∀ (C : Cx) (acc : List D), C.kn = kn → C.A.depth + lim ≤ 600 → C.A.units + 10 * lim ≤ 5000 →
  AAs Γ C t1 d ⟨m0, [acc]⟩ fun st1 => AE Γ C i2 st1 fun d2 st2 => st2.mu = [acc] ∧ ∃ ds2, iterD d2 = some ds2 ∧ CLoop Γ kn lim m0 e 1 ds2 r
theorem comp_loop_out {elt t1 i1 t2 i2 : Expr} {ifs : List Expr} {scope : Scope} {pos : Pos} {I D0 : Addr} {wr : List Addr} {kn : List (Str × NameKind)} {lim : Nat} {m0 : List (Str × D)} {f : D → List D} (hset : noSet i2 = true) (hkn : C.kn = kn) (hdep : C.A.depth + lim ≤ 600) (hun : C.A.units + 10 * lim ≤ 5000) (K : Closed C m0)
  {R' : Result → Shared → Prop} {s0 : Shared} {as0 : List Addr} : ∀ (ds acc : List D) (s : Shared) (st : St), Rel Γ C s.heap [D0] st → st.mu = [acc] → ItOk Γ C s.heap [D0] I wr ds → (∀ d ∈ ds, COut Γ kn lim m0 t1 i2 (.ListComp elt [⟨t1, i1, [], 0⟩, ⟨t2, i2, ifs, 0⟩] scope pos) d (f d)) → acc.length + (ds.flatMap f).length ≤ 1048576 →
   ExtX wr C s0.heap as0 s.heap [D0] → Sm s0 s →
   (∀ s' st', Rel Γ C s'.heap [D0] st' → st'.mu = [acc ++ ds.flatMap f] → ExtX wr C s0.heap as0 s'.heap [D0] → Sm s0 s' → R' (.ok .next) s') →
   codeAny (model prog w) C.A (.compLoop (.ListComp elt [⟨t1, i1, [], 0⟩, ⟨t2, i2, ifs, 0⟩] scope pos) 0 (.ref I) (.ref D0) C.env) R' s
 | [], acc, s, st, R, e, it, _, _, X0, M0, k => by
  refine comp_step_two (next_end R it fun s1 R1 _ x1 m1 => ?_)
  exact k s1 st R1 (by simpa using e) (X0.trans R x1) (M0.trans m1)
 | d :: ds, acc, s, st, R, e, it, hg, hn, X0, M0, k => by
  have Rr := R.reset K
  rw [e] at Rr
  rw [List.flatMap_cons, List.length_append] at hn
  refine comp_step_two (next_item Rr it fun v s1 r1 it1 R1 x1 m1 => ?_)
  refine letGo_no it1.head ?_
  have T := hg d (.head _) C acc hkn hdep hun
  refine T s1 [D0] v _ _ R1 r1 fun st2 s2 h2 R2 x2 m2 => ?_
  refine h2 s2 [D0] _ _ R2 ?_
  intro v3 d3 st3 as3 s3 h3 R3' r3' x3' m3
  have hmu := h3.1
  have ha := mu_fix R3' hmu x3'
  have R3 : Rel Γ C s3.heap [D0] st3 := ha ▸ R3'
  have r3 : Rp s3.heap C.X [D0] d3 v3 := ha ▸ r3'
  have x3 : Ext C s2.heap [D0] s3.heap [D0] := ha ▸ x3'
  refine hide fun GG hGG => ?_
  obtain ⟨ds2, hds2, hloop⟩ := h3.2
  refine hGG (wpAny_of_eq (folded_no hset v3) (iter_is R3 r3 hds2 fun I2 wr2 s4 it4 R4 k4 n4 m4 => ?_))
  clear hGG
  refine wpAny_runOwn ?_
  rw [show C.A.mark none = C.A by cases C.A; simp only [Around.mark, Option.none_or]]
  have main : ∀ (R2' : Result → Shared → Prop), (∀ s' st', Rel Γ C s'.heap [D0] st' → st'.mu = [acc ++ f d] → ExtX wr2 C s4.heap [D0] s'.heap [D0] → Sm s4 s' → R2' (.ok .next) s') →
    codeAny (model prog w) C.A (.compLoop (.ListComp elt [⟨t1, i1, [], 0⟩, ⟨t2, i2, ifs, 0⟩] scope pos) 1 (.ref I2) (.ref D0) C.env) R2' s4 := fun R2' kk =>
   hloop C I2 D0 wr2 R2' s4 [D0] acc s4 st3 hkn hdep hun K R4 hmu it4 (Nat.le_trans (Nat.add_le_add_left (Nat.le_add_right _ _) _) hn) ((Ext.refl C s4.heap [D0]).x wr2) (Sm.refl _) kk
  have nxt : ∀ s' st', Rel Γ C s'.heap [D0] st' → st'.mu = [acc ++ f d] → ExtX wr2 C s4.heap [D0] s'.heap [D0] → Sm s4 s' → codeAny (model prog w) C.A (.compLoop (.ListComp elt [⟨t1, i1, [], 0⟩, ⟨t2, i2, ifs, 0⟩] scope pos) 0 (.ref I) (.ref D0) C.env) R' s' := by
   intro s5 st5 R5 e5 x5 m5
   have X35 : Ext C s3.heap [D0] s5.heap [D0] := x5.ext k4 n4
   have X15 := (x2.trans R2 x3).trans R3 X35
   refine comp_loop_out hset hkn hdep hun K ds (acc ++ f d) s5 st5 R5 e5 (it1.ext R1 X15) (fun d hd => hg d (.tail _ hd)) (by rw [List.length_append, Nat.add_assoc]; exact hn) (X0.trans R (x1.trans R1 (X15.x wr))) (M0.trans (m1.trans (m2.trans (m3.trans (m4.trans m5))))) fun s' st' R' e' x' m' => ?_
   exact k s' st' R' (by rw [e', List.flatMap_cons, List.append_assoc]) x' m'
  exact compStart_one (main _ nxt) (it4.elim fun _ z => z.elim fun _ z => z.elim fun i z => z.elim fun _ z => z.elim fun _ B => B.w.self i _ _ _ B.here (main _ nxt))
theorem CLoop_out {elt t1 i1 t2 i2 : Expr} {ifs : List Expr} {scope : Scope} {pos : Pos} {kn : List (Str × NameKind)} {lim : Nat} {m0 : List (Str × D)} {f : D → List D} {ds : List D} (hset : noSet i2 = true) (h : ∀ d ∈ ds, COut Γ kn lim m0 t1 i2 (.ListComp elt [⟨t1, i1, [], 0⟩, ⟨t2, i2, ifs, 0⟩] scope pos) d (f d)) :
  CLoop Γ kn lim m0 (.ListComp elt [⟨t1, i1, [], 0⟩, ⟨t2, i2, ifs, 0⟩] scope pos) 0 ds (ds.flatMap f) := by
 intro C I D0 wr R' s0 as0 acc s st hk hd hu K R e it hn X0 M0 k
 exact comp_loop_out hset hk hd hu K ds acc s st R e it h hn X0 M0 k
theorem AE_ListComp2 {elt target iter : Expr} {gs : List Comprehension} {scope : Scope} {pos : Pos} {kn : List (Str × NameKind)} {lim : Nat} {m0 : List (Str × D)} {Φ : D → St → Prop}
  (hkind : scope.kind = .function) (hok : compOk C.kn scope kn m0 = true) (hset : noSet iter = true) (hdep : C.A.depth + lim ≤ 600) (hun : C.A.units + 10 * lim ≤ 5000)
  (h : AE Γ C iter st fun d st1 => ∃ ds0 ds res, iterH st1.mu d = some ds0 ∧ ds = ds0.map (hd 4) ∧ res.length ≤ 1048576 ∧ (∀ p ∈ m0, st1.m.lookup p.1 = some p.2) ∧ CLoop Γ kn lim m0 (.ListComp elt (⟨target, iter, [], 0⟩ :: gs) scope pos) 0 ds res ∧ noMutL res = true ∧ Φ (.lst res) st1) :
  AE Γ C (.ListComp elt (⟨target, iter, [], 0⟩ :: gs) scope pos) st Φ := by
 intro s as Q E R k
 rw [eval_ListComp]
 refine comp_coreG (use := none) (Ψ := fun rs st1 => Φ (.lst rs) st1) hkind hok hset hdep hun h R ?_
 intro rs st1 as1 s' D0 L hΨ R1 r1 x1 m1 ⟨m, hm⟩ hL1 hL2 hL3
 refine ⟨m, hm, fun h' hs => ?_⟩
 have S := R1.skip ⟨m, hm⟩ hL1 hL3 hs
 refine k _ (.lst rs) st1 as1 { s' with heap := h' } hΨ S.1 (S.2 _ _ r1) ⟨fun a o e n1 n2 n3 n4 => (hs.2 a (by rintro rfl; rw [hL2] at e; cases e)).trans (x1.keep a o e n1 n2 n3 n4), x1.pre, x1.fresh⟩ ⟨m1.os, m1.gens⟩
end
end
section
/-! the run -/
noncomputable def wrOf (g : List (List Nat)) : List Nat := (g.dropLast.map List.dropLast).flatten ++ g.getLastD []
noncomputable def pickL (G : List (List (List Nat))) (items : List (Option (Bool × List Nat))) (j : Nat) : List (List Nat) := (List.range j).flatMap fun k => if meantL (wrOf (G.getD k [])) items then G.getD k [] else []
noncomputable def dueL (G : List (List (List Nat))) (rows : List (List Nat)) (mark : List Nat) (items : List (Option (Bool × List Nat))) (j : Nat) : List Nat := (List.range j).flatMap fun k => if meantL (wrOf (G.getD k [])) items then rows.getD k [] ++ mark else []
structure RunOk (rows : List (List Nat)) (G : List (List (List Nat))) (room : Nat) (e mark : List Nat) (items : List (Option (Bool × List Nat))) (pts : List Tok) : Prop where
 hrows : rows.length = 3
 hrow : ∀ r ∈ rows, r ≠ [] ∧ r.length ≤ 100 ∧ ∀ c ∈ r, c < 256 ∧ c ≠ 10 ∧ c ≠ 13
 hG : G = rows.map (linesL room)
 room1 : 4 ≤ room
 room2 : room ≤ 100
 he : e = [10] ∨ e = [13, 10]
 hmark : mark.length ≤ 4
 hne : ∀ g ∈ G, g ≠ []
 hlow : G.all lows = true
 hlines : (G.flatten.map fun l => l.length + 5).sum ≤ 1000
 esz : (rows.map fun r => (encB r).length + 1).sum ≤ 5000
 eln : Txt.lines (S ((rows.map encB).flatMap (· ++ [10]))) = (rows.map encB).map S
 enc : encBody room e rows = G.flatten.flatMap (· ++ e)
 split : Txt.split (S (G.flatten.flatMap (· ++ e))) (S e) = (G.flatten ++ [[]]).map S
 split2 : (Builtin.Str.partsBetween (S (G.flatten.flatMap (· ++ e))) (Builtin.Str.occurrences (S (G.flatten.flatMap (· ++ e))) (S e) 0 (G.flatten.flatMap (· ++ e)).length ((G.flatten.flatMap (· ++ e)).length + 1)) e.length).length ≤ 1048576
 grp : groupsL G.flatten = G
 ptsOk : toksOk pts ([], (runK, [])) = true
 ptsLen : (textT pts).length ≤ 1000
 ptsPart : ∀ p ∈ readL pts, p.2.length ≤ 1000000
 same : ∀ g ∈ G, takesR (wrOf g) (readL pts) 0 = meantL (wrOf g) items
 decl : ∀ l ∈ G.flatten, Txt.rstrip (S l) = S l ∧ decOk l = true
 dln : Txt.lines (S ((pickL G items 3).flatMap (· ++ e))) = (pickL G items 3).map S
 dec : decL mark (pickL G items 3) = dueL G rows mark items 3
theorem strssD_L {mu : List (List D)} : ∀ G : List (List (List Nat)), strssD mu (G.map strsL) = some G
 | [] => rfl
 | g :: r => by
  have : (itemsD mu (strsL g)).bind strsD = some g := strsD_str g
  simp only [List.map_cons, strssD, this, strssD_L r]; rfl
theorem hd_strsL (G : List (List (List Nat))) : (G.map strsL).map (hd 4) = G.map strsL := by
 rw [List.map_map]
 apply List.map_congr_left
 intro g _
 simp only [Function.comp, strsL, hd]
 congr 1
 rw [List.map_map]; rfl
theorem map_str (f : List Nat → List Nat) (g : List (List Nat)) : g.map (fun s => D.str (f s)) = (g.map f).map D.str := by rw [List.map_map]; rfl
theorem flatMap_flat {α β : Type} (f : α → List β) (l : List α) : (l.map f).flatten = l.flatMap f := by rw [List.flatMap_def]
theorem flat_e_len {e : List Nat} (he : e.length ≤ 2) : ∀ ls : List (List Nat), (ls.flatMap (· ++ e)).length ≤ (ls.map fun l => l.length + 5).sum
 | [] => by simp
 | a :: r => by simp only [List.flatMap_cons, List.length_append, List.map_cons, List.sum_cons]; exact Nat.add_le_add (Nat.add_le_add_left (Nat.le_trans he (by decide)) _) (flat_e_len he r)
theorem mem_len : ∀ {ls : List (List Nat)} {l : List Nat}, l ∈ ls → l.length + 5 ≤ (ls.map fun l => l.length + 5).sum
 | a :: r, l, h => by
  simp only [List.map_cons, List.sum_cons]
  rcases List.mem_cons.mp h with rfl | h
  ·exact Nat.le_add_right _ _
  ·exact Nat.le_trans (mem_len h) (Nat.le_add_left _ _)
theorem mem_flat (e : List Nat) : ∀ {ls : List (List Nat)} {l : List Nat}, l ∈ ls → l.length ≤ (ls.flatMap (· ++ e)).length
 | a :: r, l, h => by
  simp only [List.flatMap_cons, List.length_append]
  rcases List.mem_cons.mp h with rfl | h
  ·exact Nat.le_trans (Nat.le_add_right _ _) (Nat.le_add_right _ _)
  ·exact Nat.le_trans (mem_flat e h) (Nat.le_add_left _ _)
theorem wrOf_len (g : List (List Nat)) : (wrOf g).length ≤ (g.map fun l => l.length + 5).sum := by
 have h1 : ∀ l : List (List Nat), ((l.map List.dropLast).flatten).length ≤ (l.map fun l => l.length + 5).sum := by
  intro l
  induction l with
  | nil => simp
  | cons a r ih => simp only [List.map_cons, List.flatten_cons, List.length_append, List.sum_cons, List.length_dropLast]; exact Nat.add_le_add (Nat.le_trans (Nat.sub_le _ _) (Nat.le_add_right _ _)) ih
 cases hg : g with
 | nil => simp [wrOf]
 | cons a r =>
  rw [← hg]
  have hne : g ≠ [] := by rw [hg]; simp
  have := List.dropLast_concat_getLast hne
  have h2 := h1 g.dropLast
  have h3 : (g.map fun l => l.length + 5).sum = (g.dropLast.map fun l => l.length + 5).sum + (g.getLast hne).length + 5 := by
   conv => lhs; rw [← this]
   rw [List.map_append, List.sum_append]
   exact (Nat.add_assoc _ _ 5).symm
  have h4 : g.getLastD [] = g.getLast hne := by rw [List.getLastD_eq_getLast?, List.getLast?_eq_some_getLast hne]; rfl
  unfold wrOf
  rw [List.length_append, h4, h3]; exact Nat.le_trans (Nat.add_le_add_right h2 _) (Nat.le_add_right _ 5)
theorem grp_len : ∀ {G : List (List (List Nat))} {g : List (List Nat)}, g ∈ G → (g.map fun l => l.length + 5).sum ≤ (G.flatten.map fun l => l.length + 5).sum
 | a :: r, g, h => by
  simp only [List.flatten_cons, List.map_append, List.sum_append]
  rcases List.mem_cons.mp h with rfl | h
  ·exact Nat.le_add_right _ _
  ·exact Nat.le_trans (grp_len h) (Nat.le_add_left _ _)
theorem slice_l1 {l : List (List Nat)} (h : l ≠ []) : pySlice (l.map D.str) (some (-1)) none = [l.getLastD []].map D.str := by
 have e := List.dropLast_concat_getLast h
 have h4 : l.getLastD [] = l.getLast h := by rw [List.getLastD_eq_getLast?, List.getLast?_eq_some_getLast h]; rfl
 conv => lhs; rw [← e]
 rw [List.map_append, h4]
 exact slice_from (k := 0) rfl
theorem pick_succ (G : List (List (List Nat))) (items : List (Option (Bool × List Nat))) (j : Nat) : pickL G items (j + 1) = pickL G items j ++ (if meantL (wrOf (G.getD j [])) items then G.getD j [] else []) := by
 simp [pickL, List.range_succ]
theorem due_succ (G : List (List (List Nat))) (rows : List (List Nat)) (mark : List Nat) (items : List (Option (Bool × List Nat))) (j : Nat) : dueL G rows mark items (j + 1) = dueL G rows mark items j ++ (if meantL (wrOf (G.getD j [])) items then rows.getD j [] ++ mark else []) := by
 simp [dueL, List.range_succ]
theorem pick_mem (G : List (List (List Nat))) (items : List (Option (Bool × List Nat))) (j : Nat) : ∀ l ∈ pickL G items j, l ∈ G.flatten := by
 intro l hl
 obtain ⟨k, hk, hl⟩ := List.mem_flatMap.mp hl
 split at hl
 ·rw [List.getD_eq_getElem?_getD] at hl
  cases h : G[k]? with
  | none => rw [h] at hl; simp at hl
  | some g => rw [h] at hl; exact List.mem_flatten.mpr ⟨g, List.mem_of_getElem? h, hl⟩
 ·simp at hl
theorem pick_sum (G : List (List (List Nat))) (items : List (Option (Bool × List Nat))) : ∀ j, ((pickL G items j).map fun l => l.length + 5).sum ≤ j * (G.flatten.map fun l => l.length + 5).sum
 | 0 => by simp [pickL]
 | j + 1 => by
  rw [pick_succ, List.map_append, List.sum_append, Nat.add_mul, Nat.one_mul]
  refine Nat.add_le_add (pick_sum G items j) ?_
  split
  ·rw [List.getD_eq_getElem?_getD]
   cases h : G[j]? with
   | none => simp
   | some g => exact grp_len (List.mem_of_getElem? h)
  ·simp
theorem cnt_len : ∀ ls : List (List Nat), ls.length * 5 ≤ (ls.map fun l => l.length + 5).sum
 | [] => by simp
 | a :: r => by simp only [List.map_cons, List.sum_cons, List.length_cons]; rw [Nat.succ_mul, Nat.add_comm]; exact Nat.add_le_add (Nat.le_add_left 5 _) (cnt_len r)
noncomputable def twoF (e : List Nat) : D → List D
 | .lst l => l.filterMap (onStr fun s => .str (s ++ e))
 | _ => []
theorem two_flat (e : List Nat) : ∀ G : List (List (List Nat)), (G.map strsL).flatMap (twoF e) = (G.flatten.map (· ++ e)).map D.str
 | [] => rfl
 | g :: r => by
  rw [List.map_cons, List.flatMap_cons, two_flat e r, List.flatten_cons, List.map_append, List.map_append]
  congr 1
  show (g.map D.str).filterMap (onStr fun s => .str (s ++ e)) = _
  rw [filterMap_onStr, map_str]
theorem flat_app (x : List Nat) (l : List (List Nat)) : (l.map (· ++ x)).flatten = l.flatMap (· ++ x) := flatMap_flat _ l
section
variable {Γ : Gl prog w} {F : Nat → Addr} {rows : List (List Nat)} {G : List (List (List Nat))} {room N : Nat} {e mark pat : List Nat} {items : List (Option (Bool × List Nat))} {pts : List Tok} {C : Cx}
theorem SA_join {m : List (Str × D)} {x : List Nat} {l : List (List Nat)} (e : x = l.flatten) (h : x.length ≤ 1048576) : SA Γ C (.builtin "str.join") [.str [], .lst (l.map D.str)] ⟨m, []⟩ (.str x) ⟨m, []⟩ := fun Φ hΦ => by
 subst e
 exact ACall_join (l := l.map D.str) rfl (strsD_str _) (by rw [joinSum0L]; exact h) (by rw [joinL0]; exact hΦ)
theorem CT_app {kn : List (Str × NameKind)} {m0 : List (Str × D)} {x y : Str} {p q r pos : Pos} {s z : List Nat} (hs : storable kn x = true) (h1 : nmOk x = true) (h2 : nmOk y = true) (l1 : (upd m0 x (.str s)).lookup x = some (.str s)) (l2 : (upd m0 x (.str s)).lookup y = some (.str z)) (h : (s ++ z).length ≤ 1048576) :
  CTurn Γ kn 1 m0 (.Name x p) [] (.BinOp (.Name x q) .Add (.Name y r) pos) (.str s) (some (.str (s ++ z))) := CT_ev hs fun C acc hk _ _ => AE_BinOp (gE_Name h1 l1 (gE_Name h2 l2 (op_add_str ⟨rfl, rfl, rfl⟩ h)))
noncomputable def rS (rows : List (List Nat)) (pat : List Nat) (items : List (Option (Bool × List Nat))) (room : Nat) (e mark : List Nat) : List (Str × D) := [("rows", strsL rows), ("asked", .tup [.str pat, .lst (items.map itemD)]), ("room", .int room), ("end", .str e), ("mark", .str mark)]
noncomputable def rS2 (rows : List (List Nat)) (e mark : List Nat) (G : List (List (List Nat))) (items : List (Option (Bool × List Nat))) (pts : List Tok) (j : Nat) : List (Str × D) := [("rows", strsL rows), ("end", .str e), ("mark", .str mark), ("groups", .lst (G.map strsL)), ("items", .lst (items.map itemD)), ("parts", .lst ((readL pts).map partD)), ("picked", .str ((pickL G items j).flatMap (· ++ e))), ("due", .str (dueL G rows mark items j))]
theorem due_len (hr : ∀ r ∈ rows, r.length ≤ 100) (hm : mark.length ≤ 4) (G : List (List (List Nat))) (items : List (Option (Bool × List Nat))) : ∀ j, (dueL G rows mark items j).length ≤ j * 104
 | 0 => Nat.le_refl 0
 | j + 1 => by
  rw [due_succ, List.length_append, Nat.succ_mul]
  refine Nat.add_le_add (due_len hr hm G items j) ?_
  split
  ·rw [List.length_append, List.getD_eq_getElem?_getD]
   refine Nat.add_le_add ?_ hm
   cases h : rows[j]? with
   | none => exact Nat.zero_le _
   | some r => exact hr r (List.mem_of_getElem? h)
  ·exact Nat.zero_le _
theorem run_turn {j : Nat} {Φ : Fl → St → Prop} (hG : GFs Γ F) (hk : C.kn = (fScope 66).names) (ok : RunOk rows G room e mark items pts) (hj : j < 3) (hel : e.length ≤ 2) (hd1 : C.A.depth + 7 ≤ 600) (hd2 : C.A.units + 70 ≤ 5000) (k : ∀ m', Pk (rS2 rows e mark G items pts (j + 1)) m' → Φ .next ⟨m', []⟩) :
  AB Γ C (subB (fBody 66) 7) ⟨(rS2 rows e mark G items pts j).append [("k", .int (j : Nat))], []⟩ Φ := by
 have hGC := hG.toGC
 have hgl : G.length = 3 := by rw [ok.hG, List.length_map, ok.hrows]
 have hjG : G[j]? = some (G.getD j []) := by rw [List.getD_eq_getElem?_getD, List.getElem?_eq_getElem (show j < G.length from hgl ▸ hj)]; rfl
 have hjR : rows[j]? = some (rows.getD j []) := by rw [List.getD_eq_getElem?_getD, List.getElem?_eq_getElem (show j < rows.length from ok.hrows ▸ hj)]; rfl
 have hgG := List.mem_of_getElem? hjG
 have hsum := Nat.le_trans (pick_sum G items j) (Nat.mul_le_mul (Nat.le_of_lt hj) ok.hlines)
 have hpl := Nat.le_trans (flat_e_len hel (pickL G items j)) hsum
 have hdl := Nat.le_trans (due_len (fun r hr => (ok.hrow r hr).2.1) ok.hmark G items j) (Nat.mul_le_mul_right 104 (Nat.le_of_lt hj))
 have hrj := (ok.hrow _ (List.mem_of_getElem? hjR)).2.1
 have hgne := ok.hne _ hgG
 have hsame := ok.same _ hgG
 have hgs := Nat.le_trans (grp_len hgG) ok.hlines
 have hgj : ∀ mu, subD mu (.lst (G.map strsL)) (j : Int) = some (.lst ((G.getD j []).map D.str)) := fun mu => sub_map hjG
 have hrj2 : ∀ mu, subD mu (strsL rows) (j : Int) = some (.str (rows.getD j [])) := fun mu => sub_map hjR
 have hps := pick_succ G items j
 have hds := due_succ G rows mark items j
 unfold rS2 at k
 rw [hps, hds, List.flatMap_append] at k
 generalize G.getD j [] = g at hgne hsame hgs hgj k
 generalize rows.getD j [] = row at hrj hrj2 k
 clear hjG hjR hgG hps hds
 have hwl := Nat.le_trans (wrOf_len g) hgs
 have hge := Nat.le_trans (flat_e_len hel g) hgs
 have hgc : g.length ≤ 1000 := Nat.le_trans (Nat.le_mul_of_pos_right _ (by decide)) (Nat.le_trans (cnt_len g) hgs)
 have hwr : wrOf g = ((g.dropLast.map List.dropLast) ++ [g.getLastD []]).flatten := by simp [wrOf]
 have hcut : pySlice (g.map D.str) none (some (-1)) = g.dropLast.map D.str := (slice_m1 _).trans (List.map_dropLast ..).symm
 refine AB_runk (b' := (subB (fBody 66) 7).drop 3) (st' := ⟨(rS2 rows e mark G items pts j).append [("k", .int (j : Nat)), ("writing", .str (wrOf g)), ("meant", .bool (meantL (wrOf g) items))], []⟩) hGC hk 14 3
  [.v (.lst ((g.dropLast.map List.dropLast).map D.str)), .v (.lst (g.map D.str)), .v (.lst ((g.dropLast.map List.dropLast ++ [g.getLastD []]).map D.str)), .v (.str (wrOf g)), .v (.bool (meantL (wrOf g) items)), .v (.bool (meantL (wrOf g) items)), .b false, .b false] (fun z k => ?_) (by with_unfolding_all rfl) ?_
 ·with_unfolding_all refine k rfl (fun st Φ k => cmp_isnot_bool (by rw [beq_self_eq_true]; exact k)) ⟨2, hsame ▸ fn_takes hG ok.ptsPart, o_dep hd1 (by decide), o_dep hd2 (by decide)⟩ ⟨6, fn_meant hG (Nat.le_trans hwl (by decide)), o_dep hd1 (by decide), o_dep hd2 (by decide)⟩ (SA_join hwr (Nat.le_trans hwl (by decide))) (fun st Φ k => ?_) (hgj _) (fun Φ hΦ => ?_)
  ·rw [slice_l1 hgne]
   exact op_add_list (l1 := (g.dropLast.map List.dropLast).map D.str) (l2 := [g.getLastD []].map D.str) rfl rfl (by rw [← List.map_append, List.length_map, List.length_append, List.length_map, List.length_dropLast]; exact Nat.le_trans (Nat.add_le_add_right (Nat.le_trans (Nat.sub_le _ _) hgc) 1) (by decide)) (by rw [← List.map_append]; exact k)
  ·refine AE_CompS (lim := 1) (m0 := []) (kn := [(".0", .local), ("line", .local)]) (fun s => .str s.dropLast) (by rfl) (by rw [hk]; with_unfolding_all rfl) (by rfl) (o_dep hd1 (by decide)) (o_dep hd2 (by decide)) (AE_evk hGC hk 10 [.v (.lst (g.map D.str))] (fun z k => ?_) (by with_unfolding_all rfl) ⟨g.dropLast, by rw [hcut]; rfl, by rw [List.length_dropLast]; exact Nat.le_trans (Nat.le_trans (Nat.sub_le _ _) hgc) (by decide), nofun, fun s hs => CT_ev (by decide +kernel) fun C' acc hk' _ _ => AE_evk hGC hk' 8 [] (fun z k => k) (by with_unfolding_all rfl) ⟨by rw [slice_m1], rfl, rfl⟩, by rw [map_str]; exact noMutL_str _, by rw [map_str]; exact hΦ⟩)
   with_unfolding_all exact k (hgj _)
 cases hm : meantL (wrOf g) items with
 | false =>
  rw [hm] at k
  refine AB_evk hGC hk 8 [.b false] (fun z k => ?_) (k _ (by rw [if_neg Bool.false_ne_true, if_neg Bool.false_ne_true, List.flatMap_nil, List.append_nil, List.append_nil]; rfl))
  with_unfolding_all exact k rfl
 | true =>
  rw [hm] at k
  refine AB_evk hGC hk 12 [.b true, .v (.lst ((g.map (· ++ e)).map D.str)), .v (.str (g.flatMap (· ++ e))), .v (.str row)] (fun z k => ?_) (k _ (by rw [if_pos rfl, if_pos rfl]; rfl))
  with_unfolding_all refine k (by rw [List.length_append, List.length_append]; exact Nat.le_trans (Nat.add_le_add hdl (Nat.add_le_add hrj ok.hmark)) (by decide)) (by rw [List.length_append]; exact Nat.le_trans (Nat.add_le_add hrj ok.hmark) (by decide)) (hrj2 _) (by rw [List.length_append]; exact Nat.le_trans (Nat.add_le_add hpl hge) (by decide)) (SA_join (flat_app e g).symm (Nat.le_trans hge (by decide))) (fun Φ hΦ => ?_) rfl
  refine AE_CompS (lim := 1) (m0 := [("end", .str e)]) (kn := [(".0", .local), ("line", .local)]) (fun s => .str (s ++ e)) (by rfl) (by rw [hk]; with_unfolding_all rfl) (by rfl) (o_dep hd1 (by decide)) (o_dep hd2 (by decide)) (AE_evk hGC hk 10 [.v (.lst (g.map D.str))] (fun z k => ?_) (by with_unfolding_all rfl) ⟨g, rfl, Nat.le_trans hgc (by decide), List.forall_mem_cons.mpr ⟨rfl, nofun⟩, fun s hs => CT_app (by decide +kernel) (by decide +kernel) (by decide +kernel) rfl rfl (by
   rw [List.length_append]; exact Nat.le_trans (Nat.add_le_add (Nat.le_trans (Nat.le_trans (Nat.le_add_right _ 5) (mem_len hs)) hgs) hel) (by decide)), by rw [map_str]; exact noMutL_str _, by rw [map_str]; exact hΦ⟩)
  with_unfolding_all exact k (hgj _)
inductive RunI (rows : List (List Nat)) (e mark : List Nat) (G : List (List (List Nat))) (items : List (Option (Bool × List Nat))) (pts : List Tok) : List D → St → Prop
 | mk (j n : Nat) (hj : j + n = 3) : RunI rows e mark G items pts ((List.range' j n).map fun i : Nat => D.int (i : Int)) ⟨rS2 rows e mark G items pts j, []⟩
theorem w_run (hG : GFs Γ F) (hX : GDf Γ F) (hD : GDa Γ) (hT : Fn Γ N (.ref (F 24)) [.str [42, 61]] (.str (framed softT))) (hP : Fn Γ N (.ref (F 24)) [.str pat] (.str (framed pts)))
  (ok : RunOk rows G room e mark items pts) (hk : C.kn = (fScope 66).names) (hd1 : C.A.depth + (N + 7) ≤ 600) (hd2 : C.A.units + 10 * (N + 7) ≤ 5000) :
  AB Γ C (fBody 66) ⟨rS rows pat items room e mark, []⟩ (Res 0 (.bool true)) := by
 have hGC := hG.toGC
 have hel : e.length ≤ 2 := by rcases ok.he with rfl | rfl <;> decide
 have hene : e ≠ [] := by rcases ok.he with rfl | rfl <;> exact List.cons_ne_nil _ _
 have hd3 : C.A.depth + 7 ≤ 600 := o_dep hd1 (Nat.le_add_left 7 N)
 have hd4 : C.A.units + 70 ≤ 5000 := o_dep hd2 (Nat.mul_le_mul_left 10 (Nat.le_add_left 7 N))
 have hrl3 : rows.length ≤ 1048576 := ok.hrows ▸ by decide
 have hr0 : rows ≠ [] := fun q => by have := ok.hrows; rw [q] at this; cases this
 have hrows : rows.map (fun s => strsL (linesL room s)) = G.map strsL := by rw [ok.hG, List.map_map]; rfl
 refine AB_c (AS_CompS (lim := 6) (m0 := [("room", .int room)]) (kn := [(".0", .local), ("row", .local), ("_law_lines", .globalImplicit)]) (fun s => strsL (linesL room s)) (gStore hk (by decide +kernel)) (by rfl) (by rw [hk]; with_unfolding_all rfl) (by rfl) (o_dep hd3 (by decide)) (o_dep hd4 (by decide)) (gE_Name (by decide +kernel) rfl
  ⟨rows, rfl, hrl3, List.forall_mem_cons.mpr ⟨rfl, nofun⟩, fun s hs => CT_ev (by decide +kernel) fun C' acc hk' h1 h2 => AE_evk hGC hk' 8 [.v (strsL (linesL room s))] (fun z k => ?_) (by with_unfolding_all rfl) ⟨rfl, by rw [strsL, noMut]; exact noMutL_str _, rfl⟩, by rw [hrows]; exact noMutL_strsL G, ?_⟩))
 ·obtain ⟨q1, q2, q3⟩ := ok.hrow s hs
  with_unfolding_all exact k ⟨6, fn_lines hG (fun c hc => (q3 c hc).1) q1 (Nat.le_trans q2 (by decide)) ok.room1 (Nat.le_trans ok.room2 (by decide)), h1, h2⟩
 rw [hrows]
 have hjl : (rows.flatMap (· ++ [10])).length ≤ 1048576 := by
  have := flat_len (k := 101) (ls := rows.map (· ++ [10])) fun t ht => by
   obtain ⟨r, hr, rfl⟩ := List.mem_map.mp ht
   rw [List.length_append]; exact Nat.add_le_add_right (ok.hrow r hr).2.1 1
  rw [List.length_map, ok.hrows, flat_app] at this
  exact Nat.le_trans this (by decide)
 have henc : FnOk Γ C F 20 [.str (rows.flatMap (· ++ [10])), .int (room : Int), .str e] (.str (G.flatten.flatMap (· ++ e))) := ⟨2, ok.enc ▸ fn_encode hG hX ok.room1 ok.room2 (Nat.le_trans hel (by decide)) hr0 (fun r hr => (ok.hrow r hr).2.2) ok.esz ok.eln, o_dep hd3 (by decide), o_dep hd4 (by decide)⟩
 have hLl : ∀ l ∈ G.flatten, l.length ≤ 1000 := fun l hl => Nat.le_trans (Nat.le_trans (Nat.le_add_right _ 5) (mem_len hl)) ok.hlines
 have hLe : (G.flatten.flatMap (· ++ e)).length ≤ 1000 := Nat.le_trans (flat_e_len hel G.flatten) ok.hlines
 have hLc : G.flatten.length ≤ 1000 := Nat.le_trans (Nat.le_mul_of_pos_right _ (by decide)) (Nat.le_trans (cnt_len G.flatten) ok.hlines)
 have htx : textsD (Txt.split (S (G.flatten.flatMap (· ++ e))) (S e)) = (G.flatten ++ [([] : List Nat)]).map D.str := by rw [ok.split]; simp only [textsD, List.map_map]; rfl
 have hsl : pySlice ((G.flatten ++ [([] : List Nat)]).map D.str) none (some (-1)) = G.flatten.map D.str := by rw [slice_m1, List.map_append]; exact List.dropLast_concat
 have hgr : FnOk Γ C F 65 [.lst (pySlice ((G.flatten ++ [([] : List Nat)]).map D.str) none (some (-1)))] (.lst (G.map strsL)) := by
  have := fn_groups (lines := G.flatten) hG hT (Nat.le_trans hLc (by decide))
  rw [ok.grp] at this
  rw [hsl]; exact ⟨N + 7, this, hd1, hd2⟩
 refine AB_runk (st' := ⟨(rS rows pat items room e mark).append [("told", .lst (G.map strsL)), ("sent", .str (G.flatten.flatMap (· ++ e))), ("groups", .lst (G.map strsL))], []⟩) (b' := (fBody 66).drop 5) hGC hk 14 4
  [.v (.lst ((rows.map (· ++ [10])).map D.str)), .v (.str (rows.flatMap (· ++ [10]))), .v (.str (G.flatten.flatMap (· ++ e))), .v (.lst ((G.flatten.map (· ++ e)).map D.str)), .v (.str (G.flatten.flatMap (· ++ e))), .b false, .v (.lst ((G.flatten ++ [([] : List Nat)]).map D.str)), .v (.lst (G.map strsL)), .b false, .b false] (fun z k => ?_) (by with_unfolding_all rfl) ?_
 ·with_unfolding_all refine k rfl (fun st Φ k => cmp_ne_strss (l1 := G.map strsL) (l2 := G.map strsL) rfl rfl (strssD_L G) (strssD_L G) ok.hlow ok.hlow (by rw [decide_eq_true rfl]; exact k)) hgr (fun Φ hΦ => ACall_split1 (Nat.le_trans (Nat.add_le_add_right hLe 2) (by decide)) hene ok.split2 ?_ (htx ▸ hΦ)) (by rw [decide_eq_true rfl]; rfl) (SA_join (flat_app e G.flatten).symm (Nat.le_trans hLe (by decide))) (fun Φ hΦ => ?_) henc (SA_join (flat_app [10] rows).symm hjl) fun Φ hΦ => ?_
  ·rw [ok.split]
   intro a ha
   obtain ⟨l, hl, rfl⟩ := List.mem_map.mp ha
   rw [S_len]
   rcases List.mem_append.mp hl with hl | hl
   ·exact mem_flat e hl
   ·exact List.mem_singleton.mp hl ▸ Nat.zero_le _
  ·refine AE_ListComp2 (lim := 1) (m0 := [("end", .str e)]) (kn := [(".0", .local), ("lines", .local), ("line", .local)]) (by rfl) (by rw [hk]; with_unfolding_all rfl) (by rfl) (o_dep hd3 (by decide)) (o_dep hd4 (by decide)) (gE_Name (by decide +kernel) rfl ⟨G.map strsL, G.map strsL, (G.map strsL).flatMap (twoF e), rfl, (hd_strsL G).symm, by rw [two_flat, List.length_map, List.length_map]; exact Nat.le_trans hLc (by decide), List.forall_mem_cons.mpr ⟨rfl, nofun⟩, CLoop_out (by rfl) fun d hd => ?_, by rw [two_flat]; exact noMutL_str _, by rw [two_flat]; exact hΦ⟩)
   obtain ⟨g, hg, rfl⟩ := List.mem_map.mp hd
   intro C' acc hk' hd1' hd2'
   refine AAs_Name (by rw [hk']; decide +kernel) (gE_Name (by decide +kernel) rfl ⟨rfl, g.map D.str, rfl, CLoop_in (g := onStr fun s => .str (s ++ e)) ?_ (by rw [filterMap_onStr, List.length_map, List.length_map])⟩)
   intro d hd
   obtain ⟨l, hl, rfl⟩ := List.mem_map.mp hd
   exact CT_app (by decide +kernel) (by decide +kernel) (by decide +kernel) rfl rfl (by rw [List.length_append]; exact Nat.le_trans (Nat.add_le_add (hLl l (List.mem_flatten.mpr ⟨g, hg, hl⟩)) hel) (by decide))
  ·refine AE_CompS (lim := 1) (m0 := []) (kn := [(".0", .local), ("row", .local)]) (fun s => .str (s ++ [10])) (by rfl) (by rw [hk]; with_unfolding_all rfl) (by rfl) (o_dep hd3 (by decide)) (o_dep hd4 (by decide)) (gE_Name (by decide +kernel) rfl ⟨rows, rfl, hrl3, nofun, fun s hs => CT_ev (by decide +kernel) fun C' acc hk' _ _ => AE_evk hGC hk' 8 [] (fun z k => ?_) (by with_unfolding_all rfl) ⟨rfl, rfl, rfl⟩, by rw [map_str]; exact noMutL_str _, by rw [map_str]; exact hΦ⟩)
   with_unfolding_all exact k (by rw [List.length_append]; exact Nat.le_trans (Nat.add_le_add_right (ok.hrow s hs).2.1 1) (by decide))
 refine AB_c (AS_AssignUn (by rfl) (by rfl) (gE_Name (by decide +kernel) rfl ⟨_, rfl, rfl, AAsL_c (AAs_Name (gStore hk (by decide +kernel)) (AAsL_c (AAs_Name (gStore hk (by decide +kernel)) (AAsL_n (C_next ?_)))))⟩))
 refine AB_runk (b := (fBody 66).drop 6) (b' := (fBody 66).drop 7) (st' := ⟨(rS rows pat items room e mark).append [("told", .lst (G.map strsL)), ("sent", .str (G.flatten.flatMap (· ++ e))), ("groups", .lst (G.map strsL)), ("pattern", .str pat), ("items", .lst (items.map itemD)), ("due", .str []), ("picked", .str []), ("parts", .lst ((readL pts).map partD))], []⟩) hGC hk 12 1 [.v (.str (framed pts)), .v (.lst ((readL pts).map partD))] (fun z k => ?_) (by with_unfolding_all rfl) (AB_pk (m' := rS2 rows e mark G items pts 0) rfl rfl (AB_c (AS_ForR (by rfl) (AE_evk hGC hk 8 [.v (.rng 0 3 1)] (fun z k => ?_) (by with_unfolding_all rfl) ⟨_, _, _, rfl, by decide, fun I => ?_⟩))))
 ·with_unfolding_all exact k ⟨6, fn_read hG ok.ptsOk ok.ptsLen, o_dep hd3 (by decide), o_dep hd4 (by decide)⟩ ⟨N, hP, o_dep hd1 (Nat.le_add_right N 7), o_dep hd2 (Nat.mul_le_mul_left 10 (Nat.le_add_right N 7))⟩
 ·with_unfolding_all exact k fun Φ hΦ => ACall_range1 hΦ
 rw [show rngD 0 3 1 = (List.range' 0 3).map fun i : Nat => D.int (i : Int) from by rfl]
 refine AFor_inv (RunI rows e mark G items pts) ?_ ?_ _ _ (.mk 0 3 rfl)
 ·intro d r Φ' W' _ hW st h
  generalize hr : d :: r = ds at h
  obtain ⟨j, n, hj⟩ := h
  cases n with
  | zero => cases hr
  | succ n =>
   cases hr
   exact AAs_Name (gStore hk (by decide +kernel)) (run_turn hG hk ok (by omega) hel hd3 hd4 fun m' s => T_go hW (.mk (j + 1) n (by omega)) s rfl)
 ·intro st h
  generalize hr : ([] : List D) = ds at h
  obtain ⟨j, n, hj⟩ := h
  cases n with
  | succ n => cases hr
  | zero =>
   cases hj
   have hdec : FnOk Γ C F 21 [.str ((pickL G items 3).flatMap (· ++ e)), .str mark] (.str (dueL G rows mark items 3)) := ⟨2, ok.dec ▸ fn_decode hG hX hD ok.he ok.hmark (fun l hl => ok.decl l (pick_mem G items 3 l hl)) (Nat.le_trans (pick_sum G items 3) (Nat.le_trans (Nat.mul_le_mul_left 3 ok.hlines) (by decide))) ok.dln, o_dep hd3 (by decide), o_dep hd4 (by decide)⟩
   refine AB_nil (C_next (AB_evk hGC hk 10 [.v (.str (dueL G rows mark items 3))] (fun z k => ?_) ⟨_, rfl, by rw [decide_eq_true rfl]; rfl, rfl⟩))
   with_unfolding_all exact k hdec
theorem fn_run (hG : GFs Γ F) (hX : GDf Γ F) (hD : GDa Γ) {rows : List (List Nat)} {G : List (List (List Nat))} {room N : Nat} {e mark pat : List Nat} {items : List (Option (Bool × List Nat))} {pts : List Tok} (hT : Fn Γ N (.ref (F 24)) [.str [42, 61]] (.str (framed softT))) (hP : Fn Γ N (.ref (F 24)) [.str pat] (.str (framed pts)))
  (ok : RunOk rows G room e mark items pts) : Fn Γ (N + 8) (.ref (F 66)) [strsL rows, .tup [.str pat, .lst (items.map itemD)], .int room, .str e, .str mark] (.bool true) :=
 Fn.of (n := N + 7) (k := 0) (m' := rS rows pat items room e mark) (hG.fs 66 (by decide)) (by decide +kernel) (by rfl) (by simp only [strsL, noMutL, noMut, noMutL_str, noMut_items]; rfl) (by intro p hp; simp [rS] at hp; rcases hp with rfl | rfl | rfl | rfl | rfl <;> rfl) fun C hk h1 h2 => w_run hG hX hD hT hP ok hk h1 (by omega)
end
end
section
/-! the law -/
noncomputable def addL (l : List Int) (k : Nat) : Int := l.getD k 0
noncomputable def drawnF (ns : List Int) (k : Nat) : Int := ns.getD (k % ns.length) 0 + addL [0, 0, 0, 2889, 32] k
noncomputable def modeF (d : Nat → Int) (k : Nat) : Nat := ((d k + addL [33261, 17407, 35273] k) % 65536).toNat
noncomputable def rowF (d : Nat → Int) (k : Nat) : List Nat := listedL (modeF d k) ++ [32] ++ tailL (d k + addL [26, 3567, 258] k)
noncomputable def rowsF (d : Nat → Int) : List (List Nat) := (List.range 3).map (rowF d)
noncomputable def roomF (d : Nat → Int) : Nat := 4 + (d 4 % 13).toNat
noncomputable def endF (d : Nat → Int) : List Nat := [[10], [13, 10]].getD (d 4 / 13 % 2).toNat []
noncomputable def markF (d : Nat → Int) : List Nat := [[10], [13, 10], [60, 98, 114, 62]].getD (d 4 / 26 % 3).toNat []
noncomputable def numsF (script : List Int) : List Int := (if script = [] then [0, 0, 0, 900, 17] else script).take 5
noncomputable def intD (l : List Int) : D := .lst (l.map D.int)
theorem noMutL_int : ∀ l : List Int, noMutL (l.map D.int) = true
 | [] => rfl
 | a :: r => by simp only [List.map_cons, noMutL, noMut, noMutL_int r]; rfl
theorem sub_int {mu : List (List D)} {l : List Int} {k : Nat} {v : Int} (h : l[k]? = some v) : subD mu (.lst (l.map D.int)) (k : Int) = some (.int v) := by
 exact sub_map (h)
theorem get_range {f : Nat → Int} {n k : Nat} (h : k < n) : ((List.range n).map f)[k]? = some (f k) := by
 rw [List.getElem?_map, List.getElem?_range h]; rfl
theorem addL_get {l : List Int} {k : Nat} (h : k < l.length) : l[k]? = some (addL l k) := by
 unfold addL; rw [List.getD_eq_getElem?_getD, List.getElem?_eq_getElem h]; rfl
theorem compOk_vals {outer : List (Str × NameKind)} {scope : Scope} {kn : List (Str × NameKind)} {m0 : List (Str × D)} (hn : ∀ p ∈ m0, noMut p.2 = true) (h : compOk outer scope kn (m0.map fun p => (p.1, D.none)) = true) : compOk outer scope kn m0 = true := by
 unfold compOk at h ⊢
 rw [Bool.and_eq_true] at h ⊢
 refine ⟨h.1, ?_⟩
 rw [List.all_eq_true]
 intro p hp
 have := List.all_eq_true.mp h.2 (p.1, D.none) (List.mem_map_of_mem (f := fun p : Str × D => (p.1, D.none)) hp)
 simp only [Bool.and_eq_true] at this ⊢
 exact ⟨this.1, hn p hp⟩
theorem low_listed (m : Nat) : low (listedL m) = true := by
 have hk : ∀ c ∈ kindL, c < 256 := by decide
 have h1 : decide (kindL.getD (m / 4096) 0 < 256) = true := by
  rw [decide_eq_true_eq, List.getD_eq_getElem?_getD]
  cases h : kindL[m / 4096]? with
  | none => decide
  | some c => exact hk c (List.mem_of_getElem? h)
 have h2 : ∀ k, low (rightsL k m) = true := by
  intro k
  simp only [rightsL, low, List.all_cons, List.all_nil, Bool.and_true, Bool.and_eq_true, decide_eq_true_eq]
  refine ⟨?_, ?_, ?_⟩
  ·split <;> decide
  ·split <;> decide
  ·split
   ·split
    ·split <;> decide
    ·split <;> decide
   ·split <;> decide
 unfold listedL low
 rw [List.all_cons, h1, List.all_append, List.all_append]
 have a := h2 0
 have b := h2 1
 have c := h2 2
 unfold low at a b c
 rw [a, b, c]; rfl
theorem noMutL_map_int {α : Type} (f : α → Int) (l : List α) : noMutL (l.map fun a => D.int (f a)) = true := by
 have := noMutL_int (l.map f); rwa [List.map_map] at this
section
variable {Γ : Gl prog w} {F : Nat → Addr} {C : Cx}
noncomputable def ntI (n : Nat) : D := .int (n : Int)
theorem w_law {script : List Int} {M : Nat} (hG : GFs Γ F) (hD : GDa Γ) (hFM : ∀ m, m < 65536 → fileL m = listedL m) (hM : 10 ≤ M)
  (hrun : ∀ d : Nat → Int, Fn Γ M (.ref (F 66)) [strsL (rowsF d), .tup [.str (askP (askOf (rowsF d) (d 3))), .lst ((askI (askOf (rowsF d) (d 3))).map itemD)], .int (roomF d : Nat), .str (endF d), .str (markF d)] (.bool true))
  (hk : C.kn = (fScope 67).names) (hd1 : C.A.depth + M ≤ 600) (hd2 : C.A.units + 10 * M ≤ 5000) :
  AB Γ C (fBody 67) ⟨[("script", intD script)], []⟩ (Res 0 (.bool true)) := by
 have hGC := hG.toGC
 have hd3 : C.A.depth + 10 ≤ 600 := o_dep hd1 hM
 have hd4 : C.A.units + 100 ≤ 5000 := o_dep hd2 (Nat.mul_le_mul_left 10 hM)
 have hn5 : (numsF script).length ≤ 5 := List.length_take_le ..
 have hn0 : 0 < (numsF script).length := by
  unfold numsF
  rw [List.length_take]
  refine Nat.lt_min.mpr ⟨by decide, ?_⟩
  split
  ·decide
  ·exact List.length_pos_iff.mpr (by assumption)
 have hsl : pySlice ((if script = [] then [0, 0, 0, 900, 17] else script).map D.int) none (some 5) = (numsF script).map D.int := by
  rw [show (some 5 : Option Int) = some ((5 : Nat) : Int) from rfl, slice_to, ← List.map_take]; rfl
 refine AB_runk (b' := (fBody 67).drop 1) (st' := ⟨[("script", intD script), ("numbers", .lst (pySlice ((if script = [] then [0, 0, 0, 900, 17] else script).map D.int) none (some 5)))], []⟩) hGC hk 10 1 [.v (intD (if script = [] then [0, 0, 0, 900, 17] else script))] (fun z k => ?_) (by with_unfolding_all rfl) ?_
 ·with_unfolding_all refine k fun Φ hΦ => AE_Or (gE_Name (by decide +kernel) rfl ⟨!(script.map D.int).isEmpty, rfl, fun h => ?_, fun h => ?_⟩)
  ·rw [if_neg (by rintro rfl; cases h)] at hΦ; exact hΦ
  ·rw [if_pos (by cases script; rfl; cases h)] at hΦ
   exact AE_evk hGC hk 8 [.b false] (fun z k => k) (by with_unfolding_all rfl) hΦ
 rw [hsl]
 generalize numsF script = ns at hn5 hn0
 have hfm : ∀ j : Nat, ((j : Int)).fmod ((ns.map D.int).length : Int) = ((j % ns.length : Nat) : Int) := fun j => by rw [List.length_map]; exact fmN j ns.length
 have hR : ∀ (mu : List (List D)) (n : Nat), n ≤ 5 → iterH mu (.rng 0 (n : Int) 1) = some ((List.range n).map ntI) := fun mu n h => by
  rcases lt6 n (Nat.lt_succ_of_le h) with q | q | q | q | q | q <;> subst q <;> rfl
 -- the numbers that are drawn
 refine AB_c (AS_CompM (ι := ntI) (g := fun k => .int (drawnF ns k)) (f := onInt fun k => .int (drawnF ns k)) (fun _ => rfl) (fun _ => rfl) (lim := 1) (m0 := [("numbers", .lst (ns.map D.int))]) (kn := [(".0", .local), ("k", .local), ("len", .globalImplicit)]) (gStore hk (by decide +kernel)) (by rfl) (compOk_vals (List.forall_mem_cons.mpr ⟨noMutL_int ns, nofun⟩) (by rw [hk]; with_unfolding_all rfl)) (by rfl) (o_dep hd3 (by decide)) (o_dep hd4 (by decide))
  (AE_evk hGC hk 8 [.v (.rng 0 5 1)] (fun z k => ?_) (by with_unfolding_all rfl) ⟨List.range 5, hR _ 5 (Nat.le_refl 5), by decide, List.forall_mem_cons.mpr ⟨rfl, nofun⟩, fun j hj => CT_ev (by decide +kernel) fun C' acc hk' _ _ => AE_evk hGC hk' 12 [.v (.int (ns.getD (j % ns.length) 0)), .b false, .v (.int (addL [0, 0, 0, 2889, 32] j))] (fun z k => ?_) (by with_unfolding_all rfl) ⟨rfl, rfl, rfl⟩, noMutL_map_int _ _, ?_⟩))
 ·with_unfolding_all exact k fun Φ hΦ => ACall_range1 hΦ
 ·have hj := List.mem_range.mp hj
  with_unfolding_all exact k (sub_int (addL_get (l := [0, 0, 0, 2889, 32]) hj)) (by rw [hfm]; exact sub_int (by rw [List.getD_eq_getElem?_getD, List.getElem?_eq_getElem (Nat.mod_lt _ hn0)]; rfl)) (by rw [List.length_map]; exact fun e => Nat.ne_of_gt hn0 (Int.ofNat_inj.mp e))
 generalize drawnF ns = dr
 have eD : (List.range 5).map (fun k => D.int (dr k)) = ((List.range 5).map dr).map D.int := by rw [List.map_map]; rfl
 rw [eD]
 have hdr : ∀ j, j < 5 → ((List.range 5).map dr)[j]? = some (dr j) := fun j h => get_range h
 generalize (List.range 5).map dr = DR at hdr
 refine AB_pk (m' := [("drawn", .lst (DR.map D.int))]) rfl rfl (AB_c (AS_CompM (ι := ntI) (g := fun k => .int (modeF dr k : Nat)) (f := onInt fun k => .int (modeF dr k : Nat)) (fun _ => rfl) (fun _ => rfl) (lim := 1) (m0 := [("drawn", .lst (DR.map D.int))]) (kn := [(".0", .local), ("k", .local)]) (gStore hk (by decide +kernel)) (by rfl) (compOk_vals (List.forall_mem_cons.mpr ⟨noMutL_int DR, nofun⟩) (by rw [hk]; with_unfolding_all rfl)) (by rfl) (o_dep hd3 (by decide)) (o_dep hd4 (by decide))
  (AE_evk hGC hk 8 [.v (.rng 0 3 1)] (fun z k => ?_) (by with_unfolding_all rfl) ⟨List.range 3, hR _ 3 (by decide), by decide, List.forall_mem_cons.mpr ⟨rfl, nofun⟩, fun j hj => CT_ev (by decide +kernel) fun C' acc hk' _ _ => AE_evk hGC hk' 12 [.v (.int (dr j)), .b false, .v (.int (addL [33261, 17407, 35273] j))] (fun z k => ?_) (by with_unfolding_all rfl) ⟨?_, rfl, rfl⟩, noMutL_map_int _ _, ?_⟩)))
 ·with_unfolding_all exact k fun Φ hΦ => ACall_range1 hΦ
 ·have hj := List.mem_range.mp hj
  with_unfolding_all exact k (by decide) (sub_int (addL_get (l := [33261, 17407, 35273]) hj)) (sub_int (hdr j (Nat.lt_trans hj (by decide))))
 ·show some (D.int _) = some (D.int _)
  rw [Int.fmod_eq_emod_of_nonneg _ (by decide), modeF, Int.toNat_of_nonneg (Int.emod_nonneg _ (by decide))]
 have hmb : ∀ m ∈ (List.range 3).map (modeF dr), m < 65536 := fun m hm => by
  obtain ⟨k, _, rfl⟩ := List.mem_map.mp hm
  exact (Int.toNat_lt' (by decide)).mpr (Int.emod_lt_of_pos _ (by decide))
 have eM : (List.range 3).map (fun k => D.int (modeF dr k : Nat)) = ((List.range 3).map (modeF dr)).map ntI := by rw [List.map_map]; rfl
 rw [eM]
 have hLI : ∀ j, j < 3 → (((List.range 3).map (modeF dr)).map listedL)[j]? = some (listedL (modeF dr j)) := fun j h => by rw [List.map_map, List.getElem?_map, List.getElem?_range h]; rfl
 have hMl : ((List.range 3).map (modeF dr)).length ≤ 1048576 := by rw [List.length_map, List.length_range]; decide
 generalize (List.range 3).map (modeF dr) = MO at hmb hLI hMl
 have estr : ∀ f : Nat → List Nat, MO.map (fun m => D.str (f m)) = (MO.map f).map D.str := fun f => by rw [List.map_map]; rfl
 refine AB_c (AS_CompM (ι := ntI) (g := fun m => .str (listedL m)) (f := onInt fun m => .str (listedL m)) (fun _ => rfl) (fun _ => rfl) (lim := 1) (m0 := []) (kn := [(".0", .local), ("mode", .local), ("_law_listed", .globalImplicit)]) (gStore hk (by decide +kernel)) (by rfl) (by rw [hk]; with_unfolding_all rfl) (by rfl) (o_dep hd3 (by decide)) (o_dep hd4 (by decide))
  (gE_Name (by decide +kernel) rfl ⟨MO, rfl, hMl, nofun, fun m hm => CT_ev (by decide +kernel) fun C' acc hk' h1 h2 => AE_evk hGC hk' 8 [.v (.str (listedL m))] (fun z k => ?_) (by with_unfolding_all rfl) ⟨rfl, rfl, rfl⟩, by rw [estr]; exact noMutL_str _, ?_⟩))
 ·with_unfolding_all exact k ⟨1, fn_listed hG (hmb m hm), h1, h2⟩
 rw [estr]
 have hlow : lows (MO.map listedL) = true := List.all_eq_true.mpr fun l hl => by
  obtain ⟨m, _, rfl⟩ := List.mem_map.mp hl
  exact low_listed m
 refine AB_runk (b := (fBody 67).drop 4) (b' := (fBody 67).drop 5) (st' := ⟨[("drawn", .lst (DR.map D.int)), ("modes", .lst (MO.map ntI)), ("listings", .lst ((MO.map listedL).map D.str))], []⟩) hGC hk 12 1 [.v (.lst ((MO.map listedL).map D.str)), .b false, .b false] (fun z k => ?_) (by with_unfolding_all rfl) ?_
 ·with_unfolding_all refine k rfl (fun st Φ k => cmp_ne_strs (l1 := (MO.map listedL).map D.str) (l2 := (MO.map listedL).map D.str) rfl rfl (strsD_str _) (strsD_str _) hlow hlow (by rw [decide_eq_true rfl]; exact k)) fun Φ hΦ => ?_
  have e : MO.map listedL = MO.map fileL := List.map_congr_left fun m hm => (hFM m (hmb m hm)).symm
  refine AE_CompM (ι := ntI) (g := fun m => .str (fileL m)) (f := onInt fun m => .str (fileL m)) (fun _ => rfl) (fun _ => rfl) (lim := 2) (m0 := []) (kn := [(".0", .local), ("mode", .local), ("filemode", .globalImplicit)]) (by rfl) (by rw [hk]; with_unfolding_all rfl) (by rfl) (o_dep hd3 (by decide)) (o_dep hd4 (by decide))
   (gE_Name (by decide +kernel) rfl ⟨MO, rfl, hMl, nofun, fun m hm => CT_ev (by decide +kernel) fun C' acc hk' h1 h2 => AE_evk hGC hk' 8 [.v (.str (fileL m))] (fun z k => ?_) (by with_unfolding_all rfl) ⟨rfl, rfl, rfl⟩, by rw [estr]; exact noMutL_str _, by rw [estr, ← e]; exact hΦ⟩)
  with_unfolding_all exact k ⟨2, fn_filemode hG hD, h1, h2⟩
 generalize MO.map listedL = LI at hLI
 have htl : ∀ x, (tailL x).length ≤ 3 := fun x => by
  rw [tailL, List.length_map, List.length_range]
  exact Nat.le_of_lt_succ ((Int.toNat_lt' (n := 4) (by decide)).mpr (Int.emod_lt_of_pos _ (by decide)))
 refine AB_pk (m' := [("drawn", .lst (DR.map D.int)), ("listings", .lst (LI.map D.str))]) rfl rfl (AB_c (AS_CompM (ι := ntI) (g := fun k => .str (rowF dr k)) (f := onInt fun k => .str (rowF dr k)) (fun _ => rfl) (fun _ => rfl) (lim := 6) (m0 := [("listings", .lst (LI.map D.str)), ("drawn", .lst (DR.map D.int))]) (kn := [(".0", .local), ("k", .local), ("_law_tail", .globalImplicit)]) (gStore hk (by decide +kernel)) (by rfl) (compOk_vals (List.forall_mem_cons.mpr ⟨noMutL_str LI, List.forall_mem_cons.mpr ⟨noMutL_int DR, nofun⟩⟩) (by rw [hk]; with_unfolding_all rfl)) (by rfl) (o_dep hd3 (by decide)) (o_dep hd4 (by decide))
  (AE_evk hGC hk 8 [.v (.rng 0 3 1)] (fun z k => ?_) (by with_unfolding_all rfl) ⟨List.range 3, hR _ 3 (by decide), by decide, List.forall_mem_cons.mpr ⟨rfl, List.forall_mem_cons.mpr ⟨rfl, nofun⟩⟩, fun j hj => CT_ev (by decide +kernel) fun C' acc hk' h1 h2 => AE_evk hGC hk' 12 [.v (.str (listedL (modeF dr j))), .v (.int (dr j)), .b false, .v (.int (addL [26, 3567, 258] j)), .v (.str (tailL (dr j + addL [26, 3567, 258] j)))] (fun z k => ?_) (by with_unfolding_all rfl) ⟨rfl, rfl, rfl⟩, ?_, ?_⟩)))
 ·with_unfolding_all exact k fun Φ hΦ => ACall_range1 hΦ
 ·have hj := List.mem_range.mp hj
  with_unfolding_all exact k (by rw [List.length_append]; exact Nat.le_trans (Nat.add_le_add_left (htl _) _) (by decide : 11 + 3 ≤ 1048576)) ⟨6, fn_tail hG, h1, h2⟩ (sub_int (addL_get (l := [26, 3567, 258]) hj)) (sub_int (hdr j (Nat.lt_trans hj (by decide)))) (by decide : 11 ≤ 1048576) (sub_map (hLI j hj))
 ·have := noMutL_str (rowsF dr); rwa [rowsF, List.map_map] at this
 rw [show (List.range 3).map (fun k => D.str (rowF dr k)) = (rowsF dr).map D.str by rw [rowsF, List.map_map]; rfl]
 have e13 : (4 : Int) + (dr 4).fmod 13 = (roomF dr : Nat) := by
  unfold roomF
  rw [Int.fmod_eq_emod_of_nonneg _ (by decide), Int.natCast_add, Int.toNat_of_nonneg (Int.emod_nonneg _ (by decide))]; rfl
 have e2 : ((dr 4).fdiv 13).fmod 2 = ((dr 4 / 13 % 2).toNat : Nat) := fdm (dr 4) 13 1
 have e3 : ((dr 4).fdiv 26).fmod 3 = ((dr 4 / 26 % 3).toNat : Nat) := fdm (dr 4) 26 2
 have l2 : (dr 4 / 13 % 2).toNat < 3 := Nat.lt_succ_of_lt ((Int.toNat_lt' (by decide)).mpr (Int.emod_lt_of_pos _ (by decide)))
 have l3 : (dr 4 / 26 % 3).toNat < 3 := (Int.toNat_lt' (by decide)).mpr (Int.emod_lt_of_pos _ (by decide))
 have h4 := hdr 4 (by decide)
 have s2 : ∀ mu, subD mu (.lst [.str [10], .str [13, 10]]) (((dr 4).fdiv 13).fmod 2) = some (.str (endF dr)) := fun mu => by
  have : (dr 4 / 13 % 2).toNat < 2 := (Int.toNat_lt' (by decide)).mpr (Int.emod_lt_of_pos _ (by decide))
  rw [e2, endF]
  rcases lt3 _ l2 with q | q | q
  ·rw [q]; rfl
  ·rw [q]; rfl
  ·rw [q] at this; exact absurd this (by decide)
 have s3 : ∀ mu, subD mu (.lst [.str [10], .str [13, 10], .str [60, 98, 114, 62]]) (((dr 4).fdiv 26).fmod 3) = some (.str (markF dr)) := fun mu => by
  rw [e3, markF]
  rcases lt3 _ l3 with q | q | q <;> rw [q] <;> rfl
 refine AB_runk (b := (fBody 67).drop 6) (b' := (fBody 67).drop 7) (st' := ⟨[("drawn", .lst (DR.map D.int)), ("listings", .lst (LI.map D.str)), ("rows", strsL (rowsF dr)), ("mark", .str (markF dr)), ("end", .str (endF dr)), ("room", .int (4 + (dr 4).fmod 13))], []⟩) hGC hk 12 1 [.v (.int (dr 4)), .b false, .v (.int (dr 4)), .v (.str (endF dr)), .b false, .v (.int (dr 4)), .v (.str (markF dr))] (fun z k => ?_) (by with_unfolding_all rfl) ?_
 ·with_unfolding_all exact k (s3 _) (by decide) ⟨by decide, np (dr 4) 26 (by decide +kernel)⟩ (sub_int h4) (s2 _) (by decide) ⟨by decide, np (dr 4) 13 (by decide +kernel)⟩ (sub_int h4) (by decide) (sub_int h4)
 rw [e13]
 refine AB_1 (AS_Try (AB_evk hGC hk 10 [.v (.int (dr 3)), .v (.tup [.str (askP (askOf (rowsF dr) (dr 3))), .lst ((askI (askOf (rowsF dr) (dr 3))).map itemD)]), .v (.bool true)] (fun z k => ?_) ⟨_, rfl, rfl, rfl⟩))
 have hrl : ∀ r ∈ rowsF dr, 10 ≤ r.length ∧ r.length ≤ 1000 := fun r hr => by
  obtain ⟨k, _, rfl⟩ := List.mem_map.mp hr
  rw [rowF, List.length_append]
  exact ⟨Nat.le_trans (by decide : 10 ≤ 11) (Nat.le_add_right _ _), Nat.le_trans (Nat.add_le_add_left (htl _) _) (by decide : 11 + 3 ≤ 1000)⟩
 with_unfolding_all exact k ⟨M, hrun dr, hd1, hd2⟩ ⟨6, fn_pattern hG (by rw [rowsF, List.length_map, List.length_range]) hrl, o_dep hd3 (by decide), o_dep hd4 (by decide)⟩ (sub_int (hdr 3 (by decide)))
end
end
section
noncomputable abbrev Pc := Option (List Nat)
noncomputable def pcD (a : Addr) : Pc → D
 | none => .val (.ref a)
 | some l => .str l
noncomputable def flatP (r : List Pc) : List Nat := (r.takeWhile (·.isSome)).flatMap (·.getD [])
theorem dropW_le (r : List Pc) : (r.dropWhile (·.isSome)).length ≤ r.length := by
 induction r with
 | nil => simp
 | cons a r ih =>
  rw [List.dropWhile_cons]
  split
  ·exact Nat.le_succ_of_le ih
  ·exact Nat.le_refl _
noncomputable def starP : List Pc → List (List Nat)
 | none :: r => if r = [] then [[46, 42]] else if r.dropWhile (·.isSome) = [] then [[46, 42], flatP r] else ([40, 63, 62, 46, 42, 63] ++ flatP r ++ [41]) :: starP (r.dropWhile (·.isSome))
 | _ => []
termination_by l => l.length
decreasing_by exact Nat.lt_succ_of_le (dropW_le r)
noncomputable def starOk : List Pc → Bool
 | none :: r => if r = [] then true else (match r with | none :: _ => false | _ => true) && starOk (r.dropWhile (·.isSome))
 | [] => true
 | some _ :: _ => false
termination_by l => l.length
decreasing_by exact Nat.lt_succ_of_le (dropW_le r)
noncomputable def joinP (ps : List Pc) : List Nat := [40, 63, 115, 58] ++ (((ps.takeWhile (·.isSome)).map (·.getD [])) ++ starP (ps.dropWhile (·.isSome))).flatten ++ [41, 92, 90]
theorem starP_go {p : Pc} {r : List Pc} : starP (none :: p :: r) = if (p :: r).dropWhile (·.isSome) = [] then [[46, 42], flatP (p :: r)] else ([40, 63, 62, 46, 42, 63] ++ flatP (p :: r) ++ [41]) :: starP ((p :: r).dropWhile (·.isSome)) := by
 rw [starP, if_neg (List.cons_ne_nil _ _)]
theorem starOk_go {l : List Nat} {r : List Pc} : starOk (none :: some l :: r) = starOk ((some l :: r).dropWhile (·.isSome)) := by simp [starOk]
theorem starOk_no {r : List Pc} : starOk (none :: none :: r) = false := by simp [starOk]
noncomputable def szP (l : List Pc) : Nat := (l.map fun p => (p.getD []).length + 10).sum
theorem sums_le2 {α : Type} {k : Nat} {f : α → Nat} : ∀ {l : List α}, (∀ p ∈ l, f p ≤ k) → (l.map f).sum ≤ k * l.length
 | [], _ => Nat.le_refl 0
 | a :: r, h => by
  rw [List.map_cons, List.sum_cons, List.length_cons, Nat.mul_succ, Nat.add_comm]
  exact Nat.add_le_add (sums_le2 fun t ht => h t (.tail _ ht)) (h a (.head _))
theorem szP_app (a b : List Pc) : szP (a ++ b) = szP a + szP b := by simp [szP]
theorem szP_split (l : List Pc) : szP (l.takeWhile (·.isSome)) + szP (l.dropWhile (·.isSome)) = szP l := by rw [← szP_app, List.takeWhile_append_dropWhile]
theorem szP_drop (l : List Pc) (n : Nat) : szP (l.drop n) ≤ szP l := by
 have := szP_app (l.take n) (l.drop n)
 rw [List.take_append_drop] at this
 rw [this]; exact Nat.le_add_left _ _
theorem ar1 {x f n s : Nat} (h : f + n ≤ s) : x + f + (n + 1) ≤ x + 10 + s := by omega
theorem ar3 {f n g m s1 s2 s k : Nat} (h1 : f + n ≤ s1) (h2 : g + m ≤ s2) (h3 : s1 + s2 = s) (hs : s ≤ k) : f + g + (n + m) ≤ k := by
 rw [Nat.add_add_add_comm]; exact Nat.le_trans (h3 ▸ Nat.add_le_add h1 h2) hs
theorem szP_flat : ∀ l : List Pc, (l.map (·.getD [])).flatten.length + l.length ≤ szP l
 | [] => Nat.le_refl 0
 | a :: r => by
  have := szP_flat r
  simp only [szP, List.map_cons, List.flatten_cons, List.length_append, List.sum_cons, List.length_cons] at this ⊢
  exact ar1 this
theorem flatP_is (r : List Pc) : flatP r = ((r.takeWhile (·.isSome)).map (·.getD [])).flatten := by rw [flatP, flatMap_flat]
theorem flatP_le (r : List Pc) : (flatP r).length ≤ szP (r.takeWhile (·.isSome)) := flatP_is r ▸ Nat.le_trans (Nat.le_add_right _ _) (szP_flat _)
theorem starP_sz : ∀ (n : Nat) (l : List Pc), l.length ≤ n → (starP l).flatten.length + (starP l).length ≤ szP l
 | _, [], _ => by rw [starP]; exact Nat.zero_le _; exact nofun
 | _, some _ :: _, _ => by rw [starP]; exact Nat.zero_le _; exact nofun
 | _, [none], _ => by rw [starP, if_pos rfl]; decide
 | n + 1, none :: p :: r, h => by
  have h1 := starP_sz n ((p :: r).dropWhile (·.isSome)) (Nat.le_trans (dropW_le _) (Nat.le_of_succ_le_succ h))
  have h2 := flatP_le (p :: r)
  have h3 := szP_split (p :: r)
  have h4 : szP (none :: p :: r) = 0 + 10 + szP (p :: r) := by simp [szP]
  rw [starP_go, h4, ← h3]
  split
  ·simp only [List.flatten_cons, List.length_append, List.length_cons, List.flatten_nil, List.length_nil]; omega
  ·simp only [List.flatten_cons, List.length_append, List.length_cons, List.length_nil]; omega
section
variable {Γ : Gl prog w} {F : Nat → Addr} {ps : List Pc} {a : Addr} {C : Cx} {Φ : Fl → St → Prop}
noncomputable def jS (a : Addr) (ps : List Pc) (i : Int) : List (Str × D) := [("inp", .lst (ps.map (pcD a))), ("STAR", .val (.ref a)), ("res", .mut 0), ("add", .meth 0), ("i", .int i), ("n", .int (ps.length : Nat))]
structure JAt (ps : List Pc) (i : Nat) (rest : List Pc) : Prop where
 d : ps.drop i = rest
 l : i + rest.length = ps.length
theorem JAt.next {i p r} (h : JAt ps i (p :: r)) : JAt ps (i + 1) r := ⟨by rw [← List.drop_drop, h.d]; rfl, by rw [← h.l, List.length_cons, Nat.add_assoc, Nat.add_comm 1]⟩
theorem JAt.sub {i p r} (h : JAt ps i (p :: r)) (mu : List (List D)) : subD mu (.lst (ps.map (pcD a))) (i : Int) = some (pcD a p) := sub_map (by rw [← Nat.add_zero i, ← List.getElem?_drop, h.d]; rfl)
theorem JAt.lt {i p r} (h : JAt ps i (p :: r)) : decide ((i : Int) < (ps.length : Int)) = true := decide_eq_true (Int.ofNat_lt.mpr (by rw [← h.l]; exact Nat.lt_add_of_pos_right (Nat.succ_pos _)))
theorem JAt.nlt {i} (h : JAt ps i []) : decide ((i : Int) < (ps.length : Int)) = false := decide_eq_false (Int.not_lt.mpr (Int.ofNat_le.mpr (Nat.le_of_eq h.l.symm)))
theorem JAt.eq {i} (h : JAt ps i []) : decide ((i : Int) = (ps.length : Int)) = true := decide_eq_true (congrArg _ h.l)
theorem JAt.ne {i p r} (h : JAt ps i (p :: r)) : decide ((i : Int) = (ps.length : Int)) = false := decide_eq_false fun e => by
 have := h.l
 rw [← Int.ofNat_inj.mp e, List.length_cons] at this
 exact absurd this (Nat.ne_of_gt (Nat.lt_add_of_pos_right (Nat.succ_pos _)))
theorem JAt.sz {i rest} (h : JAt ps i rest) : szP rest ≤ szP ps := h.d ▸ szP_drop ps i
theorem j_put {out : List (List Nat)} {x : List Nat} {tl : List (List D)} : (out.map D.str ++ [.str x]) :: tl = (out ++ [x]).map D.str :: tl := by rw [List.map_append]; rfl
theorem j_len {out l : List (List Nat)} {ALL : List (List Nat)} (h : out ++ l = ALL) (hA : ALL.length ≤ 110000) {k : Nat} (hk : k ≤ 10) : out.length + k < 1048576 := by
 rw [← h, List.length_append] at hA
 exact Nat.lt_of_le_of_lt (Nat.add_le_add (Nat.le_trans (Nat.le_add_right _ _) hA) hk) (by decide)
theorem j_fin {ALL : List (List Nat)} {i : Nat} {tl : List (List D)} (hG : GFs Γ F) (hk : C.kn = (fScope 30).names) (hA : ALL.flatten.length ≤ 110000) (hi : JAt ps i []) :
  AB Γ C ((fBody 30).drop 5) ⟨jS a ps (i : Nat), ALL.map D.str :: tl⟩ (Res 0 (.str ([40, 63, 115, 58] ++ ALL.flatten ++ [41, 92, 90]))) := by
 refine AB_evk hG.toGC hk 12 [.b true, .v (.str ALL.flatten), .v (.str ([40, 63, 115, 58] ++ ALL.flatten ++ [41, 92, 90]))] (fun z k => ?_) ⟨_, rfl, rfl, rfl⟩
 with_unfolding_all exact k (fun Φ hΦ => AE_Joined (by decide +kernel) (AJ_c (gE_strL (l := [40, 63, 115, 58]) (by decide +kernel) (by decide) ⟨_, rfl, AJ_c (AE_Fmt (gE_Name (by decide +kernel) rfl ⟨_, rfl, _, rfl, AJ_c (gE_strL (l := [41, 92, 90]) (by decide +kernel) (by decide) ⟨_, rfl, (by rw [List.length_append, List.length_append]; exact Nat.le_trans (Nat.add_le_add_right (Nat.add_le_add_left hA _) _) (by decide)), hΦ⟩)⟩))⟩))) (fun Φ hΦ => ACall_join (l := ALL.map D.str) rfl (strsD_str _) (by rw [joinSum0L]; exact Nat.le_trans hA (by decide)) (by rw [joinL0]; exact hΦ)) hi.eq
inductive JnC (a : Addr) (ps : List Pc) (mu0 : List (List D)) (FX : List (List Nat)) (RW : List Pc) (R0 : Nat) : Nat → St → Prop
 | mk (j : Nat) (rest : List Pc) (fx : List (List Nat)) (hd : JAt ps j rest) (hR : rest.length ≤ R0) (hfx : fx ++ (rest.takeWhile (·.isSome)).map (·.getD []) = FX) (hrw : rest.dropWhile (·.isSome) = RW) :
  JnC a ps mu0 FX RW R0 rest.length ⟨(jS a ps (j : Nat)).append [("fixed", .mut mu0.length)], mu0 ++ [fx.map D.str]⟩
theorem j_fixed {i : Nat} {out : List (List Nat)} {tl : List (List D)} {r : List Pc} (hG : GFs Γ F) (hk : C.kn = (fScope 30).names) (hi : JAt ps i r) (hs : szP ps ≤ 110000) (ho : out.length + 2 < 1048576)
  (kk : ∀ (j : Nat) (x : List (List Nat)) (m' : List (Str × D)) (tl2 : List (List D)), JAt ps j (r.dropWhile (·.isSome)) → x = (if r.dropWhile (·.isSome) = [] then [[46, 42], flatP r] else [[40, 63, 62, 46, 42, 63] ++ flatP r ++ [41]]) → Pk (jS a ps (j : Nat)) m' → Φ .next ⟨m', (out ++ x).map D.str :: tl2⟩) :
  AB Γ C ((subB (fBody 30) 4).drop 5) ⟨(jS a ps (i : Nat)).append [("fixed", .mut (out.map D.str :: tl).length)], (out.map D.str :: tl) ++ [[]]⟩ Φ := by
 have hGC := hG.toGC
 refine AB_c (AS_While (AC_inv (JnC a ps (out.map D.str :: tl) ((r.takeWhile (·.isSome)).map (·.getD [])) (r.dropWhile (·.isSome)) r.length) ?_ _ _ (.mk i r [] hi (Nat.le_refl _) rfl rfl)))
 have hFX := Nat.le_trans (szP_flat (r.takeWhile (·.isSome))) (Nat.le_trans (Nat.le_trans (Nat.le_add_right _ _) (Nat.le_of_eq (szP_split r))) (Nat.le_trans hi.sz hs))
 rw [flatP_is] at kk
 have hlF : ((r.takeWhile (·.isSome)).map (·.getD [])).length ≤ 110000 := by rw [List.length_map]; exact Nat.le_trans (Nat.le_add_left _ _) hFX
 generalize hFX2 : (r.takeWhile (·.isSome)).map (·.getD []) = FX at kk hFX hlF
 generalize r.dropWhile (·.isSome) = RW at kk
 clear hFX2
 rintro n Φ' W' - hW st ⟨j, rest, fx, hd, hR, hfx, hrw⟩
 have hx : ((out.map D.str :: tl) ++ [fx.map D.str])[(out.map D.str :: tl).length]? = some (fx.map D.str) := hmu
 have hlx : (fx.map D.str).length < 1048576 := by rw [List.length_map]; exact j_len hfx hlF (Nat.zero_le 10)
 have ext : (rest.takeWhile (·.isSome) = [] → rest.dropWhile (·.isSome) = rest → AB Γ C ((subB (fBody 30) 4).drop 6) ⟨(jS a ps (j : Nat)).append [("fixed", .mut (out.map D.str :: tl).length)], (out.map D.str :: tl) ++ [fx.map D.str]⟩ Φ) := fun h1 h2 => by
  rw [h1, List.map_nil, List.append_nil] at hfx
  rw [h2] at hrw
  subst hfx hrw
  have hfl : fx.flatten.length ≤ 110000 := Nat.le_trans (Nat.le_add_right _ _) hFX
  have jn : ∀ (m : List (Str × D)), SA Γ C (.builtin "str.join") [.str [], .mut (out.map D.str :: tl).length] ⟨m, (out.map D.str :: tl) ++ [fx.map D.str]⟩ (.str fx.flatten) ⟨m, (out.map D.str :: tl) ++ [fx.map D.str]⟩ := fun m φ hφ =>
   ACall_join (l := fx.map D.str) (ls := fx) hmu (strsD_str _) (by rw [joinSum0L]; exact Nat.le_trans hfl (by decide)) (by rw [joinL0]; exact hφ)
  have hp : ∀ {X : List (List D)}, (out.map D.str :: X)[0]? = some (out.map D.str) ∧ (out.map D.str).length < 1048576 := ⟨rfl, by rw [List.length_map]; exact Nat.lt_of_le_of_lt (Nat.le_add_right _ 2) ho⟩
  have kk2 := fun (j : Nat) (x : List (List Nat)) (y : List D) (m' : List (Str × D)) (tl2 : List (List D)) (e : y = (out ++ x).map D.str) h1 h2 s => (congrArg (fun z => Φ .next ⟨m', z :: tl2⟩) e).mpr (kk j x m' tl2 h1 h2 s)
  cases rest with
  | nil =>
   refine AB_evk hGC hk 12 [.v (.str fx.flatten), .b true, .l (out.map D.str), .l (out.map D.str ++ [.str [46, 42]])] (fun z k => ?_) (kk2 j [[46, 42], fx.flatten] _ _ _ (by rw [List.map_append, List.append_assoc]; rfl) hd (if_pos rfl).symm rfl)
   with_unfolding_all exact k ⟨rfl, by rw [List.length_append, List.length_map]; exact Nat.lt_of_le_of_lt (Nat.le_succ _) ho⟩ hp hd.eq (jn _)
  | cons p q =>
   refine AB_evk hGC hk 12 [.v (.str fx.flatten), .b false, .v (.str ([40, 63, 62, 46, 42, 63] ++ fx.flatten ++ [41])), .l (out.map D.str)] (fun z k => ?_) (kk2 j [[40, 63, 62, 46, 42, 63] ++ fx.flatten ++ [41]] _ _ _ (by rw [List.map_append]; rfl) hd (if_neg (List.cons_ne_nil _ _)).symm rfl)
   with_unfolding_all exact k hp (fun Φ hΦ => AE_Joined (by decide +kernel) (AJ_c (gE_strL (l := [40, 63, 62, 46, 42, 63]) (by decide +kernel) (by decide) ⟨_, rfl, AJ_c (AE_Fmt (gE_Name (by decide +kernel) rfl ⟨_, rfl, _, rfl, AJ_c (gE_strL (l := [41]) (by decide +kernel) (by decide) ⟨_, rfl, (by rw [List.length_append, List.length_append]; exact Nat.le_trans (Nat.add_le_add_right (Nat.add_le_add_left hfl _) _) (by decide)), hΦ⟩)⟩))⟩))) hd.ne (jn _)
 cases rest with
 | nil =>
  refine AT_evk hGC hk 10 [.b false] (fun z k => ?_) (by with_unfolding_all rfl) (B_ff (AB_nil (C_next (ext rfl rfl))))
  with_unfolding_all exact k hd.nlt
 | cons p q =>
  cases p with
  | none =>
   refine AT_evk hGC hk 10 [.b true, .v (.val (.ref a)), .b false, .b false] (fun z k => ?_) (by with_unfolding_all rfl) (B_ff (AB_nil (C_next (ext rfl rfl))))
   with_unfolding_all exact k rfl (fun st Φ k => cmp_isnot_same k) (hd.sub _) hd.lt
  | some l =>
   refine AT_evk hGC hk 10 [.b true, .v (.str l), .b true, .b true] (fun z k => ?_) (by with_unfolding_all rfl) (B_tt ?_)
   ·with_unfolding_all exact k rfl (fun st Φ k => cmp_isnot_str k) (hd.sub _) hd.lt
   refine AB_evk hGC hk 10 [.l (fx.map D.str), .v (.str l), .l (fx.map D.str)] (fun z k => ?_) (T_go hW ⟨_, Nat.lt_succ_self _, .mk (j + 1) q (fx ++ [l]) hd.next (Nat.le_of_succ_le hR) (by rw [← hfx, List.append_assoc]; rfl) hrw⟩ rfl (by rw [hset, List.map_append]; rfl))
   ·with_unfolding_all exact k ⟨hx, hlx⟩ (hd.sub _) hx
inductive JnB (a : Addr) (ps : List Pc) (ALL : List (List Nat)) : Nat → St → Prop
 | mk (i : Nat) (rest : List Pc) (out : List (List Nat)) (tl : List (List D)) (hd : JAt ps i rest) (hall : out ++ starP rest = ALL) (hok : starOk rest = true) : JnB a ps ALL rest.length ⟨jS a ps (i : Nat), out.map D.str :: tl⟩
theorem j_stars {i : Nat} {rest : List Pc} {out ALL : List (List Nat)} {tl : List (List D)} (hG : GFs Γ F) (hk : C.kn = (fScope 30).names) (hi : JAt ps i rest) (hall : out ++ starP rest = ALL) (hok : starOk rest = true) (hs : szP ps ≤ 110000) (hA : ALL.flatten.length ≤ 110000) (hA2 : ALL.length ≤ 110000) :
  AB Γ C ((fBody 30).drop 4) ⟨jS a ps (i : Nat), out.map D.str :: tl⟩ (Res 0 (.str ([40, 63, 115, 58] ++ ALL.flatten ++ [41, 92, 90]))) := by
 have hGC := hG.toGC
 refine AB_c (AS_While (AC_inv (JnB a ps ALL) ?_ _ _ (.mk i rest out tl hi hall hok)))
 clear hi hall hok
 rintro n Φ' W' hΦ hW st ⟨i, rest, out, tl, hd, hall, hok⟩
 cases rest with
 | nil =>
  rw [show starP [] = [] by rw [starP]; exact nofun, List.append_nil] at hall
  subst hall
  refine AT_evk hGC hk 10 [.b false] (fun z k => ?_) (by with_unfolding_all rfl) (B_ff (AB_nil (C_next (j_fin hG hk hA hd))))
  with_unfolding_all exact k hd.nlt
 | cons p r =>
  cases p with
  | some l => rw [starOk] at hok; cases hok
  | none =>
   have hp : (out.map D.str :: tl)[0]? = some (out.map D.str) ∧ (out.map D.str).length < 1048576 := ⟨rfl, by rw [List.length_map]; exact j_len hall hA2 (Nat.zero_le 10)⟩
   refine AT_evk hGC hk 10 [.b true] (fun z k => ?_) (by with_unfolding_all rfl) (B_tt ?_)
   ·with_unfolding_all exact k hd.lt
   cases r with
   | nil =>
    rw [starP, if_pos rfl] at hall
    subst hall
    refine AB_evk hGC hk 12 [.v (.val (.ref a)), .b true, .b true, .b true, .l (out.map D.str)] (fun z k => ?_) (T_brk hΦ (C_next (AB_pk rfl j_put (j_fin hG hk hA hd.next))))
    with_unfolding_all exact k hp hd.next.eq rfl (fun st Φ k => cmp_is_same k) (hd.sub _)
   | cons p2 r2 =>
    rw [starP_go] at hall
    cases p2 with
    | none => rw [starOk_no] at hok; cases hok
    | some l2 =>
     have hok2 : starOk ((some l2 :: r2).dropWhile (·.isSome)) = true := starOk_go ▸ hok
     refine AB_runk (b' := (subB (fBody 30) 4).drop 5) (st' := ⟨(jS a ps ((i + 1 : Nat) : Int)).append [("fixed", .mut (out.map D.str :: tl).length)], (out.map D.str :: tl) ++ [[]]⟩) hGC hk 12 5 [.v (.val (.ref a)), .b true, .b true, .b false, .v (.str l2), .b true, .b true, .b true] (fun z k => ?_) (by with_unfolding_all rfl)
      (j_fixed hG hk hd.next hs (j_len hall hA2 (by decide)) fun j x m' tl2 h1 h2 s => T_go hW ⟨_, Nat.lt_succ_of_le (dropW_le _), .mk j _ (out ++ x) tl2 h1 ?_ hok2⟩ s rfl)
     ·with_unfolding_all exact k rfl (fun st Φ k => cmp_isnot_str k) (hd.next.sub _) hd.next.ne rfl (fun st Φ k => cmp_is_same k) (hd.sub _)
     rw [h2, ← hall, List.append_assoc]
     congr 1
     split
     ·rename_i e
      rw [e, show starP [] = [] by rw [starP]; exact nofun]; rfl
     ·rfl
inductive JnA (a : Addr) (ps : List Pc) (PRE : List (List Nat)) (RST : List Pc) : Nat → St → Prop
 | mk (i : Nat) (rest : List Pc) (out : List (List Nat)) (hd : JAt ps i rest) (hpre : out ++ (rest.takeWhile (·.isSome)).map (·.getD []) = PRE) (hrst : rest.dropWhile (·.isSome) = RST) : JnA a ps PRE RST rest.length ⟨jS a ps (i : Nat), [out.map D.str]⟩
theorem w_join (hG : GFs Γ F) (hk : C.kn = (fScope 30).names) (hlen : ps.length ≤ 1000) (hsz : ∀ p ∈ ps, (p.getD []).length ≤ 100) (hok : starOk (ps.dropWhile (·.isSome)) = true) :
  AB Γ C (fBody 30) ⟨[("inp", .lst (ps.map (pcD a))), ("STAR", .val (.ref a))], []⟩ (Res 0 (.str (joinP ps))) := by
 have hGC := hG.toGC
 have hs : szP ps ≤ 110000 := by
  have := sums_le2 (k := 110) (f := fun p : Pc => (p.getD []).length + 10) (l := ps) fun p hp => Nat.add_le_add_right (hsz p hp) 10
  exact Nat.le_trans this (Nat.mul_le_mul_left 110 hlen)
 have hA : (((ps.takeWhile (·.isSome)).map (·.getD [])) ++ starP (ps.dropWhile (·.isSome))).flatten.length + (((ps.takeWhile (·.isSome)).map (·.getD [])) ++ starP (ps.dropWhile (·.isSome))).length ≤ 110000 := by
  have h1 := szP_flat (ps.takeWhile (·.isSome))
  have h2 := starP_sz _ (ps.dropWhile (·.isSome)) (Nat.le_refl _)
  have h3 := szP_split ps
  rw [List.flatten_append, List.length_append, List.length_append]
  exact ar3 (by rw [List.length_map]; exact h1) h2 h3 hs
 have hJ : joinP ps = [40, 63, 115, 58] ++ (((ps.takeWhile (·.isSome)).map (·.getD [])) ++ starP (ps.dropWhile (·.isSome))).flatten ++ [41, 92, 90] := rfl
 rw [hJ]
 refine AB_runk (b' := (fBody 30).drop 3) (st' := ⟨[("inp", .lst (ps.map (pcD a))), ("STAR", .val (.ref a)), ("res", .mut 0), ("add", .meth 0), ("n", .int ((ps.map (pcD a)).length : Nat)), ("i", .int 0)], [[]]⟩) hGC hk 12 3 [.b true] (fun z k => k) (by with_unfolding_all rfl) ?_
 rw [List.length_map]
 refine AB_weak (m' := jS a ps 0) (Sub_of rfl) (AB_c (AS_While (AC_inv (JnA a ps ((ps.takeWhile (·.isSome)).map (·.getD [])) (ps.dropWhile (·.isSome))) ?_ _ _ (.mk 0 ps [] ⟨rfl, Nat.zero_add _⟩ rfl rfl))))
 generalize hPRE : (ps.takeWhile (·.isSome)).map (·.getD []) = PRE at hA
 generalize ps.dropWhile (·.isSome) = RST at hok hA
 clear hJ hPRE
 rintro n Φ' W' - hW st ⟨i, rest, out, hd, hpre, hrst⟩
 have ext : rest.takeWhile (·.isSome) = [] → rest.dropWhile (·.isSome) = rest → AB Γ C ((fBody 30).drop 4) ⟨jS a ps (i : Nat), [out.map D.str]⟩ (Res 0 (.str ([40, 63, 115, 58] ++ (PRE ++ starP RST).flatten ++ [41, 92, 90]))) := fun h1 h2 =>
  j_stars hG hk hd (by rw [← hpre, ← hrst, h1, h2, List.map_nil, List.append_nil]) (by rw [← h2, hrst]; exact hok) hs (Nat.le_trans (Nat.le_add_right _ _) hA) (Nat.le_trans (Nat.le_add_left _ _) hA)
 cases rest with
 | nil =>
  refine AT_evk hGC hk 10 [.b false] (fun z k => ?_) (by with_unfolding_all rfl) (B_ff (AB_nil (C_next (ext rfl rfl))))
  with_unfolding_all exact k hd.nlt
 | cons p r =>
  cases p with
  | none =>
   refine AT_evk hGC hk 10 [.b true, .v (.val (.ref a)), .b false, .b false] (fun z k => ?_) (by with_unfolding_all rfl) (B_ff (AB_nil (C_next (ext rfl rfl))))
   with_unfolding_all exact k rfl (fun st Φ k => cmp_isnot_same k) (hd.sub _) hd.lt
  | some l =>
   refine AT_evk hGC hk 10 [.b true, .v (.str l), .b true, .b true] (fun z k => ?_) (by with_unfolding_all rfl) (B_tt ?_)
   ·with_unfolding_all exact k rfl (fun st Φ k => cmp_isnot_str k) (hd.sub _) hd.lt
   refine AB_evk hGC hk 10 [.v (.str l), .l (out.map D.str)] (fun z k => ?_) (T_go hW ⟨_, Nat.lt_succ_self _, .mk (i + 1) r (out ++ [l]) hd.next (by rw [← hpre, List.append_assoc]; rfl) hrst⟩ rfl j_put)
   ·with_unfolding_all exact k ⟨rfl, by
     rw [List.length_map]
     exact j_len (k := 0) (ALL := PRE ++ starP RST) (by rw [← hpre, List.append_assoc]) (Nat.le_trans (Nat.le_add_left _ _) hA) (Nat.zero_le 10)⟩ (hd.sub _)
theorem noMutL_pc (a : Addr) : ∀ ps : List Pc, noMutL (ps.map (pcD a)) = true
 | [] => rfl
 | none :: r => by simp only [List.map_cons, noMutL, noMutL_pc a r, pcD, noMut]; rfl
 | some l :: r => by simp only [List.map_cons, noMutL, noMutL_pc a r, pcD, noMut]; rfl
theorem fn_join (hG : GFs Γ F) {ps : List Pc} {a : Addr} (hlen : ps.length ≤ 1000) (hsz : ∀ p ∈ ps, (p.getD []).length ≤ 100) (hok : starOk (ps.dropWhile (·.isSome)) = true) : Fn Γ 2 (.ref (F 30)) [.lst (ps.map (pcD a)), .val (.ref a)] (.str (joinP ps)) :=
 Fn.of (n := 1) (k := 0) (m' := [("inp", .lst (ps.map (pcD a))), ("STAR", .val (.ref a))]) (hG.fs 30 (by decide)) (by decide +kernel) (by rfl) (by simp only [noMutL, noMut, noMutL_pc]; rfl) (by intro p hp; simp at hp; rcases hp with rfl | rfl <;> rfl) fun C hk h1 h2 => w_join hG hk hlen hsz hok
end
end
section
theorem re_plain : PlainAttrs "re.Pattern" :=
 ⟨⟨"object.__getattribute__", by rw [typeLookup_type, builtinLookup_eq_fast]; kernel_rfl, by decide +kernel⟩, by rw [typeLookup_type, builtinLookup_eq_fast]; kernel_rfl⟩
theorem re_slot : Slot "re.Pattern" "sub" "re.Pattern.sub" :=
 .of (owner := "re.Pattern") (n := "sub") (by rw [typeLookup_type, builtinLookup_eq_fast]; kernel_rfl) (by decide +kernel) (by decide +kernel) (by decide +kernel)
  (by first | exact .inl (by decide +kernel) | exact .inr (by decide +kernel)) (by rw [isSubtype_type]; kernel_rfl)
theorem re_type : typeOf (.builtin "re.Pattern.sub") = pure (.type "method_descriptor") := by show builtinType _ = _; rw [builtinType_eq_fast]; kernel_rfl
theorem re_entry : entryFor table "re.Pattern.sub" = some Builtin.«re.Pattern.sub» := entryFor_of_tree (by kernel_rfl)
theorem re_loop : entryFor table "re.Pattern.sub.loop" = some Builtin.«re.Pattern.sub.loop» := entryFor_of_tree (by kernel_rfl)
theorem re_args (a b c : Value) : argsOk "re.Pattern.sub" ⟨[a, b, c], []⟩ := by unfold argsOk; kernel_rfl
theorem fn_call : typeLookup (.type "function") "__call__" = pure (some (.builtin "function.__call__")) := by rw [typeLookup_type, builtinLookup_eq_fast]; kernel_rfl
/-! the machine -/
noncomputable def reCode : List Nat := [14, 14, 4, 1, 1, 9, 0, 64, 0, 1342177280, 0, 0, 0, 0, 0, 17, 0, 13, 11, 9, 0, 64, 0, 1342177280, 0, 0, 0, 0, 0, 17, 1, 1]
noncomputable def driveN : Nat → Sre.M → Option Sre.M
 | 0, _ => none
 | n + 1, m => let m := m.runFor 4; if m.outcome.isSome then some m else driveN n m
noncomputable def noHit (x : List Nat) : Bool := match driveN 60 (Sre.forSearch reCode.toArray x.toArray 1 0 x.length false) with
 | some m => (match m.outcome with | some .failed => true | _ => false)
 | none => false
section
variable {prog : Program} {w : World} {A : Around} {E : Value → Shared → Prop} {s : Shared}
theorem wp_drive {Q : Sre.M → Shared → Prop} : ∀ (n turns : Nat) (m m' : Sre.M), driveN n m = some m' → n ≤ turns → Q m' s → wpAny (model prog w) A (Builtin.Re.reDrive turns m) Q E s
 | 0, _, m, m', h, _, _ => by simp [driveN] at h
 | n + 1, 0, m, m', _, h, _ => by omega
 | n + 1, turns + 1, m, m', h, hl, q => by
  unfold driveN at h
  unfold Builtin.Re.reDrive
  simp only at h ⊢
  show wpAny _ _ (if (m.runFor 4).outcome.isSome then pure (m.runFor 4) else do rule "sre.turn"; Builtin.Re.reDrive turns (m.runFor 4)) Q E s
  split
  ·rename_i ho
   rw [if_pos ho] at h; cases h
   exact wpAny_pure q
  ·rename_i ho
   rw [if_neg ho] at h
   exact wpAny_bind (wpAny_rule (wp_drive n turns _ m' h (by omega) q))
theorem wp_rules {l : List Nat} {p : Nat → Bool} {f : Nat → String} {Q : PUnit → Shared → Prop} (h : Q ⟨⟩ s) : wpAny (model prog w) A (forIn l PUnit.unit fun i __s => if p i = true then do
      rule (f i)
      pure (ForInStep.yield PUnit.unit)
     else pure (ForInStep.yield PUnit.unit)) Q E s := by
 induction l with
 | nil => exact wpAny_pure h
 | cons a r ih =>
  rw [List.forIn_cons]
  refine wpAny_bind ?_
  split
  ·exact wpAny_bind (wpAny_rule (wpAny_pure ih))
  ·exact wpAny_pure ih
theorem wp_noHit {x : List Nat} {Q : Option Sre.M → Shared → Prop} (hx : noHit x = true) (q : Q none s) : wpAny (model prog w) A (Builtin.Re.reRunToEnd (Sre.forSearch reCode.toArray x.toArray 1 0 x.length false)) Q E s := by
 unfold noHit at hx
 cases hd : driveN 60 (Sre.forSearch reCode.toArray x.toArray 1 0 x.length false) with
 | none => rw [hd] at hx; simp at hx
 | some m =>
  rw [hd] at hx
  simp only at hx
  unfold Builtin.Re.reRunToEnd
  refine wpAny_bind (wp_drive 60 _ _ m hd (by omega) ?_)
  refine wpAny_bind (wp_rules ?_)
  cases ho : m.outcome with
  | none => rw [ho] at hx; simp at hx
  | some oc =>
   cases oc with
   | failed => exact wpAny_pure q
   | matched => rw [ho] at hx; simp at hx
   | stuck why => rw [ho] at hx; simp at hx
structure PatIs (h : Heap) (p : Addr) (vs : Array Value) (cl : Addr) (items : Array Value) : Prop where
 obj : ∃ o, h.get? p = some o ∧ o.cls = .type "re.Pattern" ∧ o.data = .fields vs
 v5 : vs.getD 5 .none = .ref cl
 v2 : Builtin.Re.reRawNat (vs.getD 2 .none) = 1
 v6 : Builtin.Re.reRawNat (vs.getD 6 .none) = 0
 code : ∃ o n, h.get? cl = some o ∧ o.data = .seq items n
 is : items.map Builtin.Re.reRawOf = (reCode.map fun n : Nat => (n : Int)).toArray
theorem wp_target {p cl : Addr} {vs items : Array Value} {x : List Nat} {t : PySem.Tok} {Q : Builtin.Re.ReTarget → Shared → Prop} (hp : PatIs s.heap p vs cl items)
  (q : Q { pattern := .ref p, string := .str (S x) t, code := reCode.toArray, text := x.toArray, kind := 0, groups := 1, pos := 0, lim := x.toArray.size } s) : wpAny (model prog w) A (Builtin.Re.reWholeTarget (.ref p) (.str (S x) t)) Q E s := by
 obtain ⟨o, ho, hc, hd⟩ := hp.obj
 obtain ⟨o2, n, ho2, hd2⟩ := hp.code
 unfold Builtin.Re.reWholeTarget
 refine wpAny_bind (wpAny_fieldsOf ho hd ?_)
 have e1 : Builtin.Re.reTextOf (.str (S x) t) = pure (x.toArray, 0) := by rfl
 rw [e1]
 refine wpAny_bind (wpAny_pure ?_)
 simp only [hp.v6, hp.v5, hp.v2]
 show wpAny _ _ (Builtin.Re.reNoCollectionInside (.str (S x) t) 0 >>= fun _ => _) Q E s
 have e2 : Builtin.Re.reNoCollectionInside (.str (S x) t) 0 = pure () := by rfl
 rw [e2]
 refine wpAny_bind (wpAny_pure ?_)
 unfold Builtin.Re.reRawItems
 refine wpAny_bind (wpAny_bind (wpAny_seqItems ho2 hd2 (wpAny_pure ?_)))
 simp only [Option.getD_some, hp.is]
 refine wpAny_pure ?_
 have e3 : Array.map (fun x : Int => x.toNat) (List.map (fun n : Nat => (n : Int)) reCode).toArray = reCode.toArray := by rw [List.map_toArray]; rfl
 rw [e3]
 exact q
theorem wpIfT {α : Type} {M : Model} {p : Prop} [Decidable p] {t u : Sem α} {Q : α → Shared → Prop} (h : p) (k : wpAny M A t Q E s) : wpAny M A (if p then t else u) Q E s := by rw [if_pos h]; exact k
theorem wp_loop {p f l cl : Addr} {vs items : Array Value} {x : List Nat} {t : PySem.Tok} {Q : Value → Shared → Prop} {kk : Nat} (hp : PatIs s.heap p vs cl items) (hx : noHit x = true) (hx0 : x ≠ []) (hl : x.length ≤ 1000) (hL : s.heap.get? l = some { cls := .type "list", data := .seq #[] kk })
  (q : ∀ h' t' tk, (∀ a o, s.heap.get? a = some o → a ≠ l → h'.get? a = some o) → Q (.str (S x) t') { s with heap := h', toks := tk }) :
  wpAny (model prog w) A (Builtin.«re.Pattern.sub.loop» ⟨[.ref p, .str (S x) t, .ref f, rawInt 1, rawInt 0, rawInt 0, rawInt 0, rawInt 0, .bool false, .ref l, .bool false], []⟩) (fun fin s' => ∃ v, fin = .done (.ret v) ∧ Q v s') E s := by
 have hex : x.toArray.extract (0 : Int).toNat x.toArray.size = x.toArray := Array.extract_size
 refine wpAny_bind (wp_target hp ?_)
 refine wpAny_bind (wp_noHit hx ?_)
 refine wpIfT (p := (0 : Int).toNat < x.toArray.size) (List.length_pos_iff.mpr hx0) ?_
 refine wpAny_bind (wpAny_mkStr ?_ (by rw [hex, sl_is]; exact Nat.le_trans hl (by decide)))
 rw [hex]
 refine wpAny_bind (wpAny_updateSeq hL rfl ?_)
 refine wpAny_bind (wpAny_mkStr ?_ (by simp [Str.length]))
 refine hide fun G hG => ?_
 obtain ⟨n', hL'⟩ := IsL_set hL (fun y : Array Value => y.push (Value.str { cps := x.toArray } s.toks))
 refine hG (wpAny_bind (wpAny_seqItems hL' rfl (wpIteF rfl (wpAny_bind (SC.join (l := [(S x, s.toks)]) (texts := [S x]) ⟨_, hL', rfl, n', rfl⟩ rfl ?_ fun t' k => ?_)))))
 ·unfold JoinOk
  rw [StrLaws.joinTotal]
  simp only [Builtin.Str.tooLong, sizeLine]
  have hz : ({ cps := #[] } : Str).length = 0 := rfl
  simp [S_len, hz]
  exact Nat.le_trans hl (by decide)
 ·rw [show Txt.join ({ cps := x.toArray.extract 0 0 } : Str) [S x] = S x from (congrArg (fun z : Str => Txt.join z [S x]) (show ({ cps := x.toArray.extract 0 0 } : Str) = S [] by simp [S])).trans (join_is [] [x])]
  exact wpAny_pure ⟨_, rfl, q _ _ _ fun a o e hne => ((Heap.SameBut.update s.heap l (Obj.mapSeq fun y : Array Value => y.push (Value.str { cps := x.toArray } s.toks))).2 a hne).trans e⟩
theorem wp_sub {p f cl : Addr} {vs items : Array Value} {x : List Nat} {t : PySem.Tok} {Q : Value → Shared → Prop} (hp : PatIs s.heap p vs cl items) (hf : ∃ o, s.heap.get? f = some o ∧ o.cls = .type "function") (hx : noHit x = true) (hx0 : x ≠ []) (hl : x.length ≤ 1000)
  (q : ∀ h' t' tk, (∀ a o, s.heap.get? a = some o → h'.get? a = some o) → Q (.str (S x) t') { s with heap := h', toks := tk }) :
  wpAny (model prog w) A (call (.builtin "re.Pattern.sub") [.ref p, .ref f, .str (S x) t]) Q E s := by
 refine hide fun G hG => ?_
 obtain ⟨o, ho, hc, hd⟩ := hp.obj
 obtain ⟨fo, hfo, hfc⟩ := hf
 refine hG ?_
 clear hG G
 refine wpAny_call (codeAny_call_builtin re_slot.plain re_entry (re_slot.check _ _ _ _ _ _ _ _ ⟨o, ho, hc⟩ (re_args _ _ _) ?_))
 refine wpAny_bind (wpAny_of_eq (a := [some (.ref f), some (.str (S x) t), none]) rfl ?_)
 refine wpAny_bind (wpAny_of_eq (a := (0 : Int)) rfl ?_)
 refine wpAny_bind (wpAny_specialOf ⟨fo, hfo, hfc⟩ fn_call ?_)
 refine wpAny_bind (wpAny_of_eq (a := false) rfl ?_)
 refine wpAny_bind (wpAny_of_eq (a := (.ref f, (1 : Int))) rfl ?_)
 refine wpAny_bind (wpAny_holding (wp_target hp ?_))
 refine wpAny_bind ?_
 have e2 : isSubtype (.type "str") (.type "bytearray") = pure false := by rw [isSubtype_type]; kernel_rfl
 refine wpAny_bind (wpAny_isInstance (T := "str") (typeIs_str _ _ _) e2 (wpAny_of_eq rfl ?_))
 refine wpAny_bind (wpAny_newList ?_ (Nat.zero_le _))
 refine wpAny_pure ⟨Code.quiet_builtin _ (by decide +kernel), codeAny_builtin re_loop ?_⟩
 have kp : ∀ a o, s.heap.get? a = some o → (s.heap.push { cls := .type "list", data := .seq ([] : List Value).toArray }).get? a = some o := fun _ _ => Heap.get?_push_of_some _
 have hp' : PatIs (s.heap.push { cls := .type "list", data := .seq ([] : List Value).toArray }) p vs cl items :=
  ⟨hp.obj.imp fun o z => ⟨kp _ _ z.1, z.2⟩, hp.v5, hp.v2, hp.v6, hp.code.imp fun o => Exists.imp fun n z => ⟨kp _ _ z.1, z.2⟩, hp.is⟩
 exact wpAny_mono (wp_loop (s := { s with heap := s.heap.push { cls := .type "list", data := .seq ([] : List Value).toArray } }) (Q := Q) hp' hx hx0 hl (Heap.get?_push_size _ rfl) fun h' t' tk hk => q h' t' tk fun a o e => hk a o (kp a o e) (Nat.ne_of_lt (Heap.lt_size e))) (fun fin s' hq => hq.elim fun v z => z.1 ▸ z.2) fun _ _ e => e
end
end
section
section
variable {Γ : Gl prog w} {C : Cx} {st : St}
theorem Fn.ofE {n k i : Nat} {a : Addr} {ds : List D} {r : D} {fd : FuncData} (hf : GFn Γ a i) (hfd : Γ.fn a = some fd) (hok : fOk i = true) (hps : ds.length = (fPs i).length) (hnm : noMutL ds = true) (m' : List (Str × D))
  (hs : ∀ p ∈ m', ((fPs i).zip ds).lookup p.1 = some p.2) (hbody : ∀ C : Cx, C.kn = (fScope i).names → C.env.code = fd.code → C.A.depth + n ≤ 600 → C.A.units + 10 * n ≤ 5000 → AB Γ C (fBody i) ⟨m', []⟩ fun fl st' => ∃ d, fl = .ret d ∧ fz k st'.mu d = r ∧ noMut r = true) : Fn Γ (n + 1) (.ref a) ds r := by
 obtain ⟨fd', h1, h2, h3, h4, h5, h6⟩ := hf.fd
 rw [hfd] at h1; cases h1
 unfold fOk at hok
 simp only [Bool.and_eq_true, Bool.not_eq_true', beq_iff_eq, decide_eq_true_eq] at hok
 obtain ⟨⟨⟨⟨⟨⟨⟨⟨⟨k1, k2⟩, k3⟩, k4⟩, k5⟩, k6⟩, k7⟩, k8⟩, k9⟩, k10⟩ := hok
 refine Fn.introE (k := k) (ps := fPs i) hfd h2 h5 (by rw [h3]; exact k1) (by rw [h3]; exact k2) (by rw [h3]; exact k3) h6 hps k9 (by rw [h3]; exact k10) hnm fun C hk he hd hu => ?_
 intro s as Q E R kk
 refine hbody C (by rw [hk, h3]) he hd hu s as Q E ?_ kk
 exact { R with vars := fun x d e => R.vars x d (hs (x, d) (mem_of_lookup e)) }
/-! what _translate leans on: its code's table -/
structure GT (Γ : Gl prog w) (F : Nat → Addr) (c : Addr) (mg : Str → Option Value) : Prop where
 fd : ∃ fd, Γ.fn (F 29) = some fd ∧ fd.code = .ref c
 ex : Γ.Ex = fun a => a = Γ.P
 j : Γ.J = fun L => ∃ ps : Array Value, L = [(Γ.P, tabObj ps)] ∧ TriplesOk ps.toList
 code : ∀ h, Γ.ok h → CodeHd h c Γ.P
 bm : ∀ h, Γ.ok h → h.BuiltinsAt mg Γ.P ∧ h.Ns mainGlobals mg
 ne : mainGlobals ≠ Γ.P
 pat : ∃ p cl vs items, Γ.nv "_twin_re_1" = some (.ref p) ∧ ∀ h, Γ.ok h → PatIs h p vs cl items ∧ ∃ o, h.get? p = some o ∧ o.dict = Option.none
theorem lam_run {F : Nat → Addr} {c : Addr} {mg : Str → Option Value} (T : GT Γ F c mg) (hcode : C.env.code = .ref c) {args : Arguments} {body : Expr} {scope : Scope} {pos : Pos} (hd0 : defaultsOf args C.env = ([], [])) (hcl : closureFor scope C.env = pure []) {s : Shared} {as : List Addr} {Q : Value → Shared → Prop} {E : Value → Shared → Prop} (R : Rel Γ C s.heap as st)
  (q : ∀ f s', Rel Γ C s'.heap as st → (∃ o, s'.heap.get? f = some o ∧ o.cls = .type "function" ∧ ∃ fd, o.data = .func fd) → (∀ d v, Rp s.heap C.X as d v → Rp s'.heap C.X as d v) → Ext C s.heap as s'.heap as → Sm s s' → Q (.ref f) s') : wpAny (model prog w) C.A (eval (.Lambda args body scope pos) C.env) Q E s := by
 have okh := R.okh
 obtain ⟨L, hj, hL⟩ := R.inv
 rw [R.c.jE, T.j] at hj
 obtain ⟨ps, rfl, ht⟩ := hj
 have hP := (hL _ (.head _)).1
 obtain ⟨hb, hg⟩ := T.bm _ okh
 rw [arm_eval_Lambda, hd0]
 refine wpAny_bind (wpAny_pure ?_)
 refine wpAny_bind (wpAny_holding (wpAny_pure ?_))
 cases hnf : codeAmong pos ps.toList with
 | some cv =>
  refine kla_makeFunctionHit hcl R.c.glo hg hcode (T.code _ okh) hP ht hnf hb fun ctv h' tk hk hsz => ?_
  have N := R.sub hk
  have hk2 := fun (a : Addr) (o : Obj) (e : s.heap.get? a = some o) => Heap.get?_push_of_some { cls := .type "function", data := .func (kla_fn "<lambda>" (C.env.qual ++ "<lambda>") args body scope [] ((mg "__name__").getD .none) cv ctv) } (hk a o e)
  have J := R.jump (h' := h'.push { cls := .type "function", data := .func (kla_fn "<lambda>" (C.env.qual ++ "<lambda>") args body scope [] ((mg "__name__").getD .none) cv ctv) }) (fun a o e _ => hk2 a o e) (fun a ha => by obtain ⟨o, vs, e, hh⟩ := R.exA a ha; exact ⟨o, vs, hk2 a o e, hh⟩) ⟨_, by rw [R.c.jE, T.j]; exact ⟨ps, rfl, ht⟩, fun p hp => ⟨hk2 _ _ (hL p hp).1, (hL p hp).2⟩⟩
  refine q _ { s with heap := h'.push _, toks := tk } J.1 ⟨_, Heap.get?_push_size _ rfl, rfl, _, rfl⟩ J.2.1 J.2.2 ⟨rfl, id⟩
 | none =>
  refine kla_makeFunction hcl R.c.glo hg hcode (T.code _ okh) hP ht hnf T.ne hb fun c' ctv h' tk hx hge hlt hrec htab => ?_
  have hk2 : ∀ a o, s.heap.get? a = some o → ¬ C.Ex a → (h'.push (kla_obj "<lambda>" (C.env.qual ++ "<lambda>") args body scope [] ((mg "__name__").getD .none) c' ctv)).get? a = some o := fun a o e n => Heap.get?_push_of_some _ (hx a o (fun z => n (by rw [R.c.exE, T.ex]; exact z)) e)
  have htab2 := Heap.get?_push_of_some (kla_obj "<lambda>" (C.env.qual ++ "<lambda>") args body scope [] ((mg "__name__").getD .none) c' ctv) htab
  have J := R.jump (h' := h'.push (kla_obj "<lambda>" (C.env.qual ++ "<lambda>") args body scope [] ((mg "__name__").getD .none) c' ctv)) hk2 (fun a ha => by
   have : a = Γ.P := by rw [R.c.exE, T.ex] at ha; exact ha
   subst this
   exact ⟨_, _, htab2, rfl, rfl⟩) ⟨[(Γ.P, tabObj (ps ++ #[rawInt pos.line, rawInt pos.col, .ref c']))], by
    rw [R.c.jE, T.j]
    exact ⟨_, rfl, by
     have hl : (ps ++ #[rawInt pos.line, rawInt pos.col, Value.ref c']).toList = ps.toList ++ [rawInt pos.line, rawInt pos.col, .ref c'] := by simp
     rw [hl]; exact TriplesOk_snoc _ _ _ _ ht⟩, fun p hp => by
    rw [List.mem_singleton] at hp; subst hp
    exact ⟨htab2, .inl rfl, _, rfl⟩⟩
  refine q _ { s with heap := h'.push _, toks := tk } J.1 ⟨_, Heap.get?_push_size _ rfl, rfl, _, rfl⟩ J.2.1 J.2.2 ⟨rfl, id⟩
end
end
section
section
variable {Γ : Gl prog w} {C : Cx} {st : St}
theorem AE_Resub {F : Nat → Addr} {c : Addr} {mg : Str → Option Value} (T : GT Γ F c mg) (hcode : C.env.code = .ref c) {tw x : Str} {l : List Nat} {args : Arguments} {body : Expr} {scope : Scope} {p1 p2 apos lpos pos : Pos} {Φ : D → St → Prop}
  (htw : tw = "_twin_re_1") (hk : C.kn.lookup tw = some .globalImplicit) (hn : nmOk x = true) (e : st.m.lookup x = some (.str l)) (hd0 : defaultsOf args C.env = ([], [])) (hcl : closureFor scope C.env = pure []) (hline : (apos.endLine == pos.line) = true)
  (hx : noHit l = true) (hx0 : l ≠ []) (hl : l.length ≤ 1000) (h : Φ (.str l) st) : AE Γ C (.Call (.Attribute (.Name tw p1) "sub" apos) [.Lambda args body scope lpos, .Name x p2] [] pos) st Φ := by
 subst htw
 intro s as Q E R k
 obtain ⟨p, cl, vs, items, hv, hpat⟩ := T.pat
 obtain ⟨hp, o, ho, hod⟩ := hpat _ R.okh
 obtain ⟨o', ho', hoc, _⟩ := hp.obj
 have hb' := back_plain (env := C.env) (pos := pos) (es := [.Lambda args body scope lpos, .Name x p2]) rfl
 refine wpAny_Call_method (base_is (by rfl)) ?_ hline re_plain re_slot re_type (wpAny_Name (load_global hk hv R ?_) (nmOk_d (by decide +kernel)))
 ·rw [hb']; rfl
 refine ⟨⟨o', ho', hoc⟩, fun a ea => by cases ea; exact ⟨o, ho, hod⟩, ?_⟩
 rw [hb']
 refine Calls.callWith_builtin (by rfl) (evalArgs_plain (spliced_cons (lam_run T hcode hd0 hcl R fun f s1 R1 hf l1 x1 m1 => ?_)))
 refine spliced_cons ((AE_Name (Γ := Γ) (C := C) (Φ := fun d st' => d = .str l ∧ st' = st) hn e ⟨rfl, rfl⟩) s1 as _ E R1 ?_)
 rintro v d st2 as2 s2 ⟨rfl, rfl⟩ R2 r2 x2 m2
 obtain ⟨⟨t, rfl⟩, hlen⟩ := r2
 refine spliced_nil ?_
 obtain ⟨fo, hfo, hfc, fd, hfd⟩ := hf
 have hfo2 := x2.keep f fo hfo (R1.notMu hfo (.inr fun _ _ => ob_no hfd rfl)) (R1.notL hfo (fun _ _ => ob_no hfd rfl)) (R1.notOwn hfo (fun _ => ob_no hfd rfl)) (R1.notEx hfo (.inl fun _ => ob_no hfd rfl))
 refine wp_sub (hpat _ R2.okh).1 ⟨fo, hfo2, hfc⟩ hx hx0 hl fun h' t' tk hk' => ?_
 refine k _ (.str l) st2 as2 { s2 with heap := h', toks := tk } h (R2.sub hk') (by exact ⟨⟨_, rfl⟩, hlen⟩) ((x1.trans R1 x2).trans R2 (Ext.sub hk')) (m1.trans (m2.trans .of))
end
end
section
open PySem.Builtin PySem.Builtin.Str
section
variable {A : Around} {E : Value → Shared → Prop} {s : Shared}
theorem call_replace0 {x y z : Str} {t u v : PySem.Tok} {Q : Value → Shared → Prop} (ho : (occurrences x y 0 x.length (x.length + 1)).isEmpty = true) (q : Q (.str x t) s) : wpAny (model prog w) A (call (.builtin "str.replace") [.str x t, .str y u, .str z v]) Q E s := by
 refine call_gives F.slot_str_replace (typeIs_str _ _ _) F.entry_str_replace (F.args_str_replace_3 _ _ _) (gives_str_replace x y z t u v fun h => by rw [ho] at h; simp at h) ?_
 rw [ho]
 simp only [Bool.true_or, if_true]
 exact q
theorem occ_empty {x y : List Nat} (hy : y ≠ []) (h : occR y 0 0 x = []) : (occurrences (S x) (S y) 0 (S x).length ((S x).length + 1)).isEmpty = true := by
 rw [S_len, occ_is hy (Nat.le_refl _)]; simp [h]
theorem elt_run {env : Env} {xs : Str} {m : Str → Option Value} {l : List Nat} {t : PySem.Tok} {c1 c2 c3 c4 : Str} {n1 n2 n3 n4 : Nat} {p0 q1 q2 q3 q4 a1 a2 b1 b2 : Pos} {r : Str} {Q : Value → Shared → Prop}
  (hk : env.scope.kind = .function) (hx : env.kindOf xs = some .local) (hcd : (xs == ("__classdict__" : Str)) = false) (hdb : (xs == ("__debug__" : Str)) = false) (hn : s.heap.Ns env.locals m) (hm : m xs = some (.str (S l) t)) (hl1 : (a1.endLine == b1.line) = true) (hl2 : (a2.endLine == b2.line) = true)
  (ho : (occurrences (S l) c1 0 (S l).length ((S l).length + 1)).isEmpty = true) (hr : Txt.replace (S l) c3 c4 = r) (hne : (c3 == c4) = false) (hb : (S l).length + ((S l).length + 1) * c4.length ≤ 16777216) (q : ∀ t' k, Q (.str r t') { s with toks := k }) :
  wpAny (model prog w) A (eval (.Call (.Attribute (.Call (.Attribute (.Name xs p0) "replace" a1) [.Constant (.str c1) n1 q1, .Constant (.str c2) n2 q2] [] b1) "replace" a2) [.Constant (.str c3) n3 q3, .Constant (.str c4) n4 q4] [] b2) env) Q E s := by
 have hb1 := back_plain (env := env) (pos := b1) (es := [.Constant (.str c1) n1 q1, .Constant (.str c2) n2 q2]) rfl
 have hb2 := back_plain (env := env) (pos := b2) (es := [.Constant (.str c3) n3 q3, .Constant (.str c4) n4 q4]) rfl
 refine wpAny_Call_method rfl (by rw [hb2]; rfl) hl2 F.plainAttrs_str F.slot_str_replace F.type_str_replace ?_
 refine wpAny_Call_method (base_is (by rfl)) (by rw [hb1]; rfl) hl1 F.plainAttrs_str F.slot_str_replace F.type_str_replace ?_
 refine wpAny_Name (load_var hk (.loc m hx hn hm) ?_ hcd) hdb
 refine ⟨typeIs_str _ _ _, (fun a e => nomatch e), ?_⟩
 rw [hb1]
 refine Calls.callWith_builtin (by rfl) (evalArgs_plain (spliced_cons (Constant_str (spliced_cons (Constant_str (spliced_nil ?_))))))
 refine call_replace0 ho ?_
 refine ⟨typeIs_str _ _ _, (fun a e => nomatch e), ?_⟩
 rw [hb2]
 refine Calls.callWith_builtin (by rfl) (evalArgs_plain (spliced_cons (Constant_str (spliced_cons (Constant_str (spliced_nil ?_))))))
 refine SC.replace (Nat.succ_ne_zero _) (Nat.succ_ne_zero _) (by show s.toks + 1 + 1 ≠ s.toks + 1 + 1 + 1; omega) hne hb fun t' k => ?_
 rw [hr]
 exact q t' k
end
section
variable {Γ : Gl prog w} {C : Cx} {st : St}
theorem gcode_run {M : Model} {A : Around} {E : Value → Shared → Prop} {s : Shared} {env : Env} {c P : Addr} {ps : Array Value} {pos : Pos} {qual : Str} {scope : Scope} {Q : Value → Shared → Prop} (hc : env.code = .ref c) (hC : CodeHd s.heap c P) (hP : s.heap.get? P = some (tabObj ps)) (ht : TriplesOk ps.toList)
  (q : ∀ code h' tk ps', Heap.ExtBut P s.heap h' → s.heap.objs.size ≤ h'.objs.size → h'.get? P = some (tabObj ps') → TriplesOk ps'.toList → Q code { s with heap := h', toks := tk }) : wpAny M A (genexprCode env pos qual scope) Q E s := by
 cases hnf : codeAmong pos ps.toList with
 | some cv =>
  refine hide fun G hG => ?_
  obtain ⟨o, vs, file, tf, flags, tg, inF, text, tt, op, ho, hd, h11, h2, h7, h9, h10, hop, hpd, htr, hne⟩ := hC.code hP ht
  refine hG ?_
  clear hG G
  unfold genexprCode codeAt
  rw [hc, if_neg (show ¬ ((Value.ref c == Value.none) = true) from Bool.false_ne_true)]
  refine wpAny_bind (wpAny_fieldsOf ho hd ?_)
  rw [h11]
  refine wpAny_bind (wpAny_fieldsOf hop hpd ?_)
  rw [hnf]
  exact wpAny_pure (q cv s.heap s.toks ps (Heap.ExtBut.refl _ _) (Nat.le_refl _) hP ht)
 | none =>
  refine wpAny_genexprCodeX hc (hC.code hP ht) (hC.tab hP) hnf fun c' h' tk hx hge hlt hcode hrec htab _ => ?_
  refine q _ h' tk _ hx (Nat.le_trans hge (Nat.le_of_lt hlt)) htab.2 ?_
  have hl : (ps ++ #[rawInt pos.line, rawInt pos.col, Value.ref c']).toList = ps.toList ++ [rawInt pos.line, rawInt pos.col, .ref c'] := by simp
  rw [hl]; exact TriplesOk_snoc _ _ _ _ ht
theorem AE_JoinGen {F : Nat → Addr} {c : Addr} {mg : Str → Option Value} (T : GT Γ F c mg) (hcode : C.env.code = .ref c) {sep xs xc : Str} {nn : Nat} {sp px pc apos gpos pos : Pos} {elt : Expr} {scope : Scope} {k : Nat} {l r : List Nat} {Φ : D → St → Prop}
  (hn : nmOk xc = true) (e : st.m.lookup xc = some (.mut k)) (e2 : st.mu[k]? = some [.str l]) (hline : (apos.endLine == pos.line) = true) (hr : r.length ≤ 1000) (hsep : sep.length ≤ 10)
  (hco : scope.isCoroutine = false) (hclos : closureFor scope C.env = pure []) (hcell : ∀ y ∈ scope.names, y.2 ≠ .cell) (h0 : scope.names.lookup (".0" : Str) = some NameKind.local) (hx : scope.names.lookup xs = some .local) (hkind : scope.kind = .function)
  (helt : ∀ (C0 : Addr) (code : Value) (A' : Around) (E' : Value → Shared → Prop) (t : PySem.Tok) (s₂ : Shared) (m₂ : Str → Option Value) (Q : Value → Shared → Prop), s₂.heap.Ns (genEnv scope [] C0 code builtinsNs C.env).locals m₂ → m₂ xs = some (.str (S l) t) → (∀ t' k, Q (.str (S r) t') { s₂ with toks := k }) → wpAny (model prog w) A' (eval elt (genEnv scope [] C0 code builtinsNs C.env)) Q E' s₂)
  (h : Φ (.str r) st) : AE Γ C (.Call (.Attribute (.Constant (.str sep) nn sp) "join" apos) [.GeneratorExp elt [⟨.Name xs px, .Name xc pc, [], 0⟩] scope gpos] [] pos) st Φ := by
 intro s as Q E R kk
 have hb' := back_plain (env := C.env) (pos := pos) (es := [.GeneratorExp elt [⟨.Name xs px, .Name xc pc, [], 0⟩] scope gpos]) rfl
 refine wpAny_Call_method (base_is (by rfl)) (by rw [hb']; rfl) hline PySem.F.plainAttrs_str PySem.F.slot_str_join PySem.F.type_str_join (Constant_str ?_)
 refine ⟨typeIs_str _ _ _, (fun a e => nomatch e), ?_⟩
 rw [hb']
 refine Calls.callWith_builtin (by rfl) (evalArgs_plain (spliced_cons ?_))
 have hd := R.c.deep
 refine wpAny_GeneratorExp_walksQ R.c.hand hco hclos hcell h0 hx hkind (by show C.A.depth < 1000; omega) ?_ (fun x => by rfl)
 have R0 : Rel Γ C ({ s with toks := s.toks + 1 } : Shared).heap as st := R
 refine (AE_Name (Γ := Γ) (C := C) (Φ := fun d st' => d = .mut k ∧ st' = st) hn e ⟨rfl, rfl⟩) { s with toks := s.toks + 1 } as _ E R0 ?_
 intro v d st1 as1 s1 hds R1' r1' x1 m1
 have R1 : Rel Γ C s1.heap as1 st := hds.2 ▸ R1'
 have r1 : Rp s1.heap C.X as1 (.mut k) v := hds.1 ▸ r1'
 clear R1' r1' hds
 refine hide fun GG hGG => ?_
 obtain ⟨la, hla, hvl⟩ := r1
 obtain ⟨la', vs, hla', hPl, _, hRL⟩ := MuIs.get R1.mus e2
 obtain rfl : la = la' := Option.some.inj (hla.symm.trans hla')
 obtain ⟨t0, rfl⟩ : ∃ t0, vs = #[.str (S l) t0] := by
  obtain ⟨_, hv, ⟨t0, rfl⟩, _⟩ := RpL.one hRL
  exact ⟨t0, by rw [← Array.toList_inj, hv]⟩
 have okh1 := R1.okh
 have hIL : s1.heap.IsList la (#[Value.str (S l) t0] : Array Value) := hPl.isList
 refine hGG (hvl ▸ wpAny_pyIter_list hIL ?_)
 clear hGG hvl
 generalize hH2 : s1.heap.push { cls := .type "list_iterator", data := .fields #[.ref la, .int 0 0] } = H2
 have k12 : ∀ a o, s1.heap.get? a = some o → H2.get? a = some o := fun a o e => by rw [← hH2]; exact Heap.get?_push_of_some _ e
 have R2 : Rel Γ C H2 as1 st := R1.sub k12
 have hit2 : H2.IsListIter s1.heap.objs.size la 0 := ⟨_, by rw [← hH2]; exact Heap.get?_push_size _ rfl, rfl, rfl⟩
 have hsz2 : H2.objs.size = s1.heap.objs.size + 1 := by rw [← hH2]; exact Heap.size_push ..
 have okh2 := R2.okh
 refine ⟨Γ.oklim _ okh2, ?_⟩
 refine hide fun GG hGG => ?_
 obtain ⟨L, hj, hL⟩ := R2.inv
 rw [R2.c.jE, T.j] at hj
 obtain ⟨ps, rfl, ht⟩ := hj
 have hP := (hL _ (.head _)).1
 have hlaP : la ≠ Γ.P := by
  rintro rfl
  obtain ⟨o1, h1, hc1, _⟩ := hIL
  have := k12 _ _ h1
  rw [hP] at this; cases this; cases hc1
 have hPlt : Γ.P < s1.heap.objs.size := by
  obtain ⟨o1, vs1, h1, _⟩ := R1.exA Γ.P (by rw [R1.c.exE, T.ex])
  exact Heap.lt_size h1
 have hlalt : la < s1.heap.objs.size := by obtain ⟨o1, h1, _⟩ := hIL; exact Heap.lt_size h1
 refine hGG (gcode_run hcode (T.code _ okh2) hP ht fun code h3 tk3 ps3 hx3 hge3 htab3 ht3 => ?_)
 clear hGG
 refine hide fun GG hGG => ?_
 have k23 : ∀ a o, H2.get? a = some o → a ≠ Γ.P → h3.get? a = some o := fun a o e n => hx3 a o n e
 have J3 := R2.jump (h' := h3) (fun a o e n => k23 a o e (fun z => n (by rw [R2.c.exE, T.ex]; exact z))) (fun a ha => by
   have : a = Γ.P := by rw [R2.c.exE, T.ex] at ha; exact ha
   subst this
   exact ⟨_, _, htab3, rfl, rfl⟩) ⟨[(Γ.P, tabObj ps3)], by rw [R2.c.jE, T.j]; exact ⟨_, rfl, ht3⟩, fun p hp => by
    rw [List.mem_singleton] at hp; subst hp
    exact ⟨htab3, .inl rfl, _, rfl⟩⟩
 have okh3 := J3.1.okh
 obtain ⟨⟨bm, ob, hbm, hne0, _, _, hbo, hcls, hdict, hdata⟩, hg⟩ := T.bm _ okh3
 refine hGG ?_
 clear hGG
 rw [R2.c.glo]
 refine wpAny_builtinsFor hg hbm hne0 hbo hcls hdict hdata ?_
 have hst1 : cStatics < s1.heap.objs.size := by obtain ⟨_, hn, _⟩ := Γ.oklim _ okh1; exact hn.lt
 refine ex8 s1.heap.objs.size [s1.heap.objs.size, la] [s1.heap.objs.size] 1 (fun i v => (#[Value.str (S l) t0] : Array Value)[i]? = some v) (fun i h => h.IsListIter s1.heap.objs.size la i ∧ h.IsList la (#[Value.str (S l) t0] : Array Value)) (fun _ => true) (fun _ y => ∃ t, y = .str (S r) t) ⟨rfl, fun A' hA => Walks.list hA _ _ (Nat.ne_of_lt hlalt) (#[Value.str (S l) t0] : Array Value), ⟨?_, ?_⟩, ?_, Γ.oklim _ okh3, ?_, ?_, ?_⟩
 ·obtain ⟨o1, h1, q1⟩ := hit2
  exact ⟨o1, k23 _ _ h1 (Nat.ne_of_gt hPlt), q1⟩
 ·obtain ⟨o1, h1, q1⟩ := hIL
  exact ⟨o1, k23 _ _ (k12 _ _ h1) hlaP, q1⟩
 ·intro b hb
  have : s1.heap.objs.size + 1 ≤ h3.objs.size := hsz2 ▸ hge3
  exact (List.mem_cons.mp hb).elim (fun q => q ▸ this) fun q => List.mem_singleton.mp q ▸ Nat.lt_of_lt_of_le (Nat.lt_succ_of_lt hlalt) this
 ·intro hm
  rw [List.mem_singleton] at hm
  rw [hm] at hst1
  exact Nat.lt_irrefl _ hst1
 ·intro href _
  refine ⟨fun A' E' i v s₂ m₂ _ _ _ _ _ => wpAny_pure ⟨rfl, s₂.heap, s₂.toks, rfl, fun _ _ e => e⟩, fun A' E' i v s₂ m₂ _ hPi _ hns hmx _ => ?_⟩
  have hv : v = .str (S l) t0 := by
   have hPi : (#[Value.str (S l) t0] : Array Value)[i]? = some v := hPi
   have hi : i < 1 := (Array.getElem?_eq_some_iff.mp hPi).1
   obtain rfl : i = 0 := by omega
   simpa using hPi.symm
  subst hv
  exact helt _ code A' E' t0 s₂ m₂ (fun y s₃ => (∃ t, y = .str (S r) t) ∧ Keeps s₂ s₃) hns hmx fun t' k => ⟨⟨t', rfl⟩, s₂.heap, k, rfl, fun _ _ e => e⟩
 ·intro a h5 tk5 gs hgb hag hsz5 hk5 W hat
  refine spliced_nil ?_
  have W2 := W.in4_2
  have hi0 : s1.heap.objs.size + 1 ≤ h3.objs.size := by rw [← hsz2]; exact hge3
  refine SC.joinGen W2 (fun i s' st => st.1.typeIs) hat ?_ List.mem_cons_self (fun j v hv => ?_) (fun s' lt hm hacc => ?_) (by decide)
  ·intro b hb
   show b < h5.objs.size
   rw [hsz5]
   rcases List.mem_cons.mp hb with rfl | hb
   ·exact Nat.lt_succ_self _
   ·rcases List.mem_cons.mp hb with rfl | hb
    ·exact Nat.lt_succ_of_lt hag
    ·exact Nat.lt_succ_of_lt (Nat.lt_trans (List.mem_range.mp hb) hag)
  ·obtain ⟨i, _, t, e⟩ := hv
   exact ⟨_, t, e⟩
  ·have hlt : lt.map (·.1) = [S r] := by
    have h1 : lt.length = 1 := by
     have h2 : (passing (fun _ => true) 1 0).length = 1 := by decide
     rw [← h2]; simpa [strValues] using hacc.1
    match lt, h1 with
    | [(y, u)], _ =>
     obtain ⟨i, _, t, e⟩ := hacc.2 0 (.str y u) (by simp [strValues])
     cases e; rfl
   rw [hlt]
   refine ⟨?_, fun t' k2 => ?_⟩
   ·unfold JoinOk
    rw [StrLaws.joinTotal]
    simp only [tooLong, sizeLine]
    simp [S_len]
    omega
   ·have hj : Txt.join sep [S r] = S r := by
     have : sep = S (cp sep) := (S_cp sep).symm
     rw [this]; exact join_is (cp sep) [r]
    rw [hj]
    have far : ∀ {a}, a < s1.heap.objs.size → a ∉ [h3.objs.size, s1.heap.objs.size] := fun ha => apart2 (Nat.ne_of_lt (Nat.lt_of_lt_of_le ha (Nat.le_trans (Nat.le_succ _) hi0))) (Nat.ne_of_lt ha)
    have keep : ∀ a o, s1.heap.get? a = some o → a ≠ Γ.P → s'.heap.get? a = some o := fun a o e n => by
     have ha := Heap.lt_size e
     refine hm.heap a o ?_ (hk5 _ _ (k23 _ _ (k12 _ _ e) n))
     exact far ha
    have htab5 : s'.heap.get? Γ.P = some (tabObj ps3) := by
     refine hm.heap _ _ ?_ (hk5 _ _ htab3)
     exact far hPlt
    have J5 := R1.jump (h' := s'.heap) (fun a o e n => keep a o e (fun z => n (by rw [R1.c.exE, T.ex]; exact z))) (fun a ha => by
      have : a = Γ.P := by rw [R1.c.exE, T.ex] at ha; exact ha
      subst this
      exact ⟨_, _, htab5, rfl, rfl⟩) ⟨[(Γ.P, tabObj ps3)], by rw [R1.c.jE, T.j]; exact ⟨_, rfl, ht3⟩, fun p hp => by
       rw [List.mem_singleton] at hp; subst hp
       exact ⟨htab5, .inl rfl, _, rfl⟩⟩
    refine kk _ (.str r) st as1 { s' with toks := k2 } h J5.1 (by exact ⟨⟨_, rfl⟩, by omega⟩) (x1.trans R1 J5.2.2) ?_
    refine Sm.trans (b := s1) ⟨m1.os, m1.gens⟩ ⟨hm.os, fun g => ?_⟩
    exact (g.push hgb).moved hm.gens
end
end
section
noncomputable def litL : List Nat := [61, 69, 57, 51, 68, 50, 48]
structure GS (Γ : Gl prog w) : Prop where
 sp : ∃ a tf, Γ.nv "_special_chars_map" = some (.ref a) ∧ (a == sysModules) = false ∧ (∀ h, Γ.ok h → h.MapOf (PySem.intKind prog w) a tf) ∧ ∀ c : Nat, c ∈ litL → tf (c : Int) = none
section
variable {Γ : Gl prog w} {F : Nat → Addr}
theorem w_escape {c : Nat} {C : Cx} (hG : GFs Γ F) (hS : GS Γ) (hk : C.kn = (fScope 27).names) (hc : c ∈ litL) :
  AB Γ C (fBody 27) ⟨[("pattern", .str [c])], []⟩ (Res 0 (.str [c])) := by
 obtain ⟨a, tf, h1, h2, h3, h4⟩ := hS.sp
 refine AB_evk hG.toGC hk 10 [.v (.val (.type "str")), .v (.bool true), .b true, .v (.val (.ref a)), .v (.str [c])] (fun q k => ?_) ⟨_, rfl, rfl, rfl⟩
 with_unfolding_all exact k (fun Φ hΦ => ACall_translate_tab (f := fun c => [c]) (List.cons_ne_nil _ _) h2 h3 (fun x hx => .inl ⟨h4 _ (List.mem_singleton.mp hx ▸ hc), rfl⟩) (show 1 ≤ 1048576 by decide) hΦ) h1 rfl (fun Φ hΦ => ACall_isinstance_str hΦ) (hG.toGC.toGF.bv "str" _ rfl)
theorem fn_escape (hG : GFs Γ F) (hS : GS Γ) {c : Nat} (hc : c ∈ litL) : Fn Γ 1 (.ref (F 27)) [.str [c]] (.str [c]) :=
 Fn.of (n := 0) (k := 0) (m' := [("pattern", .str [c])]) (hG.fs 27 (by decide)) (by decide +kernel) (by rfl) rfl (fun p hp => by cases List.mem_singleton.mp hp; rfl) fun C hk h1 h2 => w_escape hG hS hk hc
theorem ACall_replace0 {C : Cx} {st : St} {x y z : List Nat} {Φ : D → St → Prop} (hy : y ≠ []) (ho : occR y 0 0 x = []) (h : Φ (.str x) st) : ACall Γ C (.builtin "str.replace") [.str x, .str y, .str z] st Φ := by
 intro s as vs Q E R r q
 obtain ⟨v1, v2, v3, rfl, ⟨⟨⟨t1, rfl⟩, b1⟩, ⟨⟨t2, rfl⟩, _⟩, ⟨t3, rfl⟩, _⟩⟩ := RpL.three r
 exact call_replace0 (occ_empty hy ho) (q _ (.str x) st as s h R (by exact ⟨⟨_, rfl⟩, b1⟩) (Ext.refl ..) (Sm.refl _))
/-! the tokens of a pattern -/
inductive Pt where
 | star
 | any
 | lit (c : Nat)
 | brk (d c : Nat)
 | blank
noncomputable def brB (d c : Nat) : List Nat := (if d = 0 then [] else if d = 1 then [33] else [122, 45, 97]) ++ [c]
noncomputable def ptS : Pt → List Nat
 | .star => [42]
 | .any => [63]
 | .lit c => [c]
 | .brk d c => 91 :: (brB d c ++ [93])
 | .blank => [91, 32, 9, 93]
noncomputable def escC (c : Nat) : List Nat := if c = 45 then [92, 45] else [c]
noncomputable def ptP : Pt → Pc
 | .star => none
 | .any => some [46]
 | .lit c => some [c]
 | .brk d c => some (91 :: ((if d = 1 then [94] else []) ++ escC c ++ [93]))
 | .blank => some [91, 32, 9, 93]
noncomputable def sgnL : List Nat := [63, 112, 99, 100, 98, 45, 108, 115, 114, 119, 120, 83, 84, 116]
noncomputable def ptOk : Pt → Bool
 | .lit c => decide (c ∈ litL)
 | .brk d c => decide (d < 3) && decide (c ∈ sgnL)
 | _ => true
noncomputable def noAdj : Bool → List Pt → Bool
 | _, [] => true
 | b, .star :: r => !b && noAdj true r
 | _, _ :: r => noAdj false r
noncomputable def textP (ps : List Pt) : List Nat := ps.flatMap ptS
theorem ptS_ne (t : Pt) : ptS t ≠ [] := by cases t <;> simp [ptS]
structure BrkOk (B rr : List Nat) : Prop where
 b1 : B ≠ []
 b2 : 93 ∉ B
 b3 : noHit rr = true
 b4 : rr ≠ []
 b5 : rr ≠ [33]
 b6 : rr.head? ≠ some 94 ∧ rr.head? ≠ some 91
 b7 : rr.length ≤ 10 ∧ B.length ≤ 10
 b8 : B.head? = some 33 → 2 ≤ B.length
 b9 : low rr = true
 kind : (45 ∉ B ∧ 92 ∉ B ∧ rr = B) ∨ (B = [45] ∧ rr = [92, 45]) ∨ (B = [33, 45] ∧ rr = [33, 92, 45]) ∨ (∃ e, B = [122, 45, 97, e] ∧ e ≠ 92 ∧ rr = escC e)
noncomputable def brkR (rr : List Nat) : List Nat := if rr.head? = some 33 then 94 :: rr.tail else rr
noncomputable def rrOf (d e : Nat) : List Nat := (if d = 1 then [33] else []) ++ escC e
noncomputable abbrev BrkP (B rr : List Nat) (e : Nat) : Prop := B ≠ [] ∧ 93 ∉ B ∧ noHit rr = true ∧ rr ≠ [] ∧ rr ≠ [33] ∧ (rr.head? ≠ some 94 ∧ rr.head? ≠ some 91) ∧ (rr.length ≤ 10 ∧ B.length ≤ 10) ∧ (B.head? = some 33 → 2 ≤ B.length) ∧ low rr = true ∧
 ((45 ∉ B ∧ 92 ∉ B ∧ rr = B) ∨ (B = [45] ∧ rr = [92, 45]) ∨ (B = [33, 45] ∧ rr = [33, 92, 45]) ∨ (B = [122, 45, 97, e] ∧ e ≠ 92 ∧ rr = escC e))
theorem BrkP.ok {B rr : List Nat} {e : Nat} (h : BrkP B rr e) : BrkOk B rr :=
 have ⟨b1, b2, b3, b4, b5, b6, b7, b8, b9, k⟩ := h
 ⟨b1, b2, b3, b4, b5, b6, b7, b8, b9, k.imp_right fun k => k.imp_right fun k => k.imp_right fun k => ⟨e, k⟩⟩
theorem brk_all0 : ((List.range 3).all fun d => sgnL.all fun e => decide (BrkP (brB d e) (rrOf d e) e) && decide ((if d = 1 then [94] else []) ++ escC e = brkR (rrOf d e))) = true := by decide +kernel
theorem brk_all (d : Nat) (hd : d < 3) (e : Nat) (he : e ∈ sgnL) : BrkP (brB d e) (rrOf d e) e ∧ (if d = 1 then [94] else []) ++ escC e = brkR (rrOf d e) :=
 have h := Bool.and_eq_true_iff.mp (List.all_eq_true.mp (List.all_eq_true.mp brk_all0 d (List.mem_range.mpr hd)) e he)
 ⟨of_decide_eq_true h.1, of_decide_eq_true h.2⟩
theorem brk_blank : BrkP [32, 9] [32, 9] 0 := by decide +kernel
theorem brk_of {t : Pt} (h : ptOk t = true) : (t = .star ∨ t = .any ∨ ∃ c, t = .lit c) ∨ ∃ B rr, ptS t = 91 :: (B ++ [93]) ∧ BrkOk B rr ∧ ptP t = some (91 :: (brkR rr ++ [93])) := by
 cases t with
 | star => exact .inl (.inl rfl)
 | any => exact .inl (.inr (.inl rfl))
 | lit c => exact .inl (.inr (.inr ⟨c, rfl⟩))
 | blank => exact .inr ⟨[32, 9], [32, 9], rfl, brk_blank.ok, rfl⟩
 | brk d e =>
  have h := Bool.and_eq_true_iff.mp h
  have f := brk_all d (of_decide_eq_true h.1) e (of_decide_eq_true h.2)
  exact .inr ⟨brB d e, rrOf d e, rfl, f.1.ok, by rw [← f.2]; rfl⟩
theorem from_nat {x : List Nat} (q : Nat) : fromIndex x.length (q : Int) = q := by
 unfold fromIndex
 rw [if_neg (Int.not_lt.mpr (Int.natCast_nonneg q))]; rfl
theorem find_val {x : List Nat} {y : List Nat} {lo hi : Nat} (hy : y ≠ []) (hh : hi ≤ x.length) : (match Builtin.Str.occurrences (S x) (S y) (fromIndex x.length (lo : Int)) (min (fromIndex x.length (hi : Int)) x.length) 1 with | k :: _ => (k : Int) | [] => -1) = (match occR y lo 0 ((x.take hi).drop lo) with | k :: _ => (k : Int) | [] => -1) := by
 rw [from_nat, from_nat, Nat.min_eq_left hh, occ_is hy hh]
 cases occR y lo 0 ((x.take hi).drop lo) <;> rfl
theorem ACall_findN {C : Cx} {st : St} {x y : List Nat} {lo hi : Nat} {v : Int} {Φ : D → St → Prop} (hy : y ≠ []) (hh : hi ≤ x.length) (hv : (match occR y lo 0 ((x.take hi).drop lo) with | k :: _ => (k : Int) | [] => -1) = v) (h : Φ (.int v) st) : ACall Γ C (.builtin "str.find") [.str x, .str y, .int (lo : Int), .int (hi : Int)] st Φ :=
 ACall_find4 ((congrArg (fun z => Φ (.int z) st) ((find_val (lo := lo) hy hh).trans hv)).mpr h)
theorem repl_dash {l : List Nat} (h : 45 ∉ l) : Txt.replace (S l) (S [45]) (S [92, 45]) = S l := by
 unfold Txt.replace
 rw [if_pos (by rw [occ_empty (by simp) (occ_none h)]; rfl)]
/-! the walk -/
noncomputable abbrev trW : List Stmt := subB (fBody 29) 3
noncomputable abbrev trL : List Stmt := subB (subE (subE trW 2) 0) 0
noncomputable abbrev trE : List Stmt := subE trL 4
noncomputable def trS (a : Addr) (pat : List Nat) (i : Int) : List (Str × D) := [("pat", .str pat), ("STAR", .val (.ref a)), ("QUESTION_MARK", .str [46]), ("res", .mut 0), ("add", .meth 0), ("i", .int i), ("n", .int (pat.length : Nat))]
section
variable {a c0 : Addr} {mg : Str → Option Value} {C : Cx} {pat : List Nat} {tl : List (List D)} {o : List D} {Φ : Fl → St → Prop}
theorem e91 {y z : List Nat} (h : y = z) : 91 :: (y ++ [93]) = 91 :: (z ++ [93]) := by rw [h]
theorem tr_rest (hG : GFs Γ F) (T : GT Γ F c0 mg) (hcode : C.env.code = .ref c0) (hk : C.kn = (fScope 29).names) {i2 jn : Nat} {i0 : Int} {B rr : List Nat} (hB : BrkOk B rr) (ho : o.length < 1048576) (hj : jn + 1 = i2)
  (k : ∀ m', Pk (trS a pat (i2 : Nat)) m' → Φ .next ⟨m', (o ++ [.str (91 :: (brkR rr ++ [93]))]) :: tl⟩) :
  AB Γ C (trE.drop 2) ⟨(trS a pat i0).append [("j", .int (jn : Nat)), ("stuff", .str rr)], o :: tl⟩ Φ := by
 subst hj
 have hGC := hG.toGC
 obtain ⟨r0, rt, hr0⟩ := List.exists_cons_of_ne_nil hB.b4
 have h33 : decide (rr = [33]) = false := decide_eq_false hB.b5
 have htr : ∀ mu, truthyD mu (.str rr) = some true := fun mu => by rw [hr0]; rfl
 have hs0 : ∀ mu : List (List D), subD mu (.str rr) 0 = some (.str [r0]) := fun mu => by rw [hr0]; rfl
 have hp : ∀ tl : List (List D), (o :: tl)[0]? = some o ∧ o.length < 1048576 := fun _ => ⟨rfl, ho⟩
 have hq : (brkR rr).length ≤ 10 := by
  unfold brkR
  split
  ·rw [List.length_cons, List.length_tail, Nat.sub_add_cancel (by rw [hr0]; exact Nat.succ_pos _)]; exact hB.b7.1
  ·exact hB.b7.1
 have hz : (91 :: (brkR rr ++ [93])).length ≤ 1048576 := by rw [List.length_cons, List.length_append]; exact Nat.le_trans (Nat.succ_le_succ (Nat.add_le_add_right hq 1)) (by decide)
 by_cases h3 : r0 = 33
 ·have hbr : brkR rr = [94] ++ rt := by unfold brkR; rw [if_pos (by rw [hr0, h3]; rfl), hr0]; rfl
  have h1n : [94] ++ pySlice rr (some 1) none = brkR rr := by rw [hbr, slice_1, hr0]; rfl
  refine AB_evk hGC hk 16 [.v (.str rr), .b true, .b false, .v (.str [r0]), .b true, .v (.str (91 :: (brkR rr ++ [93]))), .l o] (fun q k => ?_) (k _ rfl)
  with_unfolding_all exact k (hp _) (fun Φ hΦ => AE_Joined (by decide +kernel) (AJ_c (gE_strL (l := [91]) (by decide +kernel) (by decide) ⟨_, rfl, AJ_c (AE_Fmt (gE_Name (by decide +kernel) rfl ⟨_, rfl, _, rfl, AJ_c (gE_strL (l := [93]) (by decide +kernel) (by decide) ⟨_, rfl, (Nat.le_trans (Nat.le_of_eq (congrArg List.length (e91 h1n))) hz), ((congrArg (fun z => Φ (.str z) _) (e91 h1n)).mpr hΦ)⟩)⟩))⟩))) (by rw [h1n]; exact Nat.le_trans hq (by decide)) (decide_eq_true (by rw [h3])) (hs0 _) h33 (htr _) (fun Φ hΦ => AE_Resub T hcode rfl (by rw [hk]; rfl) (by decide +kernel) rfl rfl rfl rfl hB.b3 hB.b4 (Nat.le_trans hB.b7.1 (by decide)) hΦ)
 ·have hbr : brkR rr = rr := by unfold brkR; rw [if_neg (by rw [hr0]; exact fun e => h3 (Option.some.inj e))]
  have hin : decide ([r0] ∈ [[94], [91]]) = false := decide_eq_false fun h => by
   rcases List.mem_cons.mp h with h | h
   ·exact hB.b6.1 (by rw [hr0]; exact congrArg some (List.cons.inj h).1)
   ·exact hB.b6.2 (by rw [hr0]; exact congrArg some (List.cons.inj (List.mem_singleton.mp h)).1)
  have hlr : low [r0] = true := by
   have := hB.b9
   rw [hr0] at this
   simp only [low, List.all_cons, Bool.and_eq_true, List.all_nil, Bool.and_true] at this ⊢
   exact this.1
  rw [hbr] at hz k
  refine AB_evk hGC hk 16 [.v (.str rr), .b true, .b false, .v (.str [r0]), .b false, .v (.str [r0]), .b false, .b false, .v (.str (91 :: (rr ++ [93]))), .l o] (fun q k => ?_) (k _ rfl)
  with_unfolding_all exact k (hp _) (fun Φ hΦ => AE_Joined (by decide +kernel) (AJ_c (gE_strL (l := [91]) (by decide +kernel) (by decide) ⟨_, rfl, AJ_c (AE_Fmt (gE_Name (by decide +kernel) rfl ⟨_, rfl, _, rfl, AJ_c (gE_strL (l := [93]) (by decide +kernel) (by decide) ⟨_, rfl, hz, hΦ⟩)⟩))⟩))) rfl (fun st Φ k => cmp_in_tup (xs := [[94], [91]]) rfl rfl hlr (hin ▸ k)) (hs0 _) (decide_eq_false fun e => h3 (List.cons.inj e).1) (hs0 _) h33 (htr _) (fun Φ hΦ => AE_Resub T hcode rfl (by rw [hk]; rfl) (by decide +kernel) rfl rfl rfl rfl hB.b3 hB.b4 (Nat.le_trans hB.b7.1 (by decide)) hΦ)
noncomputable abbrev trC (a : Addr) (pat : List Nat) (i : Int) (jn : Nat) (B : List Nat) : List (Str × D) := (trS a pat i).append [("j", .int (jn : Nat)), ("stuff", .str B)]
theorem slice_B {i1 : Nat} {B X : List Nat} {j : Int} (h : pat.drop i1 = B ++ X) (e : j = ((i1 + B.length : Nat) : Int)) : pySlice pat (some (i1 : Int)) (some j) = B := by
 rw [e, slice_d, h, Nat.add_sub_cancel_left, List.take_left]
theorem find_no {lo hi : Nat} (hh : hi ≤ pat.length) (h : hi ≤ lo) {Φ : D → St → Prop} {st} (hΦ : Φ (.int (-1)) st) : ACall Γ C (.builtin "str.find") [.str pat, .str [45], .int (lo : Int), .int (hi : Int)] st Φ :=
 ACall_findN (List.cons_ne_nil _ _) hh (by rw [List.drop_eq_nil_of_le (Nat.le_trans (List.length_take_le ..) h)]; rfl) hΦ
theorem tr_join (hG : GFs Γ F) (T : GT Γ F c0 mg) (hcode : C.env.code = .ref c0) (hk : C.kn = (fScope 29).names) {m : List (Str × D)} {mu : List (List D)} {n jn : Nat} {i0 : Int} {l r : List Nat} (hr : r.length ≤ 1000) (hl : 92 ∉ l) (hl2 : l.length ≤ 100)
  (hrp : Txt.replace (S l) (S [45]) (S [92, 45]) = S r) (hc : m.lookup ("chunks" : Str) = some (.mut n)) (hm : mu[n]? = some [.str l]) (s : Pk ((trS a pat i0).append [("j", .int (jn : Nat))]) m) (hmu : mu[0]? = some o)
  (k : ∀ tl2, AB Γ C (trE.drop 2) ⟨trC a pat i0 jn r, o :: tl2⟩ Φ) : AB Γ C ((subE trE 1).drop 6) ⟨m, mu⟩ (Cont Γ C (trE.drop 2) Φ) := by
 refine AB_1 (AS_Assign (by rfl) (gStore hk (by decide +kernel)) (AE_JoinGen (l := l) (r := r) T hcode (by decide +kernel) hc hm (by rfl) hr (by decide +kernel) (by rfl) (by rfl) (by decide +kernel) (by rfl) (by rfl) (by rfl) ?_ ?_))
 ·intro C0 code A' E' t s2 m2 Q hns hm2 q
  refine elt_run (r := S r) (by rfl) (by rfl) (by decide +kernel) (by decide +kernel) hns hm2 (by rfl) (by rfl) ?_ ?_ (by decide +kernel) ?_ q
  ·rw [show Str.ofString "\\" = S [92] by decide +kernel]
   exact occ_empty (List.cons_ne_nil _ _) (occ_none hl)
  ·rw [show Str.ofString "-" = S [45] by decide +kernel, show Str.ofString "\\-" = S [92, 45] by decide +kernel]
   exact hrp
  ·rw [S_len, show (Str.ofString "\\-").length = 2 by decide +kernel]
   exact Nat.le_trans (Nat.add_le_add hl2 (Nat.mul_le_mul_right 2 (Nat.succ_le_succ hl2))) (by decide)
 ·obtain ⟨a0, tl2, rfl⟩ : ∃ a0 tl2, mu = a0 :: tl2 := by
   cases mu with
   | nil => cases hmu
   | cons a0 tl2 => exact ⟨a0, tl2, rfl⟩
  cases hmu
  refine AB_weak (m' := trC a pat i0 jn r) ?_ (k tl2)
  have s := Sub_of s
  exact ⟨(upd_other _ (by decide) _).trans s.1, (upd_other _ (by decide) _).trans s.2.1, (upd_other _ (by decide) _).trans s.2.2.1, (upd_other _ (by decide) _).trans s.2.2.2.1, (upd_other _ (by decide) _).trans s.2.2.2.2.1, (upd_other _ (by decide) _).trans s.2.2.2.2.2.1, (upd_other _ (by decide) _).trans s.2.2.2.2.2.2.1, (upd_other _ (by decide) _).trans s.2.2.2.2.2.2.2.1, upd_self _ _ _, trivial⟩
theorem tr_one (hG : GFs Γ F) (T : GT Γ F c0 mg) (hcode : C.env.code = .ref c0) (hk : C.kn = (fScope 29).names) {i1 jn : Nat} {B X r : List Nat} (hd : pat.drop i1 = B ++ X) (hj : i1 + B.length = jn) (hjn : jn ≤ pat.length)
  (hB0 : B ≠ []) (hr : r.length ≤ 1000) (hl : 92 ∉ B) (hl2 : B.length ≤ 100) (hrp : Txt.replace (S B) (S [45]) (S [92, 45]) = S r) (k : ∀ tl2, AB Γ C (trE.drop 2) ⟨trC a pat (i1 : Nat) jn r, o :: tl2⟩ Φ) :
  AB Γ C ((subE trE 1).drop 2) ⟨(trC a pat (i1 : Nat) jn B).append [("chunks", .mut (o :: tl).length), ("k", .int (jn : Nat))], (o :: tl) ++ [[]]⟩ (Cont Γ C (trE.drop 2) Φ) := by
 have hGC := hG.toGC
 refine AB_c (AS_While (AC_while (AT_evk hGC hk 8 [.b true] (fun q k => ?_) (by with_unfolding_all rfl) (B_tt (AB_evk hGC hk 10 [.v (.int (-1)), .b true] (fun q k => ?_) ?_)))))
 ·with_unfolding_all exact k rfl
 ·with_unfolding_all exact k rfl fun Φ hΦ => find_no hjn (Nat.le_refl _) hΦ
 show AB Γ C ((subE trE 1).drop 3) _ _
 refine AB_runk (b' := (subE trE 1).drop 5) (st' := ⟨((trC a pat (i1 : Nat) jn B).append [("chunks", .mut (o :: tl).length), ("k", .int (-1)), ("chunk", .str (pySlice pat (some (i1 : Int)) (some (jn : Int))))]), ((o :: tl) ++ [[]]).set (o :: tl).length ([] ++ [D.str (pySlice pat (some (i1 : Int)) (some (jn : Int)))])⟩) hGC hk 12 2 [.b true, .l [], .l []] (fun q k => ?_) (by with_unfolding_all rfl) ?_
 ·with_unfolding_all exact k ⟨hmu, by decide⟩ hmu (by rw [slice_B hd (by rw [hj])]; cases B; exact absurd rfl hB0; rfl)
 rw [slice_B hd (by rw [hj]), hset]
 refine AB_c (AS_ForR (by rfl) (AE_evk hGC hk 12 [.v (.int ((1 : Nat) : Int)), .v (.rng 0 0 (-1))] (fun q k => ?_) (by with_unfolding_all rfl) ⟨_, _, _, rfl, by decide +kernel, fun I => AFor_nil (AB_nil (C_next (tr_join hG T hcode hk hr hl hl2 hrp rfl hmu rfl rfl k)))⟩))
 with_unfolding_all exact k (fun Φ hΦ => ACall_range3 (by decide) (by decide +kernel) hΦ) ⟨1, rfl, by rw [lenD, hmu]; rfl⟩
theorem tr_down (hG : GFs Γ F) (T : GT Γ F c0 mg) (hcode : C.env.code = .ref c0) (hk : C.kn = (fScope 29).names) {i1 e : Nat} {X : List Nat} (hd : pat.drop i1 = [122, 45, 97, e] ++ X) (hjn : i1 + 4 ≤ pat.length) (he : e ≠ 92)
  (k : ∀ tl2, AB Γ C (trE.drop 2) ⟨trC a pat ((i1 + 2 : Nat) : Int) (i1 + 4) (escC e), o :: tl2⟩ Φ) :
  AB Γ C ((subE trE 1).drop 2) ⟨(trC a pat (i1 : Nat) (i1 + 4) [122, 45, 97, e]).append [("chunks", .mut (o :: tl).length), ("k", .int ((i1 + 1 : Nat) : Int))], (o :: tl) ++ [[]]⟩ (Cont Γ C (trE.drop 2) Φ) := by
 have hGC := hG.toGC
 have hd1 : pat.drop (i1 + 1) = [45, 97, e] ++ X := by rw [← List.drop_drop, hd]; rfl
 have hd2 : pat.drop (i1 + 2) = [97, e] ++ X := by rw [← List.drop_drop, hd]; rfl
 have s1 : pySlice pat (some (i1 : Int)) (some ((i1 + 1 : Nat) : Int)) = [122] := by rw [slice_d, hd, Nat.add_sub_cancel_left]; rfl
 have s2 : pySlice pat (some ((i1 + 2 : Nat) : Int)) (some ((i1 + 4 : Nat) : Int)) = [97, e] := by rw [slice_d, hd2, Nat.add_sub_add_left]; rfl
 refine AB_c (AS_While (AC_while (AT_evk hGC hk 8 [.b true] (fun q k => ?_) (by with_unfolding_all rfl) (B_tt (AB_evk hGC hk 12 [.v (.int ((i1 + 1 : Nat) : Int)), .b false, .l [], .l []] (fun q k => ?_) ?_)))))
 ·with_unfolding_all exact k rfl
 ·with_unfolding_all exact k ⟨hmu, by decide⟩ hmu (decide_eq_false (Int.not_lt.mpr (Int.natCast_nonneg _))) fun Φ hΦ => ACall_findN (lo := i1 + 1) (hi := i1 + 4) (List.cons_ne_nil _ _) hjn (by rw [List.drop_take, hd1, Nat.add_sub_add_left]; rfl) hΦ
 show AC Γ C _ _ _
 refine AC_weak (m' := (trC a pat ((i1 + 2 : Nat) : Int) (i1 + 4) [122, 45, 97, e]).append [("chunks", .mut (o :: tl).length), ("k", .int ((i1 + 4 : Nat) : Int))]) (Sub_of (by rfl)) ?_
 have e1 : ((o :: tl) ++ [([] : List D)]).set (o :: tl).length ([] ++ [D.str (pySlice pat (some (i1 : Int)) (some ((i1 + 1 : Nat) : Int)))]) = (o :: tl) ++ [[D.str [122]]] := by rw [s1, hset]; rfl
 with_unfolding_all rw [e1]
 refine AC_while (AT_evk hGC hk 8 [.b true] (fun q k => ?_) (by with_unfolding_all rfl) (B_tt (AB_evk hGC hk 10 [.v (.int (-1)), .b true] (fun q k => ?_) ?_)))
 ·with_unfolding_all exact k rfl
 ·with_unfolding_all exact k rfl fun Φ hΦ => find_no hjn (Nat.le_refl _) hΦ
 show AB Γ C ((subE trE 1).drop 3) _ _
 refine AB_runk (b' := (subE trE 1).drop 5) (st' := ⟨((trC a pat ((i1 + 2 : Nat) : Int) (i1 + 4) [122, 45, 97, e]).append [("chunks", .mut (o :: tl).length), ("k", .int (-1)), ("chunk", .str (pySlice pat (some ((i1 + 2 : Nat) : Int)) (some ((i1 + 4 : Nat) : Int))))]), ((o :: tl) ++ [[D.str [122]]]).set (o :: tl).length ([D.str [122]] ++ [D.str (pySlice pat (some ((i1 + 2 : Nat) : Int)) (some ((i1 + 4 : Nat) : Int)))])⟩) hGC hk 12 2 [.b true, .l [.str [122]], .l [.str [122]]] (fun q k => ?_) (by with_unfolding_all rfl) ?_
 ·with_unfolding_all exact k ⟨hmu, by decide⟩ hmu (by rw [s2]; rfl)
 rw [s2, hset]
 have hsb : ∀ (Z : List D) (k : Int), subD ((o :: tl) ++ [Z]) (.mut (o :: tl).length) k = pyIdx Z k := fun Z k => by rw [subD, hmu]; rfl
 refine AB_c (AS_ForR (by rfl) (AE_evk hGC hk 12 [.v (.int ((2 : Nat) : Int)), .v (.rng 1 0 (-1))] (fun q k => ?_) (by with_unfolding_all rfl) ⟨_, _, _, rfl, by decide +kernel, fun I => ?_⟩))
 ·with_unfolding_all exact k (fun Φ hΦ => ACall_range3 (by decide) (by decide +kernel) hΦ) ⟨2, rfl, by rw [lenD, hmu]; rfl⟩
 rw [show rngD 1 0 (-1) = [.int 1] by with_unfolding_all rfl]
 refine AFor_cons (AAs_Name (gStore hk (by decide +kernel)) (AB_1 (AS_If (AT_evk hGC hk 10 [.v (.str [122]), .v (.str [122]), .v (.str [97, e]), .v (.str [97]), .b true] (fun q k => ?_) (by with_unfolding_all rfl) (B_tt ?_)))))
 ·with_unfolding_all exact k rfl rfl (hsb _ _) rfl (hsb _ _)
 refine AB_c (AS_Put (by rfl) (AE_evk hGC hk 12 [.v (.str [122]), .v (.str [97, e])] (fun q k => ?_) (by with_unfolding_all rfl) (gE_Name (by decide +kernel) rfl (AE_evk hGC hk 8 [] (fun q k => k) (by with_unfolding_all rfl) ⟨_, _, 0, rfl, rfl, hmu, Nat.le_of_ble_eq_true rfl, ?_⟩))))
 ·with_unfolding_all exact k (Nat.le_of_ble_eq_true rfl) (hsb _ _) (hsb _ _)
 rw [hset]
 refine AB_1 (AS_Del (gE_Name (by decide +kernel) rfl (gE_Name (by decide +kernel) rfl ⟨_, _, 1, rfl, rfl, hmu, Nat.le_of_ble_eq_true rfl, ?_⟩)))
 rw [hset]
 exact AFor_nil (AB_nil (C_next (tr_join (l := [e]) hG T hcode hk (by unfold escC; split <;> exact Nat.le_of_ble_eq_true rfl) (fun h => he (List.mem_singleton.mp h).symm) (Nat.le_of_ble_eq_true rfl) (by
  unfold escC
  by_cases h : e = 45
  ·subst h; decide +kernel
  ·rw [if_neg h]; exact repl_dash fun z => h (List.mem_singleton.mp z).symm) rfl hmu rfl rfl k)))
theorem tr_stuff (hG : GFs Γ F) (T : GT Γ F c0 mg) (hcode : C.env.code = .ref c0) (hk : C.kn = (fScope 29).names) {i1 : Nat} {B X rr : List Nat} (hB : BrkOk B rr) (ho : o.length < 1048576) (hd : pat.drop i1 = B ++ X) (hjn : i1 + B.length ≤ pat.length)
  (k : ∀ m' tl2, Pk (trS a pat ((i1 + B.length + 1 : Nat) : Int)) m' → Φ .next ⟨m', (o ++ [.str (91 :: (brkR rr ++ [93]))]) :: tl2⟩) : AB Γ C trE ⟨(trS a pat (i1 : Nat)).append [("j", .int ((i1 + B.length : Nat) : Int))], o :: tl⟩ Φ := by
 have hGC := hG.toGC
 refine AB_runk (b' := trE.drop 1) (st' := ⟨(trS a pat (i1 : Nat)).append [("j", .int ((i1 + B.length : Nat) : Int)), ("stuff", .str (pySlice pat (some (i1 : Int)) (some ((i1 + B.length : Nat) : Int))))], o :: tl⟩) hGC hk 8 1 [] (fun z k => k) (by with_unfolding_all rfl) ?_
 rw [slice_B hd rfl]
 have fin : ∀ (i0 : Int) (tl2 : List (List D)), AB Γ C (trE.drop 2) ⟨trC a pat i0 (i1 + B.length) rr, o :: tl2⟩ Φ := fun i0 tl2 => tr_rest hG T hcode hk hB ho rfl fun m' s => k m' tl2 s
 have hp0 : ∀ b, B.head? = some b → ∀ mu, subD mu (.str pat) (i1 : Int) = some (.str [b]) := fun b h mu => sub_str (by
  rw [← Nat.add_zero i1, ← List.getElem?_drop, hd, ← List.head?_eq_getElem?, List.head?_append, h]; rfl)
 rcases hB.kind with ⟨k1, k2, rfl⟩ | ⟨rfl, rfl⟩ | ⟨rfl, rfl⟩ | ⟨e, rfl, k3, rfl⟩
 ·refine AB_runk (b' := trE.drop 2) (st' := ⟨trC a pat (i1 : Nat) (i1 + rr.length) rr, o :: tl⟩) hGC hk 12 1 [.b true, .v (.str rr)] (fun z k => ?_) (by with_unfolding_all rfl) (fin _ _)
  with_unfolding_all exact k (fun Φ hΦ => ACall_replace0 (List.cons_ne_nil _ _) (occ_none k2) hΦ) (by rw [decide_eq_false k1]; rfl)
 ·refine AB_c (AS_If (AT_evk hGC hk 8 [.b false] (fun z k => ?_) (by with_unfolding_all rfl) (B_ff (AB_runk (b' := (subE trE 1).drop 2) (st' := ⟨(trC a pat (i1 : Nat) (i1 + 1) [45]).append [("chunks", .mut (o :: tl).length), ("k", .int ((i1 + 1 : Nat) : Int))], (o :: tl) ++ [[]]⟩) hGC hk 12 2 [.b true, .v (.str [45]), .b false] (fun z k => ?_) (by with_unfolding_all rfl)
   (tr_one hG T hcode hk hd rfl hjn (List.cons_ne_nil _ _) (by decide) (by decide) (by decide) (by decide +kernel) fun tl2 => fin _ _)))))
  ·with_unfolding_all exact k rfl
  ·with_unfolding_all exact k rfl (hp0 _ rfl _)
 ·refine AB_c (AS_If (AT_evk hGC hk 8 [.b false] (fun z k => ?_) (by with_unfolding_all rfl) (B_ff (AB_runk (b' := (subE trE 1).drop 2) (st' := ⟨(trC a pat (i1 : Nat) (i1 + 2) [33, 45]).append [("chunks", .mut (o :: tl).length), ("k", .int ((i1 + 2 : Nat) : Int))], (o :: tl) ++ [[]]⟩) hGC hk 12 2 [.b true, .v (.str [33]), .b true] (fun z k => ?_) (by with_unfolding_all rfl)
   (tr_one hG T hcode hk hd rfl hjn (List.cons_ne_nil _ _) (by decide) (by decide) (by decide) (by decide +kernel) fun tl2 => fin _ _)))))
  ·with_unfolding_all exact k rfl
  ·with_unfolding_all exact k rfl (hp0 _ rfl _)
 ·refine AB_c (AS_If (AT_evk hGC hk 8 [.b false] (fun z k => ?_) (by with_unfolding_all rfl) (B_ff (AB_runk (b' := (subE trE 1).drop 2) (st' := ⟨(trC a pat (i1 : Nat) (i1 + 4) [122, 45, 97, e]).append [("chunks", .mut (o :: tl).length), ("k", .int ((i1 + 1 : Nat) : Int))], (o :: tl) ++ [[]]⟩) hGC hk 12 2 [.b true, .v (.str [122]), .b false] (fun z k => ?_) (by with_unfolding_all rfl)
   (tr_down hG T hcode hk hd hjn k3 fun tl2 => fin _ _)))))
  ·with_unfolding_all exact k (by rw [decide_eq_true (show 45 ∈ [122, 45, 97, e] from .tail _ (.head _))]; rfl)
  ·with_unfolding_all exact k rfl (hp0 _ rfl _)
inductive ScI (a : Addr) (pat B : List Nat) (i1 : Nat) (mu : List (List D)) : Nat → St → Prop
 | mk (q : Nat) (hq : q ≤ B.length) : ScI a pat B i1 mu (B.length - q) ⟨(trS a pat (i1 : Nat)).append [("j", .int ((i1 + q : Nat) : Int))], mu⟩
theorem tr_find (hG : GFs Γ F) (T : GT Γ F c0 mg) (hcode : C.env.code = .ref c0) (hk : C.kn = (fScope 29).names) {i1 : Nat} {B X rr : List Nat} (hB : BrkOk B rr) (ho : o.length < 1048576) (hd : pat.drop i1 = B ++ 93 :: X)
  (k : ∀ m' tl2, Pk (trS a pat ((i1 + B.length + 1 : Nat) : Int)) m' → Φ .next ⟨m', (o ++ [.str (91 :: (brkR rr ++ [93]))]) :: tl2⟩) : AB Γ C trL ⟨trS a pat (i1 : Nat), o :: tl⟩ Φ := by
 have hGC := hG.toGC
 have hg : ∀ q, pat[i1 + q]? = (B ++ 93 :: X)[q]? := fun q => by rw [← List.getElem?_drop, hd]
 have hlt : ∀ q, q ≤ B.length → i1 + q < pat.length := fun q hq => by
  have := congrArg List.length hd
  rw [List.length_drop, List.length_append, List.length_cons] at this
  exact Nat.add_lt_of_lt_sub' (this ▸ Nat.lt_of_le_of_lt hq (Nat.lt_add_of_pos_right (Nat.succ_pos _)))
 have hlI : ∀ q, q ≤ B.length → decide (((i1 + q : Nat) : Int) < (pat.length : Int)) = true := fun q hq => decide_eq_true (Int.ofNat_lt.mpr (hlt q hq))
 have hs : ∀ (q : Nat) (hq : q < B.length) mu, subD mu (.str pat) ((i1 + q : Nat) : Int) = some (.str [B[q]]) := fun q hq mu => sub_str (by rw [hg, List.getElem?_append_left hq, List.getElem?_eq_getElem hq])
 have h93 : ∀ (q : Nat) (hq : q < B.length), decide ([B[q]] = [93]) = false := fun q hq => decide_eq_false fun e => hB.b2 ((List.cons.inj e).1 ▸ List.getElem_mem hq)
 have scan : ∀ q, q ≤ B.length → AB Γ C (trL.drop 3) ⟨(trS a pat (i1 : Nat)).append [("j", .int ((i1 + q : Nat) : Int))], o :: tl⟩ Φ := fun q hq => by
  refine AB_c (AS_While (AC_inv (ScI a pat B i1 (o :: tl)) ?_ _ _ (.mk q hq)))
  rintro n Φ' W' - hW st ⟨q, hq⟩
  rcases Nat.lt_or_ge q B.length with h | h
  ·refine AT_evk hGC hk 10 [.b true, .v (.str [B[q]]), .b true] (fun z k => ?_) (by with_unfolding_all rfl) (B_tt (AB_evk hGC hk 8 [] (fun z k => k) (T_go hW ⟨_, Nat.sub_lt_sub_left h (Nat.lt_succ_self q), .mk (q + 1) h⟩ rfl rfl)))
   with_unfolding_all exact k (by rw [h93 q h]; rfl) (hs q h _) (hlI q hq)
  ·have e : q = B.length := Nat.le_antisymm hq h
   subst e
   refine AT_evk hGC hk 10 [.b true, .v (.str [93]), .b false] (fun z k => ?_) (by with_unfolding_all rfl) (B_ff (AB_nil (C_next (AB_1 (AS_If (AT_evk hGC hk 8 [.b false] (fun z k => ?_) (by with_unfolding_all rfl) (B_ff (tr_stuff hG T hcode hk hB ho hd (Nat.le_of_lt (hlt _ hq)) k))))))))
   ·with_unfolding_all exact k rfl (sub_str (by rw [hg, List.getElem?_append_right (Nat.le_refl _), Nat.sub_self]; rfl)) (hlI _ hq)
   ·with_unfolding_all exact k (decide_eq_false (Int.not_le.mpr (Int.ofNat_lt.mpr (hlt _ hq))))
 have hBl := List.length_pos_iff.mpr hB.b1
 have s0 := hs 0 hBl (o :: tl)
 by_cases h33 : B[0] = 33
 ·have h2 : 1 < B.length := hB.b8 (by rw [List.head?_eq_getElem?, List.getElem?_eq_getElem hBl, h33])
  refine AB_runk (b' := trL.drop 3) (st' := ⟨(trS a pat (i1 : Nat)).append [("j", .int ((i1 + 1 : Nat) : Int))], o :: tl⟩) hGC hk 12 3 [.b true, .v (.str [B[0]]), .b true, .b true, .v (.str [B[1]]), .b false] (fun z k => ?_) (by with_unfolding_all rfl) (scan 1 (Nat.le_of_lt h2))
  with_unfolding_all exact k (h93 1 h2) (hs 1 h2 _) (hlI 1 (Nat.le_of_lt h2)) (decide_eq_true (by rw [h33])) s0 (hlI 0 (Nat.zero_le _))
 ·refine AB_runk (b' := trL.drop 3) (st' := ⟨(trS a pat (i1 : Nat)).append [("j", .int ((i1 + 0 : Nat) : Int))], o :: tl⟩) hGC hk 12 3 [.b true, .v (.str [B[0]]), .b false, .b true, .v (.str [B[0]]), .b false] (fun z k => ?_) (by with_unfolding_all rfl) (scan 0 (Nat.zero_le _))
  with_unfolding_all exact k (h93 0 hBl) s0 (hlI 0 (Nat.zero_le _)) (decide_eq_false fun e => h33 (List.cons.inj e).1) s0 (hlI 0 (Nat.zero_le _))
end
inductive TrI (a : Addr) (pat : List Nat) (ALL : List Pc) : Nat → St → Prop
 | mk (i : Nat) (rest : List Pt) (out : List Pc) (tl : List (List D)) (b : Bool) (hdr : pat.drop i = textP rest) (hil : i + (textP rest).length = pat.length) (hall : out ++ rest.map ptP = ALL) (hok : ∀ p ∈ rest, ptOk p = true) (hadj : noAdj b rest = true)
  (hb : b = false → out.getLast? ≠ some none) (hol : out.length ≤ i) : TrI a pat ALL rest.length ⟨trS a pat (i : Nat), out.map (pcD a) :: tl⟩
theorem w_translate1 {ps : List Pt} {a : Addr} {c0 : Addr} {mg : Str → Option Value} {C : Cx} (hG : GFs Γ F) (hS : GS Γ) (T : GT Γ F c0 mg) (hcode : C.env.code = .ref c0) (hk : C.kn = (fScope 29).names) (hok : ∀ p ∈ ps, ptOk p = true) (hadj : noAdj false ps = true) (hlen : (textP ps).length ≤ 1000) (hd1 : C.A.depth + 5 ≤ 600) (hd2 : C.A.units + 50 ≤ 5000) :
  AB Γ C (fBody 29) ⟨[("pat", .str (textP ps)), ("STAR", .val (.ref a)), ("QUESTION_MARK", .str [46])], []⟩ (Res 1 (.lst ((ps.map ptP).map (pcD a)))) := by
 have hGC := hG.toGC
 refine AB_runk (b' := (fBody 29).drop 3) (st' := ⟨[("pat", .str (textP ps)), ("STAR", .val (.ref a)), ("QUESTION_MARK", .str [46]), ("res", .mut 0), ("add", .meth 0), ("n", .int ((textP ps).length : Nat)), ("i", .int 0)], [[]]⟩) hGC hk 12 3 [.b true] (fun z k => k) (by with_unfolding_all rfl) (AB_weak (m' := trS a (textP ps) 0) (Sub_of rfl) (AB_c (AS_While (AC_inv (TrI a (textP ps) (ps.map ptP)) ?_ _ _ (.mk 0 ps [] [] false List.drop_zero (Nat.zero_add _) rfl hok hadj nofun (Nat.le_refl 0))))))
 generalize textP ps = pat at hlen
 generalize ps.map ptP = ALL
 clear hok hadj ps
 rintro n Φ' W' - hW st ⟨i, rest, out, tl, b, hdr, hil, hall, hok, hadj, hb, hol⟩
 cases rest with
 | nil =>
  have hi : i = pat.length := hil
  refine AT_evk hGC hk 8 [.b false] (fun z k => ?_) (by with_unfolding_all rfl) (B_ff (AB_nil (C_next ?_)))
  ·with_unfolding_all exact k (decide_eq_false (Int.not_lt.mpr (Int.ofNat_le.mpr (Nat.le_of_eq hi.symm))))
  refine AB_evk hGC hk 8 [.b true] (fun z k => ?_) ⟨_, rfl, ?_, noMutL_pc a _⟩
  ·with_unfolding_all exact k (decide_eq_true (by rw [hi]))
  rw [← hall, List.map_nil, List.append_nil]
  exact congrArg D.lst (fz_atoms (out.map (pcD a) :: tl) _)
 | cons t r =>
  rw [show textP (t :: r) = ptS t ++ textP r from List.flatMap_cons] at hdr hil
  rw [List.length_append] at hil
  have hlt : i < pat.length := hil ▸ Nat.lt_add_of_pos_right (Nat.lt_of_lt_of_le (List.length_pos_iff.mpr (ptS_ne t)) (Nat.le_add_right _ _))
  have ho : (out.map (pcD a)).length < 1048576 := by rw [List.length_map]; omega
  have hp : (out.map (pcD a) :: tl)[0]? = some (out.map (pcD a)) ∧ (out.map (pcD a)).length < 1048576 := ⟨rfl, ho⟩
  have hc : ∀ c u, ptS t = c :: u → subD (out.map (pcD a) :: tl) (.str pat) (i : Int) = some (.str [c]) := fun c u e => sub_str (by rw [← Nat.add_zero i, ← List.getElem?_drop, hdr, e]; rfl)
  have hgo : ∀ (b2 : Bool) (m : List (Str × D)) (tl2 : List (List D)) (x : D), noAdj b2 r = true → (b2 = false → ptP t ≠ none) → x = pcD a (ptP t) → Pk (trS a pat ((i + (ptS t).length : Nat) : Int)) m → Turn Φ' W' .next ⟨m, (out.map (pcD a) ++ [x]) :: tl2⟩ := fun b2 m tl2 x h1 h2 h3 s =>
   T_go hW ⟨_, Nat.lt_succ_self _, .mk (i + (ptS t).length) r (out ++ [ptP t]) tl2 b2 (by rw [← List.drop_drop, hdr, List.drop_left]) (by rw [Nat.add_assoc]; exact hil) (by rw [List.append_assoc]; exact hall) (fun p hp => hok p (.tail _ hp)) h1 (fun e => by rw [List.getLast?_concat]; exact fun z => h2 e (Option.some.inj z))
    (by rw [List.length_append]; exact Nat.add_le_add hol (List.length_pos_iff.mpr (ptS_ne t)))⟩ s (by rw [h3, List.map_append]; rfl)
  refine AT_evk hGC hk 8 [.b true] (fun z k => ?_) (by with_unfolding_all rfl) (B_tt ?_)
  ·with_unfolding_all exact k (decide_eq_true (Int.ofNat_lt.mpr hlt))
  rcases brk_of (hok t (.head _)) with (rfl | rfl | ⟨d, rfl⟩) | ⟨B, rr, hBS, hB, hPt⟩
  ·have hadj := Bool.and_eq_true_iff.mp hadj
   have hb := hb (by simpa using hadj.1)
   cases ho2 : out.getLast? with
   | none =>
    have e : out = [] := List.getLast?_eq_none_iff.mp ho2
    refine AB_evk hGC hk 14 [.v (.str [42]), .b true, .b false, .l (out.map (pcD a))] (fun z k => ?_) (hgo true _ tl _ hadj.2 nofun rfl rfl)
    with_unfolding_all exact k hp (by rw [e]; rfl) rfl (hc _ _ rfl)
   | some q =>
    cases q with
    | none => exact absurd ho2 hb
    | some l =>
     have hs : subD (out.map (pcD a) :: tl) (.mut 0) (-1) = some (.str l) := (pyIdx_last _).trans (by rw [List.getLast?_map, ho2]; rfl)
     refine AB_evk hGC hk 14 [.v (.str [42]), .b true, .b true, .v (.str l), .b true, .b true, .l (out.map (pcD a))] (fun z k => ?_) (hgo true _ tl _ hadj.2 nofun rfl rfl)
     with_unfolding_all exact k hp rfl (fun st Φ k => cmp_isnot_str k) hs (by cases out; cases ho2; rfl) rfl (hc _ _ rfl)
  ·refine AB_evk hGC hk 14 [.v (.str [63]), .b false, .b true, .l (out.map (pcD a))] (fun z k => ?_) (hgo false _ tl _ hadj nofun rfl rfl)
   with_unfolding_all exact k hp rfl rfl (hc _ _ rfl)
  ·have hcl : d ∈ litL := of_decide_eq_true (hok (.lit d) (.head _))
   have one : ∀ k, k ∉ litL → decide ([d] = [k]) = false := fun k h => decide_eq_false fun e => h ((List.cons.inj e).1 ▸ hcl)
   refine AB_evk hGC hk 14 [.v (.str [d]), .b false, .b false, .b false, .v (.str [d]), .l (out.map (pcD a))] (fun z k => ?_) (hgo false _ tl _ hadj nofun rfl rfl)
   with_unfolding_all exact k hp ⟨1, fn_escape hG hS hcl, by omega, by omega⟩ (one 91 (by decide)) (one 63 (by decide)) (one 42 (by decide)) (hc _ _ rfl)
  ·refine AB_runk (b' := trW.drop 2) (st' := ⟨(trS a pat ((i + 1 : Nat) : Int)).append [("c", .str [91])], out.map (pcD a) :: tl⟩) hGC hk 10 2 [.v (.str [91])] (fun z k => ?_) (by with_unfolding_all rfl) ?_
   ·with_unfolding_all exact k (hc _ _ hBS)
   refine AB_1 (AS_If (AT_evk hGC hk 8 [.b false] (fun z k => ?_) (by with_unfolding_all rfl) (B_ff ?_)))
   ·with_unfolding_all exact k rfl
   refine AB_1 (AS_If (AT_evk hGC hk 8 [.b false] (fun z k => ?_) (by with_unfolding_all rfl) (B_ff ?_)))
   ·with_unfolding_all exact k rfl
   refine AB_1 (AS_If (AT_evk hGC hk 8 [.b true] (fun z k => ?_) (by with_unfolding_all rfl) (B_tt ?_)))
   ·with_unfolding_all exact k rfl
   refine AB_weak (m' := trS a pat ((i + 1 : Nat) : Int)) (Sub_of rfl) (tr_find (X := textP r) hG T hcode hk hB ho (by rw [← List.drop_drop, hdr, hBS]; exact List.append_assoc B [93] (textP r)) fun m' tl2 s => ?_)
   refine hgo false m' tl2 _ ?_ (by rw [hPt]; exact nofun) (by rw [hPt]; rfl) ?_
   ·cases t with
    | star => cases hBS
    | _ => exact hadj
   ·rw [hBS, show i + (91 :: (B ++ [93])).length = i + 1 + B.length + 1 by rw [List.length_cons, List.length_append]; exact congrArg (· + 1) (Nat.succ_add_eq_add_succ i B.length).symm]; exact s
end
end
section
section
variable {Γ : Gl prog w} {F : Nat → Addr}
theorem fn_translate1 {ps : List Pt} {a : Addr} {c0 : Addr} {mg : Str → Option Value} (hG : GFs Γ F) (hS : GS Γ) (T : GT Γ F c0 mg) (hok : ∀ p ∈ ps, ptOk p = true) (hadj : noAdj false ps = true) (hlen : (textP ps).length ≤ 1000) : Fn Γ 6 (.ref (F 29)) [.str (textP ps), .val (.ref a), .str [46]] (.lst ((ps.map ptP).map (pcD a))) := by
 obtain ⟨fd, h1, h2⟩ := T.fd
 exact Fn.ofE (n := 5) (k := 1) (m' := [("pat", .str (textP ps)), ("STAR", .val (.ref a)), ("QUESTION_MARK", .str [46])]) (hG.fs 29 (by decide)) h1 (by decide +kernel) (by rfl) rfl (by intro p hp; simp at hp; rcases hp with rfl | rfl | rfl <;> rfl) fun C hk he hd hu => w_translate1 hG hS T (he.trans h2) hk hok hadj hlen hd (by omega)
theorem w_translate {ps : List Pt} {c0 : Addr} {mg : Str → Option Value} {C : Cx} (hG : GFs Γ F) (hS : GS Γ) (T : GT Γ F c0 mg) (hk : C.kn = (fScope 24).names) (hok : ∀ p ∈ ps, ptOk p = true) (hadj : noAdj false ps = true) (hlen : (textP ps).length ≤ 1000) (hl2 : ps.length ≤ 1000) (hsz : ∀ p ∈ ps, ((ptP p).getD []).length ≤ 100) (hso : starOk ((ps.map ptP).dropWhile (·.isSome)) = true) (hd1 : C.A.depth + 6 ≤ 600) (hd2 : C.A.units + 60 ≤ 5000) :
  AB Γ C (fBody 24) ⟨[("pat", .str (textP ps))], []⟩ (Res 0 (.str (joinP (ps.map ptP)))) := by
 have hGC := hG.toGC
 refine AB_c (AS_Assign (by rfl) (gStore hk (by decide +kernel)) (gE_CallB (f := .type "object") hGC.toGF hk (by decide +kernel) (by with_unfolding_all rfl) trivial (AEs_n (ACall_object fun a => ?_))))
 refine AB_evk (b := (fBody 24).drop 1) hGC hk 10 [.v (.lst ((ps.map ptP).map (pcD a))), .v (.str (joinP (ps.map ptP)))] (fun z k => ?_) ⟨_, rfl, rfl, rfl⟩
 with_unfolding_all exact k ⟨2, fn_join hG (by rw [List.length_map]; exact hl2) (fun p hp => by obtain ⟨q, hq, rfl⟩ := List.mem_map.mp hp; exact hsz q hq) hso, by omega, by omega⟩ ⟨6, fn_translate1 hG hS T hok hadj hlen, by omega, by omega⟩
theorem fn_translate {ps : List Pt} {c0 : Addr} {mg : Str → Option Value} (hG : GFs Γ F) (hS : GS Γ) (T : GT Γ F c0 mg) (hok : ∀ p ∈ ps, ptOk p = true) (hadj : noAdj false ps = true) (hlen : (textP ps).length ≤ 1000) (hl2 : ps.length ≤ 1000) (hsz : ∀ p ∈ ps, ((ptP p).getD []).length ≤ 100) (hso : starOk ((ps.map ptP).dropWhile (·.isSome)) = true) : Fn Γ 7 (.ref (F 24)) [.str (textP ps)] (.str (joinP (ps.map ptP))) :=
 Fn.of (n := 6) (k := 0) (m' := [("pat", .str (textP ps))]) (hG.fs 24 (by decide)) (by decide +kernel) (by rfl) rfl (by intro p hp; simp at hp; subst hp; rfl) fun C hk h1 h2 => w_translate hG hS T hk hok hadj hlen hl2 hsz hso h1 (by omega)
end
end
section
noncomputable def okT (P : Params) (h : Heap) : Prop := ∀ a o, (H1 P).get? a = some o → a ≠ 108 → h.get? a = some o
noncomputable def mgT (P : Params) : Str → Option Value := (H1 P).nsMap mainGlobals
noncomputable def mbT (P : Params) : Str → Option Value := (H1 P).nsMap builtinsNs
noncomputable def nvT (P : Params) (x : Str) : Option Value := match mgT P x with
 | some v => some v
 | none => mbT P x
theorem h1_mg (P : Params) : (H1 P).isNs mainGlobals = true := by kernel_rfl
theorem h1_mb (P : Params) : (H1 P).isNs builtinsNs = true := by kernel_rfl
theorem h1_st (P : Params) : (H1 P).isNs cStatics = true := by kernel_rfl
theorem h1_lim (P : Params) : (H1 P).nsMap cStatics "sys.recursionlimit" = none := by kernel_rfl
theorem ns_ok {P : Params} {h : Heap} {a : Addr} (hok : okT P h) (ha : a ≠ 108) (x : (H1 P).isNs a = true) : h.Ns a ((H1 P).nsMap a) :=
 let ⟨o, es, ep, e, r⟩ := Heap.Ns.of_isNs x; ⟨o, es, ep, hok _ _ e ha, r⟩
noncomputable def oB {α : Type} (x : Option α) (f : α → Bool) : Bool := match x with
 | some a => f a
 | none => false
theorem oB_t {α : Type} {x : Option α} {f : α → Bool} (h : oB x f = true) : ∃ a, x = some a ∧ f a = true := by
 cases x with
 | none => exact no_tf h
 | some a => exact ⟨a, rfl, h⟩
noncomputable def refOf : Value → Option Addr
 | .ref a => some a
 | _ => none
noncomputable def intOf : Value → Option Int
 | .int a _ => some a
 | _ => none
noncomputable def strOf : Value → Option Str
 | .str a _ => some a
 | _ => none
noncomputable def tagOf : Value → Option (Bool × String)
 | .builtin a => some (true, a)
 | .type a => some (false, a)
 | _ => none
noncomputable def funcOf : Data → Option FuncData
 | .func a => some a
 | _ => none
noncomputable def fieldsOf : Data → Option (Array Value)
 | .fields a => some a
 | _ => none
noncomputable def seqOf : Data → Option (Array Value × Nat)
 | .seq a n => some (a, n)
 | _ => none
theorem refOf_is {v a} (h : refOf v = some a) : v = .ref a := by cases v <;> first | exact no_some h | (cases h; rfl)
theorem intOf_is {v a} (h : intOf v = some a) : ∃ t, v = .int a t := by cases v <;> first | exact no_some h | (cases h; exact ⟨_, rfl⟩)
theorem strOf_is {v a} (h : strOf v = some a) : ∃ t, v = .str a t := by cases v <;> first | exact no_some h | (cases h; exact ⟨_, rfl⟩)
noncomputable def unTag (t : Bool × String) : Value := bif t.1 then .builtin t.2 else .type t.2
theorem tagOf_is {v t} (h : tagOf v = some t) : v = unTag t := by cases v <;> first | exact no_some h | (cases h; rfl)
theorem funcOf_is {v a} (h : funcOf v = some a) : v = .func a := by cases v <;> first | exact no_some h | (cases h; rfl)
theorem fieldsOf_is {v a} (h : fieldsOf v = some a) : v = .fields a := by cases v <;> first | exact no_some h | (cases h; rfl)
theorem seqOf_is {v a n} (h : seqOf v = some (a, n)) : v = .seq a n := by cases v <;> first | exact no_some h | (cases h; rfl)
noncomputable def adF (i : Nat) : Addr := (([(15, 54), (16, 61), (20, 74), (21, 82), (24, 94), (27, 106), (29, 113), (30, 120), (32, 127), (53, 167), (55, 174), (56, 179), (57, 184), (58, 191), (59, 198), (60, 203), (61, 210), (62, 215), (63, 220), (64, 225), (65, 232), (66, 237), (67, 242)] : List (Nat × Nat)).lookup i).getD 0
inductive FnAt (P : Params) (a : Addr) (fd : FuncData) : Prop
 | mk (n : a ≠ 108) (o c o' vs t) (h1 : (H1 P).get? a = some o) (h2 : o.data = .func fd) (h3 : fd.code = .ref c) (h4 : (H1 P).get? c = some o') (h5 : c ≠ 108) (h6 : o'.data = .fields vs) (h7 : vs[1]? = some (.str fd.qualname t)) (h8 : fd.globals = mainGlobals) (h9 : fd.builtins = builtinsNs) : FnAt P a fd
noncomputable def fd2 (fd : FuncData) (vs : Array Value) : Bool := oB ((vs[1]?).bind strOf) fun s => decide (s = fd.qualname) && (decide (fd.globals = mainGlobals) && decide (fd.builtins = builtinsNs))
noncomputable def fd1 (P : Params) (fd : FuncData) (c : Addr) : Bool := decide (c ≠ 108) && oB ((H1 P).get? c) fun o => oB (fieldsOf o.data) (fd2 fd)
noncomputable def fd0 (P : Params) (a : Addr) (fd : FuncData) : Bool := decide (a ≠ 108) && oB (refOf fd.code) (fd1 P fd)
noncomputable def fnB (P : Params) (a : Addr) : Option FuncData := (((H1 P).get? a).bind fun o => funcOf o.data).filter (fd0 P a)
theorem fd2_ok {fd : FuncData} {vs : Array Value} (h : fd2 fd vs = true) : (∃ t, vs[1]? = some (.str fd.qualname t)) ∧ fd.globals = mainGlobals ∧ fd.builtins = builtinsNs := by
 obtain ⟨s, h1, h⟩ := oB_t h
 obtain ⟨v, h2, h3⟩ := Option.bind_eq_some_iff.mp h1
 simp only [Bool.and_eq_true, decide_eq_true_eq] at h
 obtain ⟨t, ht⟩ := strOf_is h3
 exact ⟨⟨t, by rw [h2, ht, h.1]⟩, h.2⟩
theorem fnB_ok {P : Params} {a : Addr} {fd : FuncData} (e : fnB P a = some fd) : FnAt P a fd := by
 obtain ⟨e, f⟩ := Option.filter_eq_some_iff.mp e
 obtain ⟨o, ho, hd⟩ := Option.bind_eq_some_iff.mp e
 have f := Bool.and_eq_true_iff.mp f
 obtain ⟨c, h1, g⟩ := oB_t f.2
 have g := Bool.and_eq_true_iff.mp g
 obtain ⟨o', h2, g2⟩ := oB_t g.2
 obtain ⟨vs, h3, g2⟩ := oB_t g2
 obtain ⟨⟨t, h4⟩, h5, h6⟩ := fd2_ok g2
 exact .mk (of_decide_eq_true f.1) o c o' vs t ho (funcOf_is hd) (refOf_is h1) h2 (of_decide_eq_true g.1) (fieldsOf_is h3) h4 h5 h6
noncomputable def seqB (get : Addr → Option Obj) (r : D → Value → Bool) (l : List D) (T : String) (v : Value) (k : Obj → Bool) : Bool := oB (refOf v) fun a => oB (get a) fun o => oB (seqOf o.data) fun p =>
 (k o && decide (tagOf o.cls = some (false, T))) && (decide (a ≠ 108) && (decide (l.length ≤ 1048576) && (decide (l.length = p.1.toList.length) && (l.zip p.1.toList).all fun p => r p.1 p.2)))
noncomputable def rpS (get : Addr → Option Obj) (r : D → Value → Bool) : D → Value → Bool
 | .int i, v => decide (intOf v = some i)
 | .str s, v => decide (strOf v = some (S s)) && decide (s.length ≤ 1048576)
 | .tup l, v => seqB get r l "tuple" v fun _ => true
 | .lst l, v => seqB get r l "list" v fun o => o.dict.isNone && o.slots.toList.isEmpty
 | _, _ => false
noncomputable def rpB (get : Addr → Option Obj) : Nat → D → Value → Bool
 | 0 => fun _ _ => false
 | n + 1 => rpS get (rpB get n)
noncomputable def gT (P : Params) (a : Addr) : Prop := a ≠ 108 ∧ ((H1 P).get? a).isSome
theorem rpL_zip {h : Heap} {X : Addr → Prop} {as : List Addr} : ∀ {l : List D} {vs : List Value}, l.length = vs.length → (∀ p ∈ l.zip vs, Rp h X as p.1 p.2) → RpL h X as l vs
 | [], [], _, _ => by simp [RpL]
 | d :: l, v :: vs, e, k => by
  simp only [RpL]
  exact ⟨k (d, v) (by simp), rpL_zip (by simpa using e) fun p hp => k p (by rw [List.zip_cons_cons]; exact .tail _ hp)⟩
 | [], _ :: _, e, _ => by simp at e
 | _ :: _, [], e, _ => by simp at e
inductive SeqB (get : Addr → Option Obj) (r : D → Value → Bool) (l : List D) (T : String) (k : Obj → Bool) : Value → Prop
 | mk (a o vs n) (h2 : get a = some o) (h3 : o.data = .seq vs n) (h4 : k o = true) (h5 : o.cls = .type T) (h6 : a ≠ 108) (h7 : l.length ≤ 1048576) (h8 : l.length = vs.toList.length) (h9 : ∀ p ∈ l.zip vs.toList, r p.1 p.2 = true) : SeqB get r l T k (.ref a)
theorem seqB_is {get r l T v k} (h : seqB get r l T v k = true) : SeqB get r l T k v := by
 obtain ⟨a, h1, h⟩ := oB_t h
 obtain ⟨o, h2, h⟩ := oB_t h
 obtain ⟨p, h3, h⟩ := oB_t h
 simp only [Bool.and_eq_true, decide_eq_true_eq, List.all_eq_true] at h
 exact refOf_is h1 ▸ .mk a o p.1 p.2 h2 (seqOf_is h3) h.1.1 (tagOf_is h.1.2) h.2.1 h.2.2.1 h.2.2.2.1 h.2.2.2.2
theorem lst_obj {o : Obj} {vs n} (e3 : o.data = .seq vs n) (e5 : o.cls = .type "list") (e4 : (o.dict.isNone && o.slots.toList.isEmpty) = true) : o = ⟨.type "list", none, .seq vs n, #[]⟩ := by
 have e4 := Bool.and_eq_true_iff.mp e4
 obtain ⟨c, di, da, sl⟩ := o
 cases e3; cases e5; cases Option.isNone_iff_eq_none.mp e4.1
 rw [show sl = #[] from Array.ext' (List.isEmpty_iff.mp e4.2)]
theorem rp_of {P : Params} {h : Heap} {X : Addr → Prop} {as : List Addr} (hok : okT P h) (hg : ∀ a, gT P a → ¬ X a ∧ a ∉ as) (n : Nat) : ∀ (d : D) (v : Value), rpB (H1 P).get? n d v = true → Rp h X as d v := by
 induction n with
 | zero => exact fun d v e => no_tf e
 | succ n ih =>
  intro d v e
  cases d with
  | int i => exact intOf_is (of_decide_eq_true e)
  | str s => have e := Bool.and_eq_true_iff.mp e; exact ⟨strOf_is (of_decide_eq_true e.1), of_decide_eq_true e.2⟩
  | tup l =>
   have e := seqB_is e
   cases e with
   | mk a o vs n e2 e3 e4 e5 e6 e7 e8 e9 => exact ⟨a, vs, rfl, ⟨o, hok _ _ e2 e6, e5, n, e3⟩, e7, rpL_zip e8 fun p hp => ih _ _ (e9 p hp)⟩
  | lst l =>
   have e := seqB_is e
   cases e with
   | mk a o vs n e2 e3 e4 e5 e6 e7 e8 e9 =>
    have z := hg _ ⟨e6, by rw [e2]; rfl⟩
    exact ⟨a, vs, rfl, z.1, z.2, ⟨n, lst_obj e3 e5 e4 ▸ hok _ _ e2 e6⟩, e7, rpL_zip e8 fun p hp => ih _ _ (e9 p hp)⟩
  | _ => exact no_tf e
noncomputable def gdL : List (Str × D) := [("_QUOPRI_MAP", .lst ((List.range 256).map fun c => .str (quoL c))), ("_QUOPRI_BODY_ENCODE_MAP", .lst ((List.range 256).map fun c => .str (bodyL c))), ("CRLF", .str [13, 10]), ("_filemode_table", ftD), ("hexdigits", .str hexD)]
noncomputable def gdOk (P : Params) (p : Str × D) : Bool := match nvT P p.1 with
 | some v => rpB (H1 P).get? 5 p.2 v
 | none => false
theorem gd_ok (P : Params) : gdL.all (gdOk P) = true := by kernel_rfl
end
section
noncomputable def itOf (o : Obj) : Array Value := ((seqOf o.data).getD (#[], 0)).1
noncomputable def fdOf (P : Params) (i : Nat) : FuncData := (fnB P (adF i)).getD default
noncomputable def glT (prog : Program) (w : World) (P : Params) : Gl prog w where
 P := 108
 mg := mgT P
 mb := mbT P
 ok := okT P
 okg := fun h hok => ns_ok hok (by decide) (h1_mg P)
 okb := fun h hok => ns_ok hok (by decide) (h1_mb P)
 oklim := fun h hok => ⟨_, ns_ok hok (by decide) (h1_st P), h1_lim P⟩
 okmono := fun h h' hok k a o e n => k a o (hok a o e n) n
 Ex := fun a => a = 108
 J := fun L => ∃ ps : Array Value, L = [(108, tabObj ps)] ∧ TriplesOk ps.toList
 nv := nvT P
 oknv := fun x v e => by
  unfold nvT at e
  cases h : mgT P x with
  | some u => rw [h] at e; exact .inl e
  | none => rw [h] at e; exact .inr ⟨rfl, e⟩
 G := gT P
 okG := fun h a hok g => by
  obtain ⟨o, ho⟩ := Option.isSome_iff_exists.mp g.2
  rw [hok a o ho g.1]; rfl
 gd := fun x => List.lookup x gdL
 okgd := fun x d h X as e hok hg => by
  have := List.all_eq_true.mp (gd_ok P) _ (mem_lk e)
  unfold gdOk at this
  split at this
  ·rename_i v hv
   exact ⟨v, hv, rp_of hok hg 5 d v this⟩
  ·cases this
 fn := fnB P
 okfn := fun h f fd hok e => by
  cases fnB_ok e with
  | mk n o c o' vs t h1 h2 h3 h4 h5 h6 h7 h8 h9 => exact ⟨o, hok _ _ h1 n, h2, ⟨c, o', vs, t, h3, hok _ _ h4 h5, h6, h7⟩, h8, h9⟩
section
variable {prog : Program} {w : World} (P : Params)
theorem binds_plain {s : Shared} {fd : FuncData} {as : List Arg} {dl : List Expr} {vs : List Value} (hp : fd.params = { posonlyargs := [], args := as, vararg := none, kwonlyargs := [], kw_defaults := [], kwarg := none, defaults := dl }) (hd : fd.defaults = .none) (hl : vs.length = as.length) (nd : (as.map (·.arg)).Nodup) : BindsTo s fd ⟨vs, []⟩ ((as.map (·.arg)).zip vs) :=
 fun _ _ _ _ hq => by rw [bind_plain hp hd hl nd]; exact wpAny_pure hq
theorem bT_ok : bT.all (fun p => oB (nvT P p.1) fun u => oB (tagOf u) fun t => decide (tagOf p.2 = some t)) = true := by kernel_rfl
theorem nv_bT (p : Str × Value) (hp : p ∈ bT) : nvT P p.1 = some p.2 := by
 obtain ⟨u, h1, h⟩ := oB_t (List.all_eq_true.mp (bT_ok P) p hp)
 obtain ⟨t, h2, h⟩ := oB_t h
 rw [h1, tagOf_is h2, ← tagOf_is (of_decide_eq_true h)]
theorem fT_ok : fT.all (fun p => oB (nvT P p.1) fun u => decide (refOf u = some (adF p.2)) && (fnB P (adF p.2)).isSome) = true := by kernel_rfl
theorem nv_fT (p : Str × Nat) (hp : p ∈ fT) : nvT P p.1 = some (.ref (adF p.2)) ∧ ∃ fd, fnB P (adF p.2) = some fd := by
 obtain ⟨u, h1, h⟩ := oB_t (List.all_eq_true.mp (fT_ok P) p hp)
 have h := Bool.and_eq_true_iff.mp h
 exact ⟨h1.trans (congrArg some (refOf_is (of_decide_eq_true h.1))), Option.isSome_iff_exists.mp h.2⟩
noncomputable def plL : List Nat := [15, 16, 24, 27, 29, 30, 32, 53, 55, 56, 57, 58, 59, 60, 61, 62, 63, 64, 65, 66, 67]
theorem pl_eq : (plL.map fun i => (fnB P (adF i)).map fun fd => (fd.body, fd.scope, fd.params, fd.closure, fd.defaults, fParams i)) =
  plL.map fun i => some (.stmts (fBody i), fScope i, fParams i, [], .none, { posonlyargs := [], args := (fParams i).args, vararg := none, kwonlyargs := [], kw_defaults := [], kwarg := none, defaults := [] }) := by kernel_rfl
theorem pl_nd : plL.all (fun i => decide ((fPs i).Nodup)) = true := by decide +kernel
theorem gfn_pl (i : Nat) (hi : i ∈ plL) : GFn (glT prog w P) (adF i) i := by
 obtain ⟨fd, h1, h⟩ := Option.map_eq_some_iff.mp (List.map_inj_left.mp (pl_eq P) i hi)
 simp only [Prod.mk.injEq] at h
 exact ⟨fd, h1, h.1, h.2.1, h.2.2.1, h.2.2.2.1, fun s vs _ hl => binds_plain (h.2.2.1.trans h.2.2.2.2.2) h.2.2.2.2.1 (by rw [hl]; exact List.length_map ..) (of_decide_eq_true (List.all_eq_true.mp pl_nd i hi))⟩
theorem len3 {α : Type} {l : List α} (h : l.length = 3) : ∃ a b c, l = [a, b, c] := match l, h with
 | [a, b, c], _ => ⟨a, b, c, rfl⟩
theorem len2 {α : Type} {l : List α} (h : l.length = 2) : ∃ a b, l = [a, b] := match l, h with
 | [a, b], _ => ⟨a, b, rfl⟩
theorem gfn20 : GFn (glT prog w P) (adF 20) 20 := by
 refine ⟨fdOf P 20, by kernel_rfl, by kernel_rfl, by kernel_rfl, by kernel_rfl, by kernel_rfl, fun s vs hok hl => ?_⟩
 obtain ⟨a, b, c, rfl⟩ := len3 hl
 exact BindsTo.of_defaults (items := itOf hdOf67) (n := 0) (T := 67) (by kernel_rfl) (hok _ _ (h1_get (o := hdOf67) (by kernel_rfl) (by decide) (by kernel_rfl)) (by decide)) (by kernel_rfl) rfl (by kernel_rfl)
theorem gfn21 : GFn (glT prog w P) (adF 21) 21 := by
 refine ⟨fdOf P 21, by kernel_rfl, by kernel_rfl, by kernel_rfl, by kernel_rfl, by kernel_rfl, fun s vs hok hl => ?_⟩
 obtain ⟨a, b, rfl⟩ := len2 hl
 exact BindsTo.of_defaults (items := itOf hdOf75) (n := 0) (T := 75) (by kernel_rfl) (hok _ _ (h1_get (o := hdOf75) (by kernel_rfl) (by decide) (by kernel_rfl)) (by decide)) (by kernel_rfl) rfl (by kernel_rfl)
theorem gcT : GC (glT prog w P) adF where
 bv := fun x v e => nv_bT P _ (mem_lk e)
 fv := fun x i e => nv_fT P _ (mem_lk e)
theorem gfsT : GFs (glT prog w P) adF where
 toGC := gcT P
 qmap := by kernel_rfl
 bmap := by kernel_rfl
 crlf := by kernel_rfl
 fs := gfn_pl P
theorem gdaT : GDa (glT prog w P) := ⟨by kernel_rfl, by kernel_rfl⟩
theorem gdfT : GDf (glT prog w P) adF := ⟨gfn20 P, gfn21 P⟩
noncomputable def esT : Array DictEntry := match hdOf96.data with
 | .dict es _ => es
 | _ => #[]
theorem esT_keys : esT.all (fun e => match e.key with | .int i _ => decide (e.hash = hashInt i) | _ => false) = true := by kernel_rfl
theorem esT_none : litL.all (fun c => (findBy Value.isInt esT (c : Int)).isNone) = true := by kernel_rfl
theorem gsT : GS (glT prog w P) where
 sp := by
  refine ⟨96, fun k => findBy Value.isInt esT k, by kernel_rfl, by decide, fun h hok => ?_, fun c hc => ?_⟩
  ·refine ⟨hdOf96, esT, 24, hok _ _ (h1_get (by kernel_rfl) (by decide) (by kernel_rfl)) (by decide), ⟨rfl, rfl, rfl⟩, by kernel_rfl, fun e he => ?_, fun k => rfl⟩
   have := Array.all_eq_true_iff_forall_mem.mp (esT_keys) e he
   cases hk : e.key with
   | int i t =>
    rw [hk] at this
    exact ⟨i, by simp [intKind, Value.isInt], by simpa [intKind] using this⟩
   | _ => rw [hk] at this; cases this
  ·exact Option.isNone_iff_eq_none.mp (List.all_eq_true.mp (esT_none) c hc)
noncomputable def vsP : Array Value := match hdOf87.data with
 | .fields vs => vs
 | _ => #[]
noncomputable def itP : Array Value := match hdOf86.data with
 | .seq vs _ => vs
 | _ => #[]
theorem gtT : GT (glT prog w P) adF 112 (mgT P) where
 fd := ⟨fdOf P 29, by kernel_rfl, by kernel_rfl⟩
 ex := rfl
 j := rfl
 code := fun h hok => ⟨hdOg112 P, _, _, _, _, _, _, _, _, hok _ _ (h1_get (by kernel_rfl) (by decide) (by kernel_rfl)) (by decide), rfl, rfl, rfl, rfl, rfl, rfl, rfl, rfl, show (112 : Nat) ≠ 108 by decide⟩
 bm := fun h hok => ⟨by
  exact ⟨4, boot_o_4 P, by kernel_rfl, by decide, by decide, show (4 : Nat) ≠ 108 by decide, hok _ _ (h1_get (by kernel_rfl) (by decide) (by kernel_rfl)) (by decide), by kernel_rfl, by kernel_rfl, by kernel_rfl⟩, ns_ok hok (by decide) (h1_mg P)⟩
 ne := show (3 : Nat) ≠ 108 by decide
 pat := ⟨87, 86, vsP, itP, by kernel_rfl, fun h hok => ⟨⟨⟨hdOf87, hok _ _ (h1_get (by kernel_rfl) (by decide) (by kernel_rfl)) (by decide), rfl, by kernel_rfl⟩, by kernel_rfl, by kernel_rfl, by kernel_rfl, ⟨hdOf86, 0, hok _ _ (h1_get (by kernel_rfl) (by decide) (by kernel_rfl)) (by decide), by kernel_rfl⟩, by kernel_rfl⟩, hdOf87, hok _ _ (h1_get (by kernel_rfl) (by decide) (by kernel_rfl)) (by decide), rfl⟩⟩
end
end
section
theorem holds_of (call : WalkO qT looseT (fun _ _ => True) (fun w h => ∀ a o, (H1 w.params).get? a = some o → h.get? a = some o) rT.toRowW defT.1 defT.2 fun f vs => PySem.call f vs) : PySem.Challenge.rw_in0172_01.Holds :=
 holds_law law_said fun said => holds_open (r := rT) (q := qT) (loose := looseT) (XP := fun _ _ => True) (YP := fun w h => ∀ a o, (H1 w.params).get? a = some o → h.get? a = some o) (d := defT.1) (kwd := defT.2) leftT (fun w s e a o g => by
  have e : s.heap = H1 w.params := e
  rw [e]; exact g) (fun w h h' y k a o g => k a o (y a o g)) (fun _ _ => trivial) (fun _ _ _ _ _ => trivial) law_def law_def2 law_def3 (fun s e => recFacts_of e) law_writes said law_ok law_bare law_wit call
end
section
/-! the listing of a mode -/
theorem bitAnd_nat (a b : Nat) : Builtin.bitAnd (a : Int) (b : Int) = ((a &&& b : Nat) : Int) := by
 unfold Builtin.bitAnd
 rw [decide_eq_true (Int.natCast_nonneg a), decide_eq_true (Int.natCast_nonneg b)]
 rfl
theorem and_hi {m : Nat} (h : m < 65536) : m &&& 61440 = 4096 * (m / 4096) := by
 have e := Nat.div_add_mod (m &&& 61440) (2 ^ 12)
 rw [Nat.and_div_two_pow, Nat.and_mod_two_pow] at e
 have h1 : m / 2 ^ 12 &&& 61440 / 2 ^ 12 = m / 2 ^ 12 := by
  show m / 2 ^ 12 &&& 15 = _
  rw [show (15 : Nat) = 2 ^ 4 - 1 by decide, Nat.and_two_pow_sub_one_eq_mod]
  exact Nat.mod_eq_of_lt (by omega)
 rw [h1, show 61440 % 2 ^ 12 = 0 by decide, Nat.and_zero] at e
 omega
theorem and_lo (m : Nat) {k : Nat} (h : k < 4096) : m &&& k = (m % 4096) &&& k := by
 have h2 : m &&& k < 2 ^ 12 := Nat.lt_of_le_of_lt Nat.and_le_right h
 have h3 : (m &&& k) % 2 ^ 12 = _ := Nat.and_mod_two_pow
 rw [Nat.mod_eq_of_lt h2, Nat.mod_eq_of_lt (show k < 2 ^ 12 from h)] at h3
 exact h3
noncomputable def pickN (r : Nat) : List (Nat × Nat) → Nat
 | [] => 45
 | p :: t => if r &&& p.1 = p.1 then p.2 else pickN r t
noncomputable def fileN (r : Nat) : List Nat := (ftL.drop 1).map (pickN r)
noncomputable def pickH (q : Nat) : List (Nat × Nat) → Nat
 | [] => 63
 | p :: t => if 4096 * q = p.1 then p.2 else pickH q t
theorem low_all : (List.range 4096).all (fun r => decide (fileN r = rightsL 0 r ++ rightsL 1 r ++ rightsL 2 r)) = true := by decide +kernel
theorem hi_all : (List.range 16).all (fun q => decide (pickH q (ftL.headD []) = kindL.getD q 0)) = true := by decide +kernel
theorem pickC_N {m i : Nat} (hi : i ≠ 0) : ∀ {t : List (Nat × Nat)}, (∀ p ∈ t, p.1 < 4096) → pickC m i t = pickN (m % 4096) t
 | [], _ => by simp [pickC, pickN, hi]
 | p :: t, h => by
  simp only [pickC, pickN, bitHit, if_neg hi, bitAnd_nat, and_lo m (h p (.head _))]
  by_cases e : m % 4096 &&& p.1 = p.1
  ·rw [if_pos e, decide_eq_true (by rw [e]), if_pos rfl]
  ·rw [if_neg e, decide_eq_false (by omega), if_neg (by simp), pickC_N hi fun p hp => h p (.tail _ hp)]
theorem pickC_H {m : Nat} (h : m < 65536) : ∀ {t : List (Nat × Nat)}, pickC m 0 t = pickH (m / 4096) t
 | [] => rfl
 | p :: t => by
  have : Builtin.bitAnd (m : Int) 61440 = ((4096 * (m / 4096) : Nat) : Int) := (bitAnd_nat m 61440).trans (by rw [and_hi h])
  simp only [pickC, pickH, bitHit, if_true, this]
  by_cases e : 4096 * (m / 4096) = p.1
  ·rw [if_pos e, decide_eq_true (by rw [e]), if_pos rfl]
  ·rw [if_neg e, decide_eq_false (by omega), if_neg (by simp), pickC_H h]
theorem fileR_N {m : Nat} : ∀ {ts : List (List (Nat × Nat))} {i : Nat}, i ≠ 0 → (∀ t ∈ ts, ∀ p ∈ t, p.1 < 4096) → fileR m i ts = ts.map (pickN (m % 4096))
 | [], _, _, _ => rfl
 | t :: ts, i, hi, h => by
  rw [fileR, List.map_cons, pickC_N hi (h t (.head _)), fileR_N (by omega) fun t ht => h t (.tail _ ht)]
theorem md {m : Nat} (a b c : Nat) (h : a * b = 4096) (hc : c ∣ b) : m / a % c = m % 4096 / a % c := by
 rw [← h, Nat.mod_mul_right_div_self, Nat.mod_mod_of_dvd _ hc]
theorem rights_mod (k m : Nat) (hk : k < 3) : rightsL k m = rightsL k (m % 4096) := by
 have h1 : m / 8 ^ (2 - k) % 8 = m % 4096 / 8 ^ (2 - k) % 8 := by
  rcases Nat.lt_or_ge k 1 with h | h
  ·have : k = 0 := Nat.lt_one_iff.mp h
   subst this; exact md 64 64 8 (by decide) (by decide)
  ·rcases Nat.lt_or_ge k 2 with g | g
   ·have : k = 1 := Nat.le_antisymm (Nat.le_of_lt_succ g) h
    subst this; exact md 8 512 8 (by decide) (by decide)
   ·have : k = 2 := Nat.le_antisymm (Nat.le_of_lt_succ hk) g
    subst this; exact md 1 4096 8 (by decide) (by decide)
 have h2 : m / 2 ^ (11 - k) % 2 = m % 4096 / 2 ^ (11 - k) % 2 := by
  rcases Nat.lt_or_ge k 1 with h | h
  ·have : k = 0 := Nat.lt_one_iff.mp h
   subst this; exact md 2048 2 2 (by decide) (by decide)
  ·rcases Nat.lt_or_ge k 2 with g | g
   ·have : k = 1 := Nat.le_antisymm (Nat.le_of_lt_succ g) h
    subst this; exact md 1024 4 2 (by decide) (by decide)
   ·have : k = 2 := Nat.le_antisymm (Nat.le_of_lt_succ hk) g
    subst this; exact md 512 8 2 (by decide) (by decide)
 unfold rightsL
 rw [h1, h2]
theorem file_listed (m : Nat) (h : m < 65536) : fileL m = listedL m := by
 have e : ftL = ftL.headD [] :: ftL.drop 1 := rfl
 unfold fileL
 rw [e, fileR, pickC_H h, fileR_N (by omega) (by decide)]
 have h1 := List.all_eq_true.mp hi_all (m / 4096) (List.mem_range.mpr (by omega))
 have h2 := List.all_eq_true.mp low_all (m % 4096) (List.mem_range.mpr (by omega))
 rw [decide_eq_true_eq] at h1 h2
 rw [h1]
 unfold listedL
 rw [rights_mod 0 m (by omega), rights_mod 1 m (by omega), rights_mod 2 m (by omega), ← h2]
 rfl
end
section
/-! the lines of a row -/
noncomputable def Wd (t : List Nat) : Prop := (∃ c, t = [c] ∧ c ≠ 61) ∨ (∃ a b, t = [61, a, b] ∧ (hex2 [a, b]).isSome = true)
theorem hex2_ab {a b : Nat} (h : (hex2 [a, b]).isSome = true) : (a = 51 ∧ b = 68) ∨ (a = 69 ∧ b = 57) ∨ (a = 50 ∧ b = 48) ∨ (a = 48 ∧ b = 57) := by
 obtain ⟨i, hi⟩ := Option.isSome_iff_exists.mp h
 have m := hex2_mem hi
 simp only [hexT, List.mem_cons, List.not_mem_nil, or_false, Prod.mk.injEq, List.cons.injEq, and_true] at m
 exact m.imp And.left (Or.imp And.left (Or.imp And.left And.left))
theorem Wd.len {t : List Nat} (h : Wd t) : 1 ≤ t.length ∧ t.length ≤ 3 := by
 rcases h with ⟨c, rfl, _⟩ | ⟨a, b, rfl, _⟩ <;> simp
theorem takeL_spec (room : Nat) : ∀ (left : List (List Nat)) (line : List Nat), line.length < room → ∃ pre post, left = pre ++ post ∧ takeL room line left = (line ++ pre.flatten, post) ∧ (line ++ pre.flatten).length < room ∧ (∀ t r, post = t :: r → room ≤ (line ++ pre.flatten ++ t).length)
 | [], line, h => ⟨[], [], rfl, by simp [takeL], by simpa using h, by simp⟩
 | t :: r, line, h => by
  by_cases q : (line ++ t).length < room
  ·obtain ⟨pre, post, h1, h2, h3, h4⟩ := takeL_spec room r (line ++ t) q
   refine ⟨t :: pre, post, by rw [h1]; rfl, ?_, ?_, ?_⟩
   ·simp only [takeL, if_pos q, h2]; simp
   ·simpa using h3
   ·intro t' r' e; have := h4 t' r' e; simpa using this
  ·refine ⟨[], t :: r, rfl, by simp only [takeL, if_neg q]; simp, by simpa using h, ?_⟩
   intro t' r' e
   cases e
   simp only [List.flatten_nil, List.append_nil]; exact o_not (by assumption)
theorem linesR_nil {room : Nat} {last : List Nat} : linesR room last [] = [[]] := by rw [linesR]; simp
theorem linesR_end {room : Nat} {last : List Nat} {left : List (List Nat)} (h : left ≠ []) (hl : (left.dropLast.flatten ++ last).length ≤ room) : linesR room last left = [left.dropLast.flatten ++ last] := by
 rw [linesR, if_neg fun q => Nat.not_lt.mpr hl q.2, if_neg h]
theorem linesR_go {room : Nat} {last p : List Nat} {left q : List (List Nat)} (h : left ≠ []) (hl : room < (left.dropLast.flatten ++ last).length) (ht : takeL room [] left = (p, q)) (hq : q.length < left.length) : linesR room last left = (p ++ [61]) :: linesR room last q := by
 rw [linesR, if_pos ⟨h, hl⟩, dif_pos (by rw [ht]; exact hq), ht]
theorem no_eq : ∀ {ws : List (List Nat)}, (∀ t ∈ ws, Wd t) → ∀ i, ws.flatten[i]? = some 61 → i + 3 ≤ ws.flatten.length
 | [], _, i, h => by simp at h
 | t :: r, hw, i, h => by
  have ih := no_eq (ws := r) fun t ht => hw t (.tail _ ht)
  rw [List.flatten_cons] at h ⊢
  rw [List.length_append]
  rcases hw t (.head _) with ⟨c, rfl, hc⟩ | ⟨a, b, rfl, hab⟩
  ·cases i with
   | zero => simp at h; exact absurd h hc
   | succ j => have := ih j (by simpa using h); simp only [List.length_cons, List.length_nil]; lia
  ·match i, h with
   | 0, h => simp
   | 1, h => have := hex2_ab hab; simp at h; lia
   | 2, h => have := hex2_ab hab; simp at h; lia
   | j + 3, h => have := ih j (by simpa using h); simp only [List.length_cons, List.length_nil]; lia
theorem getD_drop {l m : List Nat} {s i : Nat} (h : l.drop s = m) : l.getD (s + i) 0 = m.getD i 0 := by
 subst h
 rw [List.getD_eq_getElem?_getD, List.getD_eq_getElem?_getD, List.getElem?_drop]
theorem encR_end {M s : Nat} {e line : List Nat} (h : line.length ≤ s + M) : encR M e line s = [finP M e line s] := by
 rw [encR, dif_neg fun q => Nat.not_lt.mpr h q.2]
theorem pb_1 {p M : Nat} (h1 : p < M) (h2 : M ≤ p + 1) : p = M - 1 := Nat.eq_sub_of_add_eq (Nat.le_antisymm h1 h2)
theorem pb_3 {p M : Nat} (h1 : p < M) (h2 : M ≤ p + 3) : p = M - 3 ∨ p = M - 2 ∨ p = M - 1 := by
 rcases Nat.lt_or_eq_of_le h1 with h | h
 ·rcases Nat.lt_or_eq_of_le h with h | h
  ·exact .inl (Nat.eq_sub_of_add_eq (Nat.le_antisymm h h2))
  ·exact .inr (.inl (Nat.eq_sub_of_add_eq h))
 ·exact .inr (.inr (Nat.eq_sub_of_add_eq h))
theorem pb_s {p M s k : Nat} (hM : 4 ≤ M) (e : p = M - k) (h : k ≤ 4) : s + M - k = s + p := e ▸ Nat.add_sub_assoc (Nat.le_trans h hM) s
theorem pb_a {p M k j : Nat} (hM : 4 ≤ M) (e : p = M - k) (h : j ≤ 4) (hk : k < j) : M - j < p := e ▸ Nat.sub_lt_sub_left (Nat.lt_of_lt_of_le hk (Nat.le_trans h hM)) hk
theorem pb_b {p M k j : Nat} (hM : 4 ≤ M) (e : p = M - k) (h : j ≤ 4) (hk : j < k + 3) : p < M - j + 3 := by
 rw [e, ← Nat.sub_add_comm (Nat.le_trans h hM)]
 refine Nat.lt_sub_of_add_lt ?_
 rcases Nat.le_total k M with q | q
 ·exact Nat.lt_of_lt_of_le (Nat.add_lt_add_left hk _) (Nat.le_of_eq (by rw [← Nat.add_assoc, Nat.sub_add_cancel q]))
 ·rw [Nat.sub_eq_zero_of_le q, Nat.zero_add]; exact Nat.lt_of_le_of_lt h (Nat.lt_of_lt_of_le (by decide) (Nat.add_le_add_right hM 3))
theorem encR_go {M s : Nat} {e line : List Nat} {pre post : List (List Nat)} {t : List Nat} (hM : 4 ≤ M) (hpre : ∀ x ∈ pre, Wd x) (ht : Wd t) (hd : line.drop s = pre.flatten ++ (t ++ post.flatten)) (hlt : s + M < line.length) (h1 : pre.flatten.length < M) (h2 : M ≤ pre.flatten.length + t.length) :
  encR M e line s = (pre.flatten ++ [61]) :: encR M e line (s + pre.flatten.length) := by
 have noq := no_eq hpre
 have gd : ∀ i, line.getD (s + i) 0 = (pre.flatten ++ (t ++ post.flatten)).getD i 0 := fun i => getD_drop hd
 have inpre : ∀ i, i < pre.flatten.length → pre.flatten.length < i + 3 → line.getD (s + i) 0 ≠ 61 := fun i hi hj e => by
  rw [gd, List.getD_eq_getElem?_getD, List.getElem?_append_left hi, List.getElem?_eq_getElem hi] at e
  have := noq i (by rw [List.getElem?_eq_getElem hi]; exact congrArg some e)
  lia
 have atp : line.getD (s + pre.flatten.length) 0 = t.getD 0 0 := by
  rw [gd, List.getD_eq_getElem?_getD, List.getElem?_append_right (Nat.le_refl _), Nat.sub_self, List.getElem?_append_left ht.len.1, ← List.getD_eq_getElem?_getD]
 have tk : ∀ k, k = pre.flatten.length → (line.drop s).take k = pre.flatten := fun k hk => by rw [hd, hk, List.take_left]
 have tk1 : t.getD 0 0 = 61 → ∀ k, k = pre.flatten.length + 1 → (line.drop s).take k = pre.flatten ++ [61] := fun h61 k hk => by
  rw [hd, hk, List.take_append, List.take_of_length_le (Nat.le_succ _)]
  congr 1
  rw [Nat.add_sub_cancel_left]
  cases t with
  | nil => have := ht.len; simp at this
  | cons c t => simp at h61 ⊢; exact h61
 generalize hp : pre.flatten.length = p at *
 rw [encR, dif_pos ⟨hM, hlt⟩]
 rcases ht with ⟨c, rfl, hc⟩ | ⟨a, b, rfl, hab⟩
 ·simp only [List.length_cons, List.length_nil] at h2
  have hpM : p = M - 1 := pb_1 h1 h2
  rw [if_neg, if_neg, pb_s (k := 1) hM hpM (by decide), tk _ (by lia)]
  ·rw [Nat.add_sub_assoc (k := 2) (Nat.le_trans (by decide) hM) s]; exact inpre _ (pb_a hM hpM (by decide) (by decide)) (pb_b hM hpM (by decide) (by decide))
  ·rw [Nat.add_sub_assoc (k := 3) (Nat.le_trans (by decide) hM) s]; exact inpre _ (pb_a hM hpM (by decide) (by decide)) (pb_b hM hpM (by decide) (by decide))
 ·simp only [List.length_cons, List.length_nil] at h2
  have atp : line.getD (s + p) 0 = 61 := atp
  have tk1 := tk1 rfl
  rcases pb_3 h1 h2 with e | e | e
  ·rw [if_pos (by rw [pb_s (k := 3) hM e (by decide)]; exact atp), pb_s (k := 3) hM e (by decide), tk1 _ (by lia)]
  ·rw [if_neg (by rw [Nat.add_sub_assoc (k := 3) (Nat.le_trans (by decide) hM) s]; exact inpre _ (pb_a hM e (by decide) (by decide)) (pb_b hM e (by decide) (by decide))), if_pos (by rw [pb_s (k := 2) hM e (by decide)]; exact atp), pb_s (k := 2) hM e (by decide), tk1 _ (by lia)]
  ·rw [if_neg (by rw [Nat.add_sub_assoc (k := 3) (Nat.le_trans (by decide) hM) s]; exact inpre _ (pb_a hM e (by decide) (by decide)) (pb_b hM e (by decide) (by decide))), if_neg (by rw [Nat.add_sub_assoc (k := 2) (Nat.le_trans (by decide) hM) s]; exact inpre _ (pb_a hM e (by decide) (by decide)) (pb_b hM e (by decide) (by decide))), pb_s (k := 1) hM e (by decide), tk _ (by lia)]
theorem escT_len {t : List Nat} (h : Wd t) : t.length ≤ (escT t).length := by
 unfold escT
 split
 ·rename_i e; rw [e]; simp
 ·split
  ·rename_i e; rw [e]; simp
  ·exact Nat.le_refl _
theorem split_last {left : List (List Nat)} {lw : List Nat} (h : left.getLast? = some lw) : left = left.dropLast ++ [lw] := by
 obtain ⟨ys, rfl⟩ := List.getLast?_eq_some_iff.mp h
 simp
theorem pb_k {L s M f d : Nat} (h : L + 2 ≤ s + M) (hL : L = s + f) (hf : f = d + 1) : d + 3 ≤ M := by
 subst hL hf; exact Nat.le_of_add_le_add_left (a := s) h
theorem pb_m {L s M f : Nat} (h : L + 1 = s + M) (hL : L = s + f) : M = f + 1 := by
 subst hL; exact (Nat.add_left_cancel (n := s) h).symm
theorem pb_l {M f p t r : Nat} (h : M = f + 1) (h3 : M ≤ p + t) (hf : f = p + (t + r)) : False := by
 subst h hf; exact absurd h3 (Nat.not_le.mpr (Nat.lt_succ_of_le (Nat.add_le_add_left (Nat.le_add_right _ _) p)))
theorem pb_n {L s M f : Nat} (h0 : ¬ s + M < L) (h1 : ¬ L + 2 ≤ s + M) (h2 : ¬ L + 1 = s + M) (hL : L = s + f) : f = M := by
 subst hL
 rcases Nat.lt_or_eq_of_le (Nat.le_of_not_lt h0) with h | h
 ·rcases Nat.lt_or_eq_of_le h with h | h
  ·exact absurd h h1
  ·exact absurd h h2
 ·exact Nat.add_left_cancel h
theorem pb_o {M f p t x y : Nat} (h : f = M) (hf : f = p + (t + (x + y))) (h3 : M ≤ p + t) (h1 : 1 ≤ x) : False := by
 subst h hf; exact absurd (Nat.le_of_add_le_add_left (b := t + (x + y)) h3) (Nat.not_le.mpr (Nat.lt_add_of_pos_right (Nat.lt_of_lt_of_le h1 (Nat.le_add_right _ _))))
theorem hex2_b {a b : Nat} (h : (hex2 [a, b]).isSome = true) : ¬ (b = 32 ∨ b = 9) := by
 rcases hex2_ab h with ⟨_, rfl⟩ | ⟨_, rfl⟩ | ⟨_, rfl⟩ | ⟨_, rfl⟩ <;> decide
theorem enc_lines {M : Nat} {e line : List Nat} (hM : 4 ≤ M) : ∀ (n : Nat) (left : List (List Nat)) (s : Nat) (lw : List Nat), left.length = n → left.getLast? = some lw → (∀ t ∈ left, Wd t) → s ≤ line.length → line.drop s = left.flatten →
  (encR M e line s).flatMap (· ++ e) = (linesR M (escT lw) left).flatMap (· ++ e) := by
 intro n
 induction n using Nat.strongRecOn with
 | _ n ih =>
 intro left s lw hn hlw hw hs hd
 have hne : left ≠ [] := by rintro rfl; simp at hlw
 have hsp := split_last hlw
 have hL : line.length = s + left.flatten.length := by rw [← hd, List.length_drop]; exact (Nat.add_sub_cancel' hs).symm
 have hfl : left.flatten = left.dropLast.flatten ++ lw := by
  conv => lhs; rw [hsp]
  rw [List.flatten_append]; simp
 have hlwW : Wd lw := hw lw (by rw [hsp]; simp)
 have hfll : left.flatten.length = left.dropLast.flatten.length + lw.length := by rw [hfl, List.length_append]
 have hel := escT_len hlwW
 obtain ⟨pre, post, t1, t2, t3, t4⟩ := takeL_spec M left [] (Nat.lt_of_lt_of_le (by decide) hM)
 simp only [List.nil_append] at t2 t3 t4
 have hff : left.flatten = pre.flatten ++ post.flatten := by rw [t1, List.flatten_append]
 have hffl : left.flatten.length = pre.flatten.length + post.flatten.length := by rw [hff, List.length_append]
 by_cases hgo : s + M < line.length
 ·cases hpost : post with
  | nil => rw [hpost, List.flatten_nil, List.length_nil, Nat.add_zero] at hffl; exact absurd hgo (Nat.not_lt.mpr (by rw [hL, hffl]; exact Nat.add_le_add_left (Nat.le_of_lt t3) s))
  | cons t r =>
   have hM2 := t4 t r hpost
   rw [List.length_append] at hM2
   have htW : Wd t := hw t (by rw [t1, hpost]; simp)
   have hpre0 : pre ≠ [] := by
    intro e
    rw [e] at hM2
    exact absurd (Nat.le_trans hM (Nat.le_trans hM2 (Nat.le_of_eq (Nat.zero_add _)))) (Nat.not_le.mpr (Nat.lt_succ_of_le htW.len.2))
   have hpl := List.length_pos_iff.mpr hpre0
   have hlen : post.length < left.length := by rw [t1, List.length_append]; exact Nat.lt_add_of_pos_left hpl
   rw [linesR_go hne (by rw [List.length_append]; exact Nat.lt_of_lt_of_le (Nat.lt_of_add_lt_add_left (hL ▸ hgo)) (hfll ▸ Nat.add_le_add_left hel _)) t2 hlen]
   rw [encR_go (post := r) hM (fun x hx => hw x (by rw [t1]; exact List.mem_append_left _ hx)) htW (by rw [hd, hff, hpost]; rfl) hgo t3 hM2]
   rw [List.flatMap_cons, List.flatMap_cons]
   congr 1
   refine ih post.length (hn ▸ hlen) post _ lw rfl ?_ (fun x hx => hw x (by rw [t1]; exact List.mem_append_right _ hx)) (by rw [hL, hffl]; exact Nat.add_le_add_left (Nat.le_add_right _ _) s) ?_
   ·rw [← hlw, t1, List.getLast?_append]
    rw [hpost]
    cases h : (t :: r).getLast? with
    | none => exact absurd (List.getLast?_eq_none_iff.mp h) (by simp)
    | some _ => rfl
   ·rw [← List.drop_drop, hd, hff, List.drop_left]
 ·rw [encR_end (Nat.le_of_not_lt hgo)]
  have hlast : line.getLast? = lw.getLast? := by
   have h1 : line = line.take s ++ left.flatten := by rw [← hd, List.take_append_drop]
   have := hlwW.len
   rw [h1, hfl, List.getLast?_append, List.getLast?_append]
   cases h : lw.getLast? with
   | none => rw [List.getLast?_eq_none_iff.mp h] at this; simp at this
   | some c => rfl
  have hD : (line.take (line.length - 1)).drop s = left.flatten.take (left.flatten.length - 1) := by
   rw [List.drop_take, hd, Nat.sub_right_comm, hL, Nat.add_sub_cancel_left]
  by_cases hb : lw = [32] ∨ lw = [9]
  ·obtain ⟨c, rfl, hc⟩ : ∃ c, lw = [c] ∧ (c = 32 ∨ c = 9) := by rcases hb with h | h <;> exact ⟨_, h, by simp⟩
   have hq : escT [c] = quoL c := by rcases hc with rfl | rfl <;> decide
   have hq3 : (quoL c).length = 3 := rfl
   have hDD : (line.take (line.length - 1)).drop s = left.dropLast.flatten := by
    rw [hD, hfl, List.length_append]
    simp
   have hf : finP M e line s = left.dropLast.flatten ++ (if line.length + 2 ≤ s + M then quoL c else if line.length + 1 = s + M then c :: 61 :: e else 61 :: e ++ quoL c) := by
    unfold finP
    rw [hlast]
    simp only [List.getLast?_singleton]
    rw [if_pos hc, hDD]
   rw [hf, hq]
   simp only [List.length_cons, List.length_nil] at hfll
   by_cases h1 : line.length + 2 ≤ s + M
   ·rw [if_pos h1, linesR_end hne (by rw [List.length_append]; exact pb_k h1 hL hfll)]
   ·rw [if_neg h1]
    by_cases h2 : line.length + 1 = s + M
    ·have hp0 : post = [] := by
      cases hpost : post with
      | nil => rfl
      | cons t r =>
       have := t4 t r hpost
       rw [List.length_append] at this
       rw [hpost, List.flatten_cons, List.length_append] at hffl
       exact (pb_l (pb_m h2 hL) this hffl).elim
     rw [if_pos h2, linesR_go hne (by rw [List.length_append, pb_m h2 hL, hfll]; exact Nat.lt_succ_self _) t2 (by rw [hp0]; exact List.length_pos_iff.mpr hne), hp0, linesR_nil]
     have : pre = left := by rw [t1, hp0, List.append_nil]
     rw [this, hfl]
     simp
    ·rw [if_neg h2]
     have hfM := pb_n hgo h1 h2 hL
     obtain ⟨rfl, hpd⟩ : post = [[c]] ∧ pre = left.dropLast := by
      cases hpost : post with
      | nil => rw [hpost, List.flatten_nil, List.length_nil, Nat.add_zero] at hffl; exact absurd (hffl.symm.trans hfM) (Nat.ne_of_lt t3)
      | cons t r =>
       have h3 := t4 t r hpost
       rw [List.length_append] at h3
       have hr : r = [] := by
        cases r with
        | nil => rfl
        | cons x y =>
         have hx := (hw x (by rw [t1, hpost]; simp)).len
         rw [hpost] at hffl
         simp only [List.flatten_cons, List.length_append] at hffl
         exact (pb_o hfM hffl h3 hx.1).elim
       subst hr
       rw [hpost] at t1
       have h5 := hlw
       rw [t1] at h5
       simp at h5
       exact ⟨by rw [h5], by rw [t1]; simp⟩
     have hlt : [[c]].length < left.length := by
      have hpz : pre ≠ [] := by
       intro e
       rw [← hpd, e] at hfll
       exact absurd (hfM.symm.trans hfll ▸ hM) (by decide)
      have := List.length_pos_iff.mpr hpz
      rw [t1, List.length_append]
      exact Nat.lt_add_of_pos_left this
     rw [linesR_go hne (by rw [List.length_append, ← hfM, hfll]; exact Nat.lt_succ_of_lt (Nat.lt_succ_self _)) t2 hlt, linesR_end (by simp) (show 3 ≤ M from Nat.le_trans (by decide) hM), hpd]
     simp
  ·rw [linesR_end hne]
   ·have : escT lw = lw := by unfold escT; rw [if_neg (fun h => hb (.inl h)), if_neg (fun h => hb (.inr h))]
    rw [this, ← hfl]
    have : finP M e line s = line.drop s := by
     unfold finP
     split
     ·rename_i c hc
      rw [hlast] at hc
      rw [if_neg]
      rintro hcc
      rcases hlwW with ⟨d, rfl, hd2⟩ | ⟨a, b, rfl, hab⟩
      ·simp at hc; subst hc; rcases hcc with rfl | rfl
       ·exact hb (.inl rfl)
       ·exact hb (.inr rfl)
      ·simp at hc; subst hc; exact hex2_b hab hcc
     ·rfl
    rw [this, hd]
   ·have : escT lw = lw := by unfold escT; rw [if_neg (fun h => hb (.inl h)), if_neg (fun h => hb (.inr h))]
    rw [this, List.length_append, ← hfll]; exact Nat.le_of_add_le_add_left (hL ▸ Nat.le_of_not_lt hgo)
end
section
theorem linesR_ind {M : Nat} (hM : 4 ≤ M) {last : List Nat} (Q : List (List Nat) → List (List Nat) → Prop) (nil : Q [] [[]]) (fin : ∀ left, left ≠ [] → (∀ t ∈ left, Wd t) → Q left [left.dropLast.flatten ++ last])
  (go : ∀ pre post lines, pre ≠ [] → (∀ t ∈ pre, Wd t) → Q post lines → Q (pre ++ post) ((pre.flatten ++ [61]) :: lines)) : ∀ (n : Nat) (left : List (List Nat)), left.length = n → (∀ t ∈ left, Wd t) → Q left (linesR M last left) := by
 intro n
 induction n using Nat.strongRecOn with
 | _ n ih =>
 intro left hn hw
 by_cases hne : left = []
 ·subst hne; rw [linesR_nil]; exact nil
 by_cases hl : (left.dropLast.flatten ++ last).length ≤ M
 ·rw [linesR_end hne hl]; exact fin left hne hw
 ·obtain ⟨pre, post, t1, t2, t3, t4⟩ := takeL_spec M left [] (by simp; lia)
  simp only [List.nil_append] at t2 t3 t4
  have hpre : pre ≠ [] := by
   rintro rfl
   cases hp : post with
   | nil => rw [hp] at t1; exact hne (by simpa using t1)
   | cons t r =>
    have h1 := t4 t r hp
    have h2 := (hw t (by rw [t1, hp]; simp)).len
    simp at h1; lia
  have hpl := List.length_pos_iff.mpr hpre
  have hlt : post.length < left.length := by rw [t1, List.length_append]; lia
  rw [linesR_go hne (by exact o_not2 (by assumption)) t2 hlt]
  have := go pre post (linesR M last post) hpre (fun t ht => hw t (by rw [t1]; exact List.mem_append_left _ ht)) (ih post.length (by lia) post rfl fun t ht => hw t (by rw [t1]; exact List.mem_append_right _ ht))
  rw [← t1] at this
  exact this
theorem linesR_ne {M : Nat} (hM : 4 ≤ M) {last : List Nat} {left : List (List Nat)} (hw : ∀ t ∈ left, Wd t) : linesR M last left ≠ [] :=
 linesR_ind hM (fun _ ls => ls ≠ []) (by simp) (fun _ _ _ => by simp) (fun _ _ _ _ _ _ => by simp) _ left rfl hw
/-! which lines go on -/
noncomputable def Brk (g : List (List Nat)) : Prop := ∃ i l, g = i ++ [l] ∧ (∀ x ∈ i, x.getLast? = some 61) ∧ l.getLast? ≠ some 61
theorem Wd.end {t : List Nat} (h : Wd t) : ∃ c, t.getLast? = some c ∧ c ≠ 61 := by
 rcases h with ⟨c, rfl, hc⟩ | ⟨a, b, rfl, hab⟩
 ·exact ⟨c, rfl, hc⟩
 ·exact ⟨b, rfl, by have := hex2_ab hab; lia⟩
theorem linesR_brk {M : Nat} (hM : 4 ≤ M) {last : List Nat} (hl : Wd last) {left : List (List Nat)} (hw : ∀ t ∈ left, Wd t) : Brk (linesR M last left) :=
 linesR_ind hM (fun _ ls => Brk ls) ⟨[], [], rfl, by simp, by simp⟩ (fun left _ _ => ⟨[], _, rfl, by simp, by
   obtain ⟨c, h1, h2⟩ := hl.end
   rw [List.getLast?_append, h1]
   simpa using h2⟩)
  (fun pre post lines _ _ ⟨i, l, e, h1, h2⟩ => ⟨(pre.flatten ++ [61]) :: i, l, by rw [e]; rfl, fun x hx => by
   rcases List.mem_cons.mp hx with rfl | hx
   ·simp
   ·exact h1 x hx, h2⟩) _ left rfl hw
theorem linesR_ends {M : Nat} (hM : 4 ≤ M) {last : List Nat} {left : List (List Nat)} (hw : ∀ t ∈ left, Wd t) (hl : Wd last) : ∀ l ∈ linesR M last left, l = [] ∨ ∃ c, l.getLast? = some c ∧ (c = 61 ∨ last.getLast? = some c) :=
 linesR_ind hM (fun _ ls => ∀ l ∈ ls, l = [] ∨ ∃ c, l.getLast? = some c ∧ (c = 61 ∨ last.getLast? = some c)) (by simp) (fun left _ _ l hx => by
   simp only [List.mem_singleton] at hx
   subst hx
   obtain ⟨c, h1, h2⟩ := hl.end
   exact .inr ⟨c, by rw [List.getLast?_append, h1]; rfl, .inr h1⟩)
  (fun pre post lines _ _ h l hx => by
   rcases List.mem_cons.mp hx with rfl | hx
   ·exact .inr ⟨61, by simp, .inl rfl⟩
   ·exact h l hx) _ left rfl hw
theorem linesR_mem {M : Nat} (hM : 4 ≤ M) {last : List Nat} {left : List (List Nat)} (hw : ∀ t ∈ left, Wd t) : ∀ l ∈ linesR M last left, ∀ c ∈ l, c ∈ left.flatten ∨ c ∈ last ∨ c = 61 :=
 linesR_ind hM (fun left ls => ∀ l ∈ ls, ∀ c ∈ l, c ∈ left.flatten ∨ c ∈ last ∨ c = 61) (by simp) (fun left hne _ l hx c hc => by
   simp only [List.mem_singleton] at hx
   subst hx
   rcases List.mem_append.mp hc with h | h
   ·left
    obtain ⟨t, ht, hct⟩ := List.mem_flatten.mp h
    exact List.mem_flatten.mpr ⟨t, List.dropLast_subset _ ht, hct⟩
   ·exact .inr (.inl h))
  (fun pre post lines _ _ h l hx c hc => by
   rw [List.flatten_append, List.mem_append]
   rcases List.mem_cons.mp hx with rfl | hx
   ·rcases List.mem_append.mp hc with h | h
    ·exact .inl (.inl h)
    ·exact .inr (.inr (by simpa using h))
   ·rcases h l hx c hc with h | h
    ·exact .inl (.inr h)
    ·exact .inr h) _ left rfl hw
theorem flat3 : ∀ {ws : List (List Nat)}, (∀ t ∈ ws, Wd t) → ws.flatten.length ≤ 3 * ws.length
 | [], _ => by simp
 | t :: r, h => by
  have h1 := (h t (.head _)).len
  have h2 := flat3 (ws := r) fun x hx => h x (.tail _ hx)
  rw [List.flatten_cons, List.length_append, List.length_cons]; lia
theorem linesR_size {M : Nat} (hM : 4 ≤ M) {last : List Nat} (hl : last.length ≤ 3) {left : List (List Nat)} (hw : ∀ t ∈ left, Wd t) : ((linesR M last left).map fun l => l.length + 5).sum ≤ 9 * left.length + 8 :=
 linesR_ind hM (fun left ls => (ls.map fun l => l.length + 5).sum ≤ 9 * left.length + 8) (by simp) (fun left hne hw => by
   have h1 := flat3 (ws := left.dropLast) fun t ht => hw t (List.dropLast_subset _ ht)
   have h2 := List.length_pos_iff.mpr hne
   rw [List.length_dropLast] at h1
   simp only [List.map_cons, List.map_nil, List.sum_cons, List.sum_nil, List.length_append]; lia)
  (fun pre post lines hp hw h => by
   have h1 := flat3 hw
   have h2 := List.length_pos_iff.mpr hp
   simp only [List.map_cons, List.sum_cons, List.length_append, List.length_cons, List.length_nil]; lia) _ left rfl hw
/-! decoding the lines -/
noncomputable def dW : List Nat → Nat
 | [c] => c
 | [_, a, b] => ((hex2 [a, b]).getD 0).toNat
 | _ => 0
theorem decOk_ws : ∀ {ws : List (List Nat)} (t : List Nat), (∀ t ∈ ws, Wd t) → decOk t = true → decOk (ws.flatten ++ t) = true
 | [], t, _, ht => by simpa using ht
 | w :: r, t, h, ht => by
  have ih := decOk_ws (ws := r) t (fun x hx => h x (.tail _ hx)) ht
  rw [List.flatten_cons, List.append_assoc]
  rcases h w (.head _) with ⟨c, rfl, hc⟩ | ⟨a, b, rfl, hab⟩
  ·rw [List.singleton_append, decOk_ne hc]; exact ih
  ·simp only [List.cons_append, List.nil_append]
   rw [decOk_eq, hab, ih]; rfl
theorem decR_ws (eol : List Nat) : ∀ {ws : List (List Nat)}, ws ≠ [] → (∀ t ∈ ws, Wd t) → decR eol ws.flatten = ws.map dW ++ eol
 | [w], _, h => by
  rw [List.flatten_cons, List.flatten_nil, List.append_nil]
  rcases h w (.head _) with ⟨c, rfl, hc⟩ | ⟨a, b, rfl, hab⟩
  ·rw [decR_ne hc, if_pos rfl]; rfl
  ·rw [decR_eq, if_pos rfl]; rfl
 | w :: v :: r, _, h => by
  have ih := decR_ws eol (ws := v :: r) (by simp) fun x hx => h x (.tail _ hx)
  have hv := (h v (.tail _ (.head _))).len
  have hne : (v :: r).flatten ≠ [] := by
   intro e
   have := congrArg List.length e
   rw [List.flatten_cons, List.length_append] at this
   simp at this; rw [this.1] at hv; simp at hv
  rw [List.flatten_cons]
  rcases h w (.head _) with ⟨c, rfl, hc⟩ | ⟨a, b, rfl, hab⟩
  ·rw [List.singleton_append, decR_ne hc, if_neg hne, ih]; rfl
  ·simp only [List.cons_append, List.nil_append]
   rw [decR_eq, if_neg hne, ih]; rfl
theorem decR_ws1 (eol : List Nat) : ∀ {ws : List (List Nat)}, (∀ t ∈ ws, Wd t) → decR eol (ws.flatten ++ [61]) = ws.map dW
 | [], _ => by simp [decR]
 | w :: r, h => by
  have ih := decR_ws1 eol (ws := r) fun x hx => h x (.tail _ hx)
  rw [List.flatten_cons, List.append_assoc]
  have hne : r.flatten ++ [61] ≠ [] := by simp
  rcases h w (.head _) with ⟨c, rfl, hc⟩ | ⟨a, b, rfl, hab⟩
  ·rw [List.singleton_append, decR_ne hc, if_neg hne, ih]; rfl
  ·simp only [List.cons_append, List.nil_append]
   rw [decR_eq, if_neg hne, ih]; rfl
theorem Wd_esc {t : List Nat} (h : Wd t) : Wd (escT t) ∧ dW (escT t) = dW t := by
 unfold escT
 split
 ·rename_i e; subst e; exact ⟨.inr ⟨50, 48, rfl, rfl⟩, rfl⟩
 ·split
  ·rename_i e; subst e; exact ⟨.inr ⟨48, 57, rfl, rfl⟩, rfl⟩
  ·exact ⟨h, rfl⟩
theorem flat_ne {ws : List (List Nat)} (h : ws ≠ []) (hw : ∀ t ∈ ws, Wd t) : ws.flatten ≠ [] := by
 cases ws with
 | nil => exact absurd rfl h
 | cons w r =>
  have := (hw w (.head _)).len
  intro e
  have h2 := congrArg List.length e
  rw [List.flatten_cons, List.length_append, List.length_nil] at h2
  lia
theorem linesR_dec {M : Nat} (hM : 4 ≤ M) (eol : List Nat) {last lw : List Nat} (hl : last = escT lw) (hlw : Wd lw) {left : List (List Nat)} (hg : left.getLast? = some lw) (hw : ∀ t ∈ left, Wd t) : decL eol (linesR M last left) = left.map dW ++ eol ∧ ∀ l ∈ linesR M last left, decOk l = true := by
 have hlast : Wd last := by rw [hl]; exact (Wd_esc hlw).1
 refine linesR_ind hM (fun left ls => (∀ x, left.getLast? = some x → x = lw) → decL eol ls = left.map dW ++ eol ∧ ∀ l ∈ ls, decOk l = true) (fun _ => ⟨by simp [decL, decP], by simp [decOk]⟩) (fun left hne hw hx => ?_) (fun pre post lines hp hw ih hx => ?_) _ left rfl hw (fun x hx => by rw [hg] at hx; exact (Option.some.inj hx).symm)
 ·obtain ⟨x, hx2⟩ : ∃ x, left.getLast? = some x := by
   cases h : left.getLast? with
   | none => exact absurd (List.getLast?_eq_none_iff.mp h) hne
   | some x => exact ⟨x, rfl⟩
  have hxl := hx x hx2
  subst hxl
  have hsp := split_last hx2
  have hdw : ∀ t ∈ left.dropLast, Wd t := fun t ht => hw t (List.dropLast_subset _ ht)
  have hws : ∀ t ∈ left.dropLast ++ [last], Wd t := fun t ht => by
   rcases List.mem_append.mp ht with h | h
   ·exact hdw t h
   ·rw [List.mem_singleton.mp h]; exact hlast
  have e : left.dropLast.flatten ++ last = (left.dropLast ++ [last]).flatten := by simp
  constructor
  ·rw [e]
   simp only [decL, List.flatMap_cons, List.flatMap_nil, List.append_nil, decP]
   rw [if_neg (flat_ne (by simp) hws), decR_ws eol (by simp) hws, List.map_append]
   conv => rhs; rw [hsp]
   rw [List.map_append, hl]
   simp only [List.map_cons, List.map_nil, (Wd_esc hlw).2]
  ·intro l hl2
   rw [List.mem_singleton.mp hl2, e]
   have := decOk_ws (ws := left.dropLast ++ [last]) [] hws rfl
   simpa using this
 ·have ih := ih fun x hx2 => hx x (by rw [List.getLast?_append, hx2]; rfl)
  constructor
  ·have h1 : decP eol (pre.flatten ++ [61]) = pre.map dW := by
    unfold decP
    rw [if_neg (by simp), decR_ws1 eol hw]
   have h2 : decL eol ((pre.flatten ++ [61]) :: lines) = decP eol (pre.flatten ++ [61]) ++ decL eol lines := rfl
   rw [h2, h1, ih.1, List.map_append, List.append_assoc]
  ·intro l hl2
   rcases List.mem_cons.mp hl2 with rfl | h
   ·exact decOk_ws [61] hw rfl
   ·exact ih.2 l h
end
section
/-! the signs of a letter -/
noncomputable def alphL : List Nat := sgnL ++ [32] ++ poolL
noncomputable def wdB : List Nat → Bool
 | [c] => c != 61
 | [d, a, b] => d == 61 && (hex2 [a, b]).isSome
 | _ => false
theorem wd_of {t : List Nat} (h : wdB t = true) : Wd t := by
 unfold wdB at h
 split at h
 ·exact .inl ⟨_, rfl, by simpa using h⟩
 ·simp only [Bool.and_eq_true, beq_iff_eq] at h
  obtain ⟨rfl, h⟩ := h
  exact .inr ⟨_, _, rfl, h⟩
 ·cases h
noncomputable def alphB (c : Nat) : Bool := wdB (wrL c) && (dW (wrL c) == c) && decide (c < 256) && (c != 10) && (c != 13) && decide (bodyL c = wrL c) && (wrL c).all (fun x => decide (x < 256) && !Unicode.isLineBreak x) && (escT (wrL c)).all (fun x => decide (x < 256) && !Unicode.isLineBreak x) && (match (escT (wrL c)).getLast? with | some x => !Unicode.isSpace x | none => false)
theorem alph_all : alphL.all alphB = true := by decide +kernel
theorem eq_sign : Unicode.isSpace 61 = false ∧ Unicode.isLineBreak 61 = false ∧ Unicode.isLineBreak 10 = true ∧ Unicode.isLineBreak 13 = true := by decide +kernel
structure Sg (c : Nat) : Prop where
 wd : Wd (wrL c)
 dw : dW (wrL c) = c
 low : c < 256
 ne : c ≠ 10 ∧ c ≠ 13
 body : bodyL c = wrL c
 ws : ∀ x ∈ wrL c, x < 256 ∧ Unicode.isLineBreak x = false
 es : ∀ x ∈ escT (wrL c), x < 256 ∧ Unicode.isLineBreak x = false
 en : ∃ x, (escT (wrL c)).getLast? = some x ∧ Unicode.isSpace x = false
theorem sg_of {c : Nat} (h : c ∈ alphL) : Sg c := by
 have := List.all_eq_true.mp alph_all c h
 simp only [alphB, Bool.and_eq_true, decide_eq_true_eq, beq_iff_eq, bne_iff_ne, List.all_eq_true, Bool.not_eq_true'] at this
 obtain ⟨⟨⟨⟨⟨⟨⟨⟨h1, h2⟩, h3⟩, h4⟩, h5⟩, h6⟩, h7⟩, h8⟩, h9⟩ := this
 refine ⟨wd_of h1, h2, h3, ⟨h4, h5⟩, h6, h7, h8, ?_⟩
 split at h9
 ·rename_i x hx; exact ⟨x, hx, by simpa using h9⟩
 ·cases h9
/-! what stands at a line's end stays -/
theorem rstrip_is {l : List Nat} (h : l = [] ∨ ∃ c, l.getLast? = some c ∧ Unicode.isSpace c = false) : Txt.rstrip (S l) = S l := by
 unfold Txt.rstrip Txt.stripBy
 rw [if_pos]
 unfold stripSame stripLo stripHi
 have hl : (S l).cps.toList = l := by simp [S]
 simp only [if_true, Bool.false_eq_true, if_false, hl, List.drop_zero, beq_self_eq_true, Bool.true_and, beq_iff_eq]
 have : (l.reverse.takeWhile Unicode.isSpace) = [] := by
  rcases h with rfl | ⟨c, h1, h2⟩
  ·rfl
  ·have := split_last' h1
   rw [this]
   simp [h2]
 rw [this]; simp
where
 split_last' {l : List Nat} {c : Nat} (h : l.getLast? = some c) : l = l.dropLast ++ [c] := by
  obtain ⟨ys, rfl⟩ := List.getLast?_eq_some_iff.mp h
  simp
/-! cutting at the line ends -/
noncomputable def cutsL (k : Nat) : Nat → List (List Nat) → List Nat
 | _, [] => []
 | i, l :: r => (i + l.length) :: cutsL k (i + l.length + k) r
theorem occ_crlf : ∀ {l : List Nat} {i : Nat} {r : List Nat}, 13 ∉ l → occR [13, 10] i 0 (l ++ 13 :: 10 :: r) = (i + l.length) :: occR [13, 10] (i + l.length + 2) 0 r
 | [], i, r, _ => by simp [occR]
 | a :: l, i, r, h => by
  have ha : a ≠ 13 := by rintro rfl; exact h (.head _)
  have hl : 13 ∉ l := fun q => h (.tail _ q)
  rw [List.cons_append, occR, if_neg (by simp [List.isPrefixOf]; exact fun q => absurd q.symm ha), occ_crlf hl]
  simp [Nat.add_assoc, Nat.add_comm 1]
theorem occ_ends {e : List Nat} (he : e = [10] ∨ e = [13, 10]) : ∀ (ls : List (List Nat)) (i : Nat), (∀ l ∈ ls, 10 ∉ l ∧ 13 ∉ l) → occR e i 0 (ls.flatMap (· ++ e)) = cutsL e.length i ls
 | [], i, _ => by rcases he with rfl | rfl <;> simp [cutsL, occR]
 | l :: r, i, h => by
  have ih := occ_ends he r (i + l.length + e.length) fun x hx => h x (.tail _ hx)
  have h0 := h l (.head _)
  rw [List.flatMap_cons, cutsL, ← ih]
  rcases he with rfl | rfl
  ·rw [List.append_assoc]; exact occ_sign h0.1
  ·rw [List.append_assoc]; exact occ_crlf h0.2
theorem cuts_len {k : Nat} : ∀ {ls : List (List Nat)} {i : Nat}, (cutsL k i ls).length = ls.length
 | [], _ => rfl
 | _ :: r, i => by simp only [cutsL, List.length_cons, cuts_len (ls := r)]
theorem parts_is {x e : List Nat} : ∀ (ls : List (List Nat)) (i : Nat), x.drop i = ls.flatMap (· ++ e) → i ≤ x.length →
  ((i :: (cutsL e.length i ls).map (· + e.length)).zip (cutsL e.length i ls ++ [x.length])).map (fun p => Builtin.Str.strSub (S x) p.1 p.2) = (ls ++ [[]]).map S
 | [], i, h, hi => by
  simp only [cutsL, List.map_nil, List.nil_append, List.zip_cons_cons, List.zip_nil_right, List.map_cons, List.cons.injEq, and_true]
  simp only [List.flatMap_nil] at h
  have h2 := congrArg List.length h
  rw [sub_S, List.take_length, h]
 | l :: r, i, h, hi => by
  rw [List.flatMap_cons] at h
  have h2 := congrArg List.length h
  rw [List.length_drop, List.length_append, List.length_append] at h2
  have ih := parts_is (x := x) (e := e) r (i + l.length + e.length) (by
   rw [show i + l.length + e.length = i + (l ++ e).length by rw [List.length_append]; lia, ← List.drop_drop, h, List.drop_left]) (by lia)
  simp only [cutsL, List.map_cons, List.cons_append, List.zip_cons_cons, List.map_cons]
  rw [← ih]
  congr 1
  rw [sub_S, List.drop_take, h, List.append_assoc, show i + l.length - i = l.length by (simp; done), List.take_left]
theorem split_is {ls : List (List Nat)} {e : List Nat} (he : e = [10] ∨ e = [13, 10]) (hne : ls ≠ []) (h : ∀ l ∈ ls, 10 ∉ l ∧ 13 ∉ l) :
  Txt.split (S (ls.flatMap (· ++ e))) (S e) = (ls ++ [[]]).map S ∧ (Builtin.Str.partsBetween (S (ls.flatMap (· ++ e))) (Builtin.Str.occurrences (S (ls.flatMap (· ++ e))) (S e) 0 (ls.flatMap (· ++ e)).length ((ls.flatMap (· ++ e)).length + 1)) e.length) = (ls ++ [[]]).map S := by
 generalize hx : ls.flatMap (· ++ e) = x
 have he0 : e ≠ [] := by rcases he with rfl | rfl <;> simp
 have hel : 1 ≤ e.length := List.length_pos_iff.mpr he0
 have hxl : ls.length * 1 ≤ x.length ∧ e.length ≤ x.length := by
  rw [← hx]
  constructor
  ·clear hx hne h
   induction ls with
   | nil => simp
   | cons l r ih => rw [List.flatMap_cons, List.length_append, List.length_append, List.length_cons]; lia
  ·cases ls with
   | nil => exact absurd rfl hne
   | cons l r => rw [List.flatMap_cons, List.length_append, List.length_append]; lia
 have ho : Builtin.Str.occurrences (S x) (S e) 0 x.length (x.length + 1) = cutsL e.length 0 ls := by
  rw [occ_is he0 (Nat.le_refl _), List.take_length, List.drop_zero, ← hx, occ_ends he ls 0 h, hx]
  apply List.take_of_length_le
  rw [cuts_len]; lia
 have hp : Builtin.Str.partsBetween (S x) (cutsL e.length 0 ls) e.length = (ls ++ [[]]).map S := by
  unfold Builtin.Str.partsBetween
  have := parts_is (x := x) (e := e) ls 0 (by rw [List.drop_zero, hx]) (by exact Nat.zero_le _)
  rw [S_len]
  exact this
 rw [ho]
 refine ⟨?_, hp⟩
 unfold Txt.split
 have hk : Builtin.Str.strKind (S e) = 1 := by rcases he with rfl | rfl <;> decide +kernel
 have hk2 : 1 ≤ Builtin.Str.strKind (S x) := by
  unfold Builtin.Str.strKind; split <;> (try split) <;> decide
 rw [if_neg (by rw [S_len, S_len, hk]; simp; lia), S_len, ho, if_neg, S_len]
 ·exact hp
 ·cases ls with
  | nil => exact absurd rfl hne
  | cons l r => simp [cutsL]
/-! the groups of the lines -/
theorem soft_is (l : List Nat) : takesR l softP 0 = decide (l.getLast? = some 61) := by
 have hs : softP = [(runK, []), (freeK, [(false, [61])])] := rfl
 rw [hs]
 have h1 : fitsL ([] : List (Bool × List Nat)) l 0 = true := by simp [fitsL, fitsR]
 have g1 : goL (runK, []) l 0 = 0 := by simp [goL, runK, heldK, freeK]
 simp only [takesR, g1, h1, if_true, List.length_nil, Nat.zero_add]
 cases hl : l.getLast? with
 | none =>
  rw [List.getLast?_eq_none_iff.mp hl]
  decide
 | some c =>
  obtain ⟨ys, rfl⟩ := List.getLast?_eq_some_iff.mp hl
  have g2 : goL (freeK, [(false, [61])]) (ys ++ [c]) 0 = ys.length := by
   unfold goL
   rw [if_neg (by decide), if_pos ⟨rfl, by simp⟩]
   simp
  rw [g2]
  have hf : fitsL [(false, [61])] (ys ++ [c]) ys.length = decide (c = 61) := by
   unfold fitsL
   rw [List.drop_left]
   by_cases hc : c = 61
   ·subst hc; simp [fitsR]
   ·simp [fitsR, hc]
  rw [hf]
  by_cases hc : c = 61 <;> simp [hc]
theorem grp_run : ∀ (i : List (List Nat)) (l : List Nat) (pre : List (List (List Nat))) (g : List (List Nat)), (∀ x ∈ i, x.getLast? = some 61) → l.getLast? ≠ some 61 → (i ++ [l]).foldl grpStep (pre ++ [g], true) = (pre ++ [g ++ i ++ [l]], false)
 | [], l, pre, g, _, hl => by
  simp only [List.nil_append, List.foldl_cons, List.foldl_nil, grpStep, if_true, addLast_snoc, soft_is, decide_eq_false hl, List.append_nil]
 | x :: i, l, pre, g, h, hl => by
  rw [List.cons_append, List.foldl_cons]
  have hx := h x (.head _)
  simp only [grpStep, if_true, addLast_snoc, soft_is, decide_eq_true hx]
  rw [grp_run i l pre (g ++ [x]) (fun y hy => h y (.tail _ hy)) hl]
  simp
theorem grp_all : ∀ (G pre : List (List (List Nat))), (∀ g ∈ G, Brk g) → G.flatten.foldl grpStep (pre, false) = (pre ++ G, false)
 | [], pre, _ => by simp
 | g :: r, pre, h => by
  obtain ⟨i, l, rfl, h1, h2⟩ := h g (.head _)
  have ih := grp_all r (pre ++ [i ++ [l]]) fun x hx => h x (.tail _ hx)
  rw [List.flatten_cons, List.foldl_append]
  have : (i ++ [l]).foldl grpStep (pre, false) = (pre ++ [i ++ [l]], false) := by
   cases i with
   | nil => simp [grpStep, soft_is, h2]
   | cons x i =>
    rw [List.cons_append, List.foldl_cons]
    have hx := h1 x (.head _)
    simp only [grpStep, Bool.false_eq_true, if_false, soft_is, decide_eq_true hx]
    rw [grp_run i l pre [x] (fun y hy => h1 y (.tail _ hy)) h2]
    simp
  rw [this, ih]
  simp
theorem grp_is {G : List (List (List Nat))} (h : ∀ g ∈ G, Brk g) : groupsL G.flatten = G := by
 unfold groupsL
 rw [grp_all G [] h]; rfl
end
section
/-! what a pattern asks, and what its expression takes -/
structure AskOk (a : Ask) : Prop where
 sg : ∀ k, k < 10 → a.L.getD k 0 ∈ sgnL
 dr : a.dress < 3
 kd : a.kind < 6
noncomputable def colP (a : Ask) (k : Nat) : Pt := if k = a.c1 ∨ k = a.c2 then .brk a.dress (a.L.getD k 0) else .any
noncomputable def restP (kind : Nat) : List Pt := [[], [.lit 61, .lit 69, .lit 57, .star], [.lit 61, .lit 51, .lit 68, .star], [.lit 61, .lit 50, .lit 48], [.blank], [.lit 61, .any, .any]].getD kind []
noncomputable def psOf (a : Ask) : List Pt := (List.range 10).map (colP a) ++ .star :: restP a.kind
noncomputable def setB (d c : Nat) : List Nat := (if d = 1 then [94] else []) ++ escC c
noncomputable def colT (a : Ask) (k : Nat) : Tok := if k = a.c1 ∨ k = a.c2 then .set (setB a.dress (a.L.getD k 0)) else .any
noncomputable def restT (kind : Nat) : List Tok := [[.free], [.held, .lit 61, .lit 69, .lit 57, .close, .free], [.held, .lit 61, .lit 51, .lit 68, .close, .free], [.free, .lit 61, .lit 50, .lit 48], [.free, .set [32, 9]], [.free, .lit 61, .any, .any]].getD kind []
noncomputable def tsOf (a : Ask) : List Tok := (List.range 10).map (colT a) ++ restT a.kind
noncomputable def colA (a : Ask) (k : Nat) : Bool × List Nat := if k = a.c1 ∨ k = a.c2 then (a.dress == 1, [a.L.getD k 0]) else (true, [])
noncomputable def kinds (P : Nat → Prop) (h0 : P 0) (h1 : P 1) (h2 : P 2) (h3 : P 3) (h4 : P 4) (h5 : P 5) : ∀ {k : Nat}, k < 6 → P k := fun {k} h => by
 rcases (by lia : k = 0 ∨ k = 1 ∨ k = 2 ∨ k = 3 ∨ k = 4 ∨ k = 5) with rfl | rfl | rfl | rfl | rfl | rfl <;> assumption
theorem set_all : ((List.range 3).all fun d => sgnL.all fun c => decide (setA (setB d c) = (d == 1, [c])) && tokOk (.set (setB d c)) runK) = true := by decide +kernel
theorem set_is {d c : Nat} (hd : d < 3) (hc : c ∈ sgnL) : setA (setB d c) = (d == 1, [c]) ∧ tokOk (.set (setB d c)) runK = true := by
 have := List.all_eq_true.mp (List.all_eq_true.mp set_all d (List.mem_range.mpr hd)) c hc
 simpa only [Bool.and_eq_true, decide_eq_true_eq] using this
theorem ps_text {a : Ask} (ok : AskOk a) : textP (psOf a) = askP a := by
 have hc : ∀ k, ptS (colP a k) = colS a k := fun k => by
  unfold colP colS brS
  split
  ·have := ok.dr
   rcases (by lia : a.dress = 0 ∨ a.dress = 1 ∨ a.dress = 2) with e | e | e <;> rw [e] <;> rfl
  ·rfl
 have hr : (.star :: restP a.kind : List Pt).flatMap ptS = [42] ++ quoS a.kind ++ starS a.kind :=
  kinds (fun k => (.star :: restP k : List Pt).flatMap ptS = [42] ++ quoS k ++ starS k) rfl rfl rfl rfl rfl rfl ok.kd
 unfold textP psOf askP
 rw [List.flatMap_append, hr, List.flatMap_map]
 simp only [List.append_assoc]
 congr 1
 congr 1
 funext k
 exact hc k
theorem ps_ok {a : Ask} (ok : AskOk a) : ∀ p ∈ psOf a, ptOk p = true := by
 intro p hp
 rcases List.mem_append.mp hp with h | h
 ·obtain ⟨k, hk, rfl⟩ := List.mem_map.mp h
  unfold colP
  split
  ·simp only [ptOk, Bool.and_eq_true, decide_eq_true_eq]
   exact ⟨ok.dr, ok.sg k (List.mem_range.mp hk)⟩
  ·rfl
 ·rcases List.mem_cons.mp h with rfl | h
  ·rfl
  ·have := kinds (fun k => (restP k).all ptOk = true) (by decide) (by decide) (by decide) (by decide) (by decide) (by decide) ok.kd
   exact List.all_eq_true.mp this p h
theorem noAdj_cols {a : Ask} {r : List Pt} (h : noAdj false r = true) : ∀ {l : List Nat}, noAdj false (l.map (colP a) ++ r) = true
 | [] => h
 | k :: l => by
  have ih := noAdj_cols (a := a) h (l := l)
  rw [List.map_cons, List.cons_append]
  obtain h2 | ⟨d, c, h2⟩ : colP a k = .any ∨ ∃ d c, colP a k = .brk d c := by
   unfold colP; split
   ·exact .inr ⟨_, _, rfl⟩
   ·exact .inl rfl
  ·rw [h2]; simpa only [noAdj] using ih
  ·rw [h2]; simpa only [noAdj] using ih
theorem ps_adj {a : Ask} (ok : AskOk a) : noAdj false (psOf a) = true :=
 noAdj_cols (kinds (fun k => noAdj false (.star :: restP k) = true) rfl rfl rfl rfl rfl rfl ok.kd)
theorem flat_le {α : Type} {f : α → List Nat} {n : Nat} : ∀ {l : List α}, (∀ x ∈ l, (f x).length ≤ n) → (l.flatMap f).length ≤ n * l.length
 | [], _ => by simp
 | x :: l, h => by
  have h1 := h x (.head _)
  have h2 := flat_le (l := l) fun y hy => h y (.tail _ hy)
  rw [List.flatMap_cons, List.length_append, List.length_cons, Nat.mul_add]; lia
theorem ptS_len {a : Ask} (ok : AskOk a) : ∀ p ∈ psOf a, (ptS p).length ≤ 6 ∧ ((ptP p).getD []).length ≤ 6 := by
 intro p hp
 have hP : ∀ p, ptOk p = true → (ptS p).length ≤ 6 ∧ ((ptP p).getD []).length ≤ 6 := fun p h => by
  cases p with
  | brk d c =>
   simp only [ptOk, Bool.and_eq_true, decide_eq_true_eq] at h
   have h1 := h.1
   have he : (escC c).length ≤ 2 := by unfold escC; split <;> simp
   refine ⟨?_, ?_⟩
   ·rcases (by lia : d = 0 ∨ d = 1 ∨ d = 2) with e | e | e <;> rw [e] <;> simp [ptS, brB]
   ·simp only [ptP, Option.getD_some, List.length_cons, List.length_append, List.length_nil]
    split <;> simp <;> (first | exact o_le (by assumption) (by decide) | lia)
  | _ => simp [ptS, ptP]
 exact hP p (ps_ok ok p hp)
theorem ps_len (a : Ask) (ok : AskOk a) : (psOf a).length ≤ 16 := by
 have := kinds (fun k => (restP k).length ≤ 4) (by decide) (by decide) (by decide) (by decide) (by decide) (by decide) ok.kd
 simp only [psOf, List.length_append, List.length_map, List.length_range, List.length_cons]; lia
theorem ps_size {a : Ask} (ok : AskOk a) : (textP (psOf a)).length ≤ 1000 := by
 have := flat_le (f := ptS) (l := psOf a) fun p hp => (ptS_len ok p hp).1
 have h2 := ps_len a ok
 unfold textP; lia
theorem some_run {A : List Pc} (h : ∀ p ∈ A, p.isSome = true) (R : List Pc) : (A ++ none :: R).takeWhile (·.isSome) = A ∧ (A ++ none :: R).dropWhile (·.isSome) = none :: R := by
 constructor
 ·rw [List.takeWhile_append_of_pos h]; simp
 ·rw [List.dropWhile_append_of_pos h]; simp
theorem cols_some (a : Ask) : ∀ p ∈ ((List.range 10).map (colP a)).map ptP, p.isSome = true := by
 intro p hp
 obtain ⟨q, hq, rfl⟩ := List.mem_map.mp hp
 obtain ⟨k, _, rfl⟩ := List.mem_map.mp hq
 unfold colP; split <;> rfl
theorem ps_map (a : Ask) : (psOf a).map ptP = ((List.range 10).map (colP a)).map ptP ++ none :: (restP a.kind).map ptP := by
 unfold psOf; rw [List.map_append]; rfl
theorem ps_star {a : Ask} (ok : AskOk a) : starOk (((psOf a).map ptP).dropWhile (·.isSome)) = true := by
 rw [ps_map, (some_run (cols_some a) _).2]
 exact kinds (fun k => starOk (none :: (restP k).map ptP) = true) (by simp [restP, starOk]) (by simp [restP, starOk, ptP]) (by simp [restP, starOk, ptP]) (by simp [restP, starOk, ptP]) (by simp [restP, starOk, ptP]) (by simp [restP, starOk, ptP]) ok.kd
theorem ps_join {a : Ask} (ok : AskOk a) : joinP ((psOf a).map ptP) = framed (tsOf a) := by
 unfold joinP framed
 rw [ps_map, (some_run (cols_some a) _).1, (some_run (cols_some a) _).2]
 congr 2
 unfold textT tsOf
 rw [List.flatten_append, List.flatMap_append]
 congr 1
 ·rw [List.map_map, List.map_map, List.flatMap_map, List.flatMap_def]
  congr 1
  apply List.map_congr_left
  intro k _
  simp only [Function.comp]
  unfold colP colT
  split
  ·simp [ptP, tokS, setB]
  ·rfl
 ·exact kinds (fun k => (starP (none :: (restP k).map ptP)).flatten = (restT k).flatMap tokS) (by simp [restP, restT, starP, flatP, ptP, tokS]) (by simp [restP, restT, starP, flatP, ptP, tokS]) (by simp [restP, restT, starP, flatP, ptP, tokS]) (by simp [restP, restT, starP, flatP, ptP, tokS]) (by simp [restP, restT, starP, flatP, ptP, tokS]) (by simp [restP, restT, starP, flatP, ptP, tokS]) ok.kd
theorem soft_join : joinP ([.star, .lit 61].map ptP) = framed softT := by
 simp [joinP, framed, starP, flatP, ptP, softT, textT, tokS]
theorem read_cols {a : Ask} (ok : AskOk a) : ∀ (l : List Nat), (∀ k ∈ l, k < 10) → ∀ (A : List (Bool × List Nat)), readR (l.map (colT a)) ([], (runK, A)) = ([], (runK, A ++ l.map (colA a)))
 | [], _, A => by simp [readR]
 | k :: l, h, A => by
  have ih := read_cols ok l (fun x hx => h x (.tail _ hx)) (A ++ [colA a k])
  have hk : readT (colT a k) ([], (runK, A)) = ([], (runK, A ++ [colA a k])) := by
   unfold colT colA
   split
   ·simp only [readT, addA, (set_is ok.dr (ok.sg k (h k (.head _)))).1]
   ·rfl
  unfold readR at ih ⊢
  rw [List.map_cons, List.foldl_cons, hk, ih]
  simp
noncomputable def tailA (kind : Nat) : List (Bool × List Nat) := [[], [(false, [61]), (false, [69]), (false, [57])], [(false, [61]), (false, [51]), (false, [68])], [(false, [61]), (false, [50]), (false, [48])], [(false, [32, 9])], [(false, [61]), (true, []), (true, [])]].getD kind []
noncomputable def isHeld (kind : Nat) : Bool := kind == 1 || kind == 2
noncomputable def partsOf (A : List (Bool × List Nat)) (kind : Nat) : List Part := (runK, A) :: if isHeld kind then [(heldK, tailA kind), (runK, []), (freeK, [])] else [(freeK, tailA kind)]
theorem read_is {a : Ask} (ok : AskOk a) : readL (tsOf a) = partsOf ((List.range 10).map (colA a)) a.kind := by
 have h := read_cols ok (List.range 10) (fun k hk => List.mem_range.mp hk) []
 unfold readL tsOf readR at *
 rw [List.foldl_append, h, List.nil_append]
 exact kinds (fun k => (let s := (restT k).foldl (fun s t => readT t s) ([], (runK, (List.range 10).map (colA a))); s.1 ++ [s.2]) = partsOf ((List.range 10).map (colA a)) k) rfl rfl rfl rfl rfl rfl ok.kd
theorem toks_cols {a : Ask} (ok : AskOk a) (r : List Tok) : ∀ (l : List Nat), (∀ k ∈ l, k < 10) → ∀ (A : List (Bool × List Nat)), toksOk (l.map (colT a) ++ r) ([], (runK, A)) = toksOk r ([], (runK, A ++ l.map (colA a)))
 | [], _, A => by simp
 | k :: l, h, A => by
  have ih := toks_cols ok r l (fun x hx => h x (.tail _ hx)) (A ++ [colA a k])
  have hk : readT (colT a k) ([], (runK, A)) = ([], (runK, A ++ [colA a k])) ∧ tokOk (colT a k) runK = true := by
   unfold colT colA
   split
   ·have := set_is ok.dr (ok.sg k (h k (.head _)))
    exact ⟨by simp only [readT, addA, this.1], this.2⟩
   ·exact ⟨rfl, rfl⟩
  rw [List.map_cons, List.cons_append, toksOk, hk.1, hk.2, ih]
  simp
theorem toks_is {a : Ask} (ok : AskOk a) : toksOk (tsOf a) ([], (runK, [])) = true := by
 unfold tsOf
 rw [toks_cols ok _ _ (fun k hk => List.mem_range.mp hk) [], List.nil_append]
 generalize (List.range 10).map (colA a) = A
 exact kinds (fun k => toksOk (restT k) ([], (runK, A)) = true) (by kernel_rfl) (by kernel_rfl) (by kernel_rfl) (by kernel_rfl) (by kernel_rfl) (by kernel_rfl) ok.kd
theorem parts_len {a : Ask} (ok : AskOk a) : ∀ p ∈ readL (tsOf a), p.2.length ≤ 1000000 := by
 rw [read_is ok]
 have h3 := kinds (fun k => (tailA k).length ≤ 3) (by decide) (by decide) (by decide) (by decide) (by decide) (by decide) ok.kd
 intro p hp
 unfold partsOf at hp
 rcases List.mem_cons.mp hp with rfl | hp
 ·simp
 ·split at hp
  ·simp only [List.mem_cons, List.not_mem_nil, or_false] at hp
   rcases hp with rfl | rfl | rfl <;> simp <;> exact o_le (by assumption) (by decide)
  ·simp only [List.mem_singleton] at hp
   subst hp; simp; exact o_le (by assumption) (by decide)
theorem toks_size {a : Ask} (ok : AskOk a) : (textT (tsOf a)).length ≤ 1000 := by
 have h1 : (((List.range 10).map (colT a)).flatMap tokS).length ≤ 6 * 10 := by
  have := flat_le (f := tokS) (n := 6) (l := (List.range 10).map (colT a)) fun t ht => by
   obtain ⟨k, _, rfl⟩ := List.mem_map.mp ht
   unfold colT
   split
   ·generalize a.L.getD k 0 = c
    have he : (escC c).length ≤ 2 := by unfold escC; split <;> simp
    simp only [tokS, setB, List.length_cons, List.length_append, List.length_nil]
    split <;> simp <;> (first | exact o_le (by assumption) (by decide) | lia)
   ·simp [tokS]
  simpa using this
 have h2 := kinds (fun k => ((restT k).flatMap tokS).length ≤ 100) (by decide) (by decide) (by decide) (by decide) (by decide) (by decide) ok.kd
 unfold textT tsOf
 rw [List.flatMap_append, List.length_append]; lia
end
section
/-! what is taken is what is meant -/
theorem fm_congr {α β : Type} {f g : α → Option β} : ∀ {l : List α}, (∀ x ∈ l, f x = g x) → l.filterMap f = l.filterMap g
 | [], _ => rfl
 | a :: l, h => by rw [List.filterMap_cons, List.filterMap_cons, h a (.head _), fm_congr fun x hx => h x (.tail _ hx)]
noncomputable def fpL (A : List (Bool × List Nat)) (nm : List Nat) (p : Nat) : Option Nat := if fitsL A nm p then some (p + A.length) else none
theorem fits_cons (a : Bool × List Nat) (A : List (Bool × List Nat)) (nm : List Nat) (p : Nat) : fitsL (a :: A) nm p = match nm[p]? with | some c => !(decide (c ∈ a.2) == a.1) && fitsL A nm (p + 1) | none => false := by
 unfold fitsL
 cases h : nm[p]? with
 | none =>
  have := List.getElem?_eq_none_iff.mp h
  simp only [List.length_cons, Bool.and_eq_false_iff, decide_eq_false_iff_not]
  exact .inl (by lia)
 | some c =>
  have hl := (List.getElem?_eq_some_iff.mp h)
  obtain ⟨hlt, hc⟩ := hl
  have hd : nm.drop p = c :: nm.drop (p + 1) := by rw [← hc]; exact List.drop_eq_getElem_cons hlt
  rw [hd]
  simp only [fitsR]
  rw [show decide (p + (a :: A).length ≤ nm.length) = decide (p + 1 + A.length ≤ nm.length) from decide_eq_decide.mpr (by rw [List.length_cons]; lia)]
  cases h1 : (decide (c ∈ a.2) == a.1) <;> simp
theorem fold_atoms (nm : List Nat) : ∀ (A : List (Bool × List Nat)) (pl : List Nat), (∀ p ∈ pl, p ≤ nm.length) → (A.map some).foldl (fun pl it => meantStep nm it pl) pl = pl.filterMap (fpL A nm)
 | [], pl, h => by
  have : pl.filterMap (fpL [] nm) = pl.map id := by
   rw [← List.filterMap_eq_map]
   apply fm_congr
   intro p hp
   have := h p hp
   simp [fpL, fitsL, fitsR, this]
  rw [this]; simp
 | a :: A, pl, h => by
  rw [List.map_cons, List.foldl_cons]
  have hs : meantStep nm (some a) pl = pl.filterMap (pickF nm a) := rfl
  rw [hs, fold_atoms nm A _ (fun p hp => ?_), List.filterMap_filterMap]
  ·apply fm_congr
   intro p _
   unfold fpL
   rw [fits_cons]
   unfold pickF
   cases hc : nm[p]? with
   | none => simp
   | some c =>
    cases h1 : (decide (c ∈ a.2) == a.1) with
    | true => simp only [h1, if_true, Bool.not_true, Bool.false_and, Bool.false_eq_true, if_false, Option.bind_none]
    | false =>
     simp only [h1, Bool.false_eq_true, if_false, Option.bind_some, Bool.not_false, Bool.true_and, List.length_cons]
     rw [show p + 1 + A.length = p + (A.length + 1) by lia]
  ·obtain ⟨q, hq, e⟩ := List.mem_filterMap.mp hp
   unfold pickF at e
   cases hc : nm[q]? with
   | none => rw [hc] at e; cases e
   | some c =>
    rw [hc] at e
    have := (List.getElem?_eq_some_iff.mp hc).1
    dsimp only at e
    split at e
    ·cases e
    ·cases e; lia
theorem fits_le {T : List (Bool × List Nat)} {nm : List Nat} {p : Nat} (h : fitsL T nm p = true) : p + T.length ≤ nm.length := by
 unfold fitsL at h
 simp only [Bool.and_eq_true, decide_eq_true_eq] at h
 exact h.1
noncomputable def itemsOf (A T : List (Bool × List Nat)) (held : Bool) : List (Option (Bool × List Nat)) := A.map some ++ none :: T.map some ++ (if held then [none] else [])
noncomputable def partsH (A T : List (Bool × List Nat)) (held : Bool) : List Part := (runK, A) :: if held then [(heldK, T), (runK, []), (freeK, [])] else [(freeK, T)]
theorem mem_rg {N n p : Nat} (h : N ≤ n) : p ∈ List.range' N (n + 1 - N) ↔ N ≤ p ∧ p ≤ n := by
 rw [List.mem_range'_1, Nat.add_sub_cancel' (Nat.le_succ_of_le h), Nat.lt_succ_iff]
theorem seek_is (T : List (Bool × List Nat)) (nm : List Nat) : ∀ (n at_ : Nat), nm.length + 1 - at_ = n → (fitsL T nm (seekL T nm at_) = true ↔ ∃ p, at_ ≤ p ∧ fitsL T nm p = true) ∧ at_ ≤ seekL T nm at_ := by
 intro n
 induction n using Nat.strongRecOn with
 | _ n ih =>
 intro at_ hn
 rw [seekL]
 by_cases h : at_ + T.length ≤ nm.length ∧ fitsL T nm at_ = false
 ·rw [if_pos h]
  obtain ⟨i1, i2⟩ := ih (nm.length + 1 - (at_ + 1)) (hn ▸ Nat.sub_lt_sub_left (Nat.lt_succ_of_le (Nat.le_trans (Nat.le_add_right _ _) h.1)) (Nat.lt_succ_self _)) (at_ + 1) rfl
  refine ⟨i1.trans ⟨fun ⟨p, h1, h2⟩ => ⟨p, Nat.le_of_succ_le h1, h2⟩, fun ⟨p, h1, h2⟩ => ⟨p, ?_, h2⟩⟩, Nat.le_of_succ_le i2⟩
  by_cases e : p = at_
  ·subst e; rw [h.2] at h2; cases h2
  ·exact Nat.lt_of_le_of_ne h1 (Ne.symm e)
 ·rw [if_neg h]
  refine ⟨⟨fun h2 => ⟨at_, Nat.le_refl _, h2⟩, fun ⟨p, h1, h2⟩ => ?_⟩, Nat.le_refl _⟩
  by_cases hl : at_ + T.length ≤ nm.length
  ·by_cases hf : fitsL T nm at_ = true
   ·exact hf
   ·exact absurd ⟨hl, by simpa using hf⟩ h
  ·exact absurd (Nat.le_trans (Nat.add_le_add_right h1 _) (fits_le h2)) hl
theorem same_all (A T : List (Bool × List Nat)) (held : Bool) (nm : List Nat) : takesR nm (partsH A T held) 0 = meantL nm (itemsOf A T held) := by
 have g1 : ∀ x, goL (runK, x) nm 0 = 0 := fun x => by simp [goL, runK, heldK, freeK]
 have g2 : ∀ x q, goL (runK, x) nm q = q := fun x q => by simp [goL, runK, heldK, freeK]
 have e0 : ∀ q, q ≤ nm.length → fitsL ([] : List (Bool × List Nat)) nm q = true := fun q hq => by simp [fitsL, fitsR, hq]
 unfold meantL meantR itemsOf partsH
 rw [List.foldl_append, List.foldl_append, List.foldl_cons, fold_atoms nm A [0] (by simp)]
 rw [takesR, g1]
 dsimp only
 rw [Nat.zero_add]
 by_cases hf : fitsL A nm 0 = true
 ·rw [if_pos hf]
  have hle := fits_le hf
  rw [Nat.zero_add] at hle
  have h1 : [0].filterMap (fpL A nm) = [A.length] := by simp [fpL, hf]
  rw [h1]
  have h2 : meantStep nm none [A.length] = List.range' A.length (nm.length + 1 - A.length) := rfl
  rw [h2, fold_atoms nm T _ (fun p hp => ((mem_rg hle).mp hp).2)]
  generalize hN : A.length = N at hle
  have hmem : ∀ x, x ∈ (List.range' N (nm.length + 1 - N)).filterMap (fpL T nm) ↔ ∃ p, N ≤ p ∧ fitsL T nm p = true ∧ x = p + T.length := by
   intro x
   rw [List.mem_filterMap]
   constructor
   ·rintro ⟨p, hp, e⟩
    unfold fpL at e
    split at e
    ·rename_i hh; cases e; exact ⟨p, ((mem_rg hle).mp hp).1, hh, rfl⟩
    ·cases e
   ·rintro ⟨p, h1, h2, rfl⟩
    have := fits_le h2
    refine ⟨p, (mem_rg hle).mpr ⟨h1, Nat.le_trans (Nat.le_add_right _ _) this⟩, ?_⟩
    unfold fpL
    rw [if_pos h2]
  cases held with
  | false =>
   simp only [Bool.false_eq_true, if_false, List.foldl_nil]
   rw [takesR]
   by_cases hl : N + T.length ≤ nm.length
   ·have hg : goL (freeK, T) nm N = nm.length - T.length := by
     unfold goL
     rw [if_neg (show ¬ freeK = heldK by decide), if_pos ⟨rfl, hl⟩]
    rw [hg]
    dsimp only
    rw [Bool.eq_iff_iff]
    rw [decide_eq_true_eq, hmem]
    by_cases ht : fitsL T nm (nm.length - T.length) = true
    ·rw [if_pos ht, takesR, decide_eq_true_eq]
     have hT := Nat.le_trans (Nat.le_add_left _ _) hl
     exact ⟨fun _ => ⟨nm.length - T.length, Nat.le_sub_of_add_le hl, ht, (Nat.sub_add_cancel hT).symm⟩, fun _ => Nat.sub_add_cancel hT⟩
    ·rw [if_neg ht]
     refine ⟨fun h => (by cases h), fun ⟨p, h1, h2, h3⟩ => ?_⟩
     have : p = nm.length - T.length := Nat.eq_sub_of_add_eq h3.symm
     rw [this] at h2
     exact absurd h2 ht
   ·have hg : goL (freeK, T) nm N = N := by
     unfold goL
     rw [if_neg (show ¬ freeK = heldK by decide), if_neg (fun h => hl h.2)]
    rw [hg]
    dsimp only
    have ht : ¬ fitsL T nm N = true := fun h => hl (fits_le h)
    rw [if_neg ht]
    symm
    rw [decide_eq_false_iff_not, hmem]
    rintro ⟨p, h1, h2, h3⟩
    exact hl (Nat.le_trans (Nat.add_le_add_right h1 _) (fits_le h2))
  | true =>
   simp only [if_true, List.foldl_cons, List.foldl_nil]
   obtain ⟨s1, s2⟩ := seek_is T nm _ N rfl
   rw [takesR]
   have hg : goL (heldK, T) nm N = seekL T nm N := by unfold goL; rw [if_pos rfl]
   rw [hg]
   dsimp only
   rw [Bool.eq_iff_iff, decide_eq_true_eq]
   have hm2 : nm.length ∈ meantStep nm none ((List.range' N (nm.length + 1 - N)).filterMap (fpL T nm)) ↔ ∃ p, N ≤ p ∧ fitsL T nm p = true := by
    cases hq : (List.range' N (nm.length + 1 - N)).filterMap (fpL T nm) with
    | nil =>
     refine ⟨fun h => (by simp [meantStep] at h), fun ⟨p, h1, h2⟩ => ?_⟩
     have := (hmem (p + T.length)).mpr ⟨p, h1, h2, rfl⟩
     rw [hq] at this; cases this
    | cons x r =>
     obtain ⟨p, h1, h2, h3⟩ := (hmem x).mp (by rw [hq]; exact .head _)
     have := fits_le h2
     refine ⟨fun _ => ⟨p, h1, h2⟩, fun _ => ?_⟩
     simp only [meantStep]
     exact (mem_rg (h3 ▸ this)).mpr ⟨h3 ▸ this, Nat.le_refl _⟩
   rw [hm2, ← s1]
   by_cases ht : fitsL T nm (seekL T nm N) = true
   ·have hle2 := fits_le ht
    rw [if_pos ht, takesR, g2]
    dsimp only
    rw [if_pos (e0 _ hle2), takesR]
    have hg3 : goL (freeK, []) nm (seekL T nm N + T.length + 0) = nm.length := by
     unfold goL
     rw [if_neg (show ¬ freeK = heldK by decide), if_pos ⟨rfl, by simpa using hle2⟩]
     rfl
    rw [List.length_nil, hg3]
    dsimp only
    rw [if_pos (e0 _ (Nat.le_refl _)), takesR]
    simp [ht]
   ·rw [if_neg ht]
    exact ⟨fun h => (by cases h), fun h => absurd h ht⟩
 ·rw [if_neg hf]
  have h1 : [0].filterMap (fpL A nm) = [] := by simp [fpL, hf]
  rw [h1]
  have h2 : meantStep nm none ([] : List Nat) = [] := rfl
  rw [h2, fold_atoms nm T [] (by simp)]
  cases held <;> simp [meantStep]
theorem same_is {a : Ask} (ok : AskOk a) (nm : List Nat) : takesR nm (readL (tsOf a)) 0 = meantL nm (askI a) := by
 rw [read_is ok]
 have h1 : partsOf ((List.range 10).map (colA a)) a.kind = partsH ((List.range 10).map (colA a)) (tailA a.kind) (isHeld a.kind) := rfl
 have h2 : askI a = itemsOf ((List.range 10).map (colA a)) (tailA a.kind) (isHeld a.kind) := by
  have hc : (List.range 10).map (colI a) = ((List.range 10).map (colA a)).map some := by
   rw [List.map_map]
   apply List.map_congr_left
   intro k _
   simp only [Function.comp]
   unfold colI colA
   split <;> rfl
  unfold askI itemsOf
  rw [hc]
  generalize ((List.range 10).map (colA a)).map some = X
  exact kinds (fun k => X ++ [none] ++ (wishS k).map (fun s => some (false, [s])) ++ restI k = X ++ none :: (tailA k).map some ++ (if isHeld k then [none] else [])) (by simp [wishS, restI, tailA, isHeld]) (by simp [wishS, restI, tailA, isHeld]) (by simp [wishS, restI, tailA, isHeld]) (by simp [wishS, restI, tailA, isHeld]) (by simp [wishS, restI, tailA, isHeld]) (by simp [wishS, restI, tailA, isHeld]) ok.kd
 rw [h1, h2, same_all]
end
section
/-! the rows that are drawn -/
theorem listed_mem {m : Nat} (hm : m < 65536) : (listedL m).length = 10 ∧ ∀ c ∈ listedL m, c ∈ sgnL := by
 constructor
 ·simp [listedL, rightsL]
 ·have hk : ∀ q, q < 16 → kindL.getD q 0 ∈ sgnL := by decide
  have hr : ∀ k, ∀ c ∈ rightsL k m, c ∈ sgnL := by
   intro k c hc
   simp only [rightsL, List.mem_cons, List.not_mem_nil, or_false] at hc
   rcases hc with rfl | rfl | rfl
   ·split <;> decide
   ·split <;> decide
   ·split
    ·split
     ·split <;> decide
     ·split <;> decide
    ·split <;> decide
  intro c hc
  unfold listedL at hc
  rcases List.mem_cons.mp hc with rfl | hc
  ·exact hk _ (by lia)
  ·rcases List.mem_append.mp hc with hc | hc
   ·rcases List.mem_append.mp hc with hc | hc
    ·exact hr _ _ hc
    ·exact hr _ _ hc
   ·exact hr _ _ hc
theorem tail_mem (x : Int) : (tailL x).length ≤ 3 ∧ ∀ c ∈ tailL x, c ∈ poolL := by
 constructor
 ·simp only [tailL, List.length_map, List.length_range]; lia
 ·intro c hc
  obtain ⟨j, _, rfl⟩ := List.mem_map.mp hc
  have hp : ∀ q, q < 12 → poolL.getD q 0 ∈ poolL := by decide
  refine hp _ ?_
  have h1 := Int.emod_nonneg (x / 4 / 12 ^ j) (show (12 : Int) ≠ 0 by decide)
  have h2 := Int.emod_lt_of_pos (x / 4 / 12 ^ j) (show (0 : Int) < 12 by decide)
  lia
theorem mode_lt (d : Nat → Int) (k : Nat) : modeF d k < 65536 := by unfold modeF; lia
structure Row (r : List Nat) : Prop where
 ne : r ≠ []
 len : r.length ≤ 14
 sg : ∀ c ∈ r, Sg c
theorem row_is (d : Nat → Int) (k : Nat) : Row (rowF d k) := by
 obtain ⟨h1, h2⟩ := listed_mem (mode_lt d k)
 obtain ⟨h3, h4⟩ := tail_mem (d k + addL [26, 3567, 258] k)
 refine ⟨by unfold rowF; simp, by unfold rowF; simp only [List.length_append, List.length_cons, List.length_nil]; lia, fun c hc => sg_of ?_⟩
 unfold rowF at hc
 unfold alphL
 rcases List.mem_append.mp hc with hc | hc
 ·rcases List.mem_append.mp hc with hc | hc
  ·exact List.mem_append_left _ (List.mem_append_left _ (h2 c hc))
  ·exact List.mem_append_left _ (List.mem_append_right _ hc)
 ·exact List.mem_append_right _ (h4 c hc)
theorem rows_is (d : Nat → Int) : ∀ r ∈ rowsF d, Row r := by
 intro r hr
 obtain ⟨k, _, rfl⟩ := List.mem_map.mp hr
 exact row_is d k
theorem ask_ok (d : Nat → Int) (x : Int) : AskOk (askOf (rowsF d) x) := by
 refine ⟨fun k hk => ?_, by unfold askOf; simp only; lia, by unfold askOf; simp only; lia⟩
 have hx : (x % 3).toNat < 3 := by lia
 have hr : (rowsF d).getD (x % 3).toNat [] = rowF d (x % 3).toNat := by
  rw [List.getD_eq_getElem?_getD]
  unfold rowsF
  rw [List.getElem?_map, List.getElem?_range hx]; rfl
 obtain ⟨h1, h2⟩ := listed_mem (mode_lt d (x % 3).toNat)
 have hL : (askOf (rowsF d) x).L = listedL (modeF d (x % 3).toNat) := by
  unfold askOf
  simp only
  rw [hr]
  unfold rowF
  rw [List.append_assoc, ← h1, List.take_left]
 rw [hL, List.getD_eq_getElem?_getD, List.getElem?_eq_getElem (by lia)]
 exact h2 _ (List.getElem_mem _)
/-! a row's lines -/
section
variable {r : List Nat} (R : Row r)
include R
theorem Row.last : (r.map wrL).getLast? = some (wrL (r.getLastD 0)) ∧ r.getLastD 0 ∈ r := by
 obtain ⟨x, hx⟩ : ∃ x, r.getLast? = some x := by
  cases h : r.getLast? with
  | none => exact absurd (List.getLast?_eq_none_iff.mp h) R.ne
  | some x => exact ⟨x, rfl⟩
 have e : r.getLastD 0 = x := by rw [List.getLastD_eq_getLast?, hx]; rfl
 rw [e]
 exact ⟨by rw [List.getLast?_map, hx]; rfl, List.mem_of_getLast? hx⟩
theorem Row.wds : ∀ t ∈ r.map wrL, Wd t := by
 intro t ht
 obtain ⟨c, hc, rfl⟩ := List.mem_map.mp ht
 exact (R.sg c hc).wd
theorem Row.lastW : Wd (escT (wrL (r.getLastD 0))) := (Wd_esc (R.sg _ R.last.2).wd).1
theorem Row.encB : encB r = (r.map wrL).flatten := by
 unfold Mine.encB
 rw [List.flatMap_def]
 congr 1
 exact List.map_congr_left fun c hc => (R.sg c hc).body
theorem Row.mems {M : Nat} (hM : 4 ≤ M) : ∀ l ∈ linesL M r, ∀ c ∈ l, c < 256 ∧ Unicode.isLineBreak c = false := by
 intro l hl c hc
 rcases linesR_mem hM R.wds l hl c hc with h | h | rfl
 ·obtain ⟨t, ht, hct⟩ := List.mem_flatten.mp h
  obtain ⟨x, hx, rfl⟩ := List.mem_map.mp ht
  exact (R.sg x hx).ws c hct
 ·exact (R.sg _ R.last.2).es c h
 ·exact ⟨by decide, eq_sign.2.1⟩
theorem Row.enc {M : Nat} (hM : 4 ≤ M) (e : List Nat) : (encR M e (Mine.encB r) 0).flatMap (· ++ e) = (linesL M r).flatMap (· ++ e) :=
 enc_lines hM _ (r.map wrL) 0 _ rfl R.last.1 R.wds (by exact Nat.zero_le _) (by rw [List.drop_zero, R.encB])
theorem Row.size {M : Nat} (hM : 4 ≤ M) : ((linesL M r).map fun l => l.length + 5).sum ≤ 134 := by
 have h1 := linesR_size hM (last := escT (wrL (r.getLastD 0))) R.lastW.len.2 R.wds
 rw [List.length_map] at h1
 have h2 := R.len
 unfold linesL; lia
theorem Row.dec {M : Nat} (hM : 4 ≤ M) (eol : List Nat) : decL eol (linesL M r) = r ++ eol ∧ ∀ l ∈ linesL M r, Txt.rstrip (S l) = S l ∧ decOk l = true := by
 obtain ⟨h1, h2⟩ := linesR_dec hM eol (last := escT (wrL (r.getLastD 0))) rfl (R.sg _ R.last.2).wd R.last.1 R.wds
 constructor
 ·have : (r.map wrL).map dW = r := by
   rw [List.map_map]
   have := List.map_congr_left (f := dW ∘ wrL) (g := id) (l := r) fun c hc => (R.sg c hc).dw
   rw [this]; simp
  rw [this] at h1
  exact h1
 ·intro l hl
  refine ⟨rstrip_is ?_, h2 l hl⟩
  rcases linesR_ends hM R.wds R.lastW l hl with h | ⟨c, hc, h⟩
  ·exact .inl h
  ·refine .inr ⟨c, hc, ?_⟩
   rcases h with rfl | h
   ·exact eq_sign.1
   ·obtain ⟨x, hx, hs⟩ := (R.sg _ R.last.2).en
    rw [hx] at h
    cases h
    exact hs
end
theorem joinL_end (e : List Nat) : ∀ ps : List (List Nat), joinL e (ps ++ [[]]) = ps.flatMap (· ++ e)
 | [] => by simp [joinL]
 | [a] => by simp [joinL]
 | a :: b :: r => by
  have ih := joinL_end e (b :: r)
  simp only [List.cons_append] at ih ⊢
  rw [joinL, ih]
  simp
theorem sum_flat (f : List Nat → Nat) : ∀ G : List (List (List Nat)), (G.flatten.map f).sum = (G.map fun g => (g.map f).sum).sum
 | [] => rfl
 | g :: r => by rw [List.flatten_cons, List.map_append, List.sum_append, sum_flat f r]; rfl
theorem sum_le {α : Type} {f : α → Nat} {n : Nat} : ∀ {l : List α}, (∀ x ∈ l, f x ≤ n) → (l.map f).sum ≤ n * l.length
 | [], _ => by simp
 | x :: l, h => by
  have h1 := h x (.head _)
  have h2 := sum_le (l := l) fun y hy => h y (.tail _ hy)
  rw [List.map_cons, List.sum_cons, List.length_cons, Nat.mul_add]; lia
theorem room_is (d : Nat → Int) : 4 ≤ roomF d ∧ roomF d ≤ 16 := by unfold roomF; lia
theorem end_is (d : Nat → Int) : endF d = [10] ∨ endF d = [13, 10] := by
 unfold endF
 rcases (by lia : (d 4 / 13 % 2).toNat = 0 ∨ (d 4 / 13 % 2).toNat = 1) with h | h <;> rw [h] <;> simp
theorem mark_is (d : Nat → Int) : (markF d).length ≤ 4 := by
 unfold markF
 rcases (by lia : (d 4 / 26 % 3).toNat = 0 ∨ (d 4 / 26 % 3).toNat = 1 ∨ (d 4 / 26 % 3).toNat = 2) with h | h | h <;> rw [h] <;> simp
theorem no_breaks {c : Nat} (h : Unicode.isLineBreak c = false) : c ≠ 10 ∧ c ≠ 13 := by
 constructor <;> rintro rfl
 ·rw [eq_sign.2.2.1] at h; cases h
 ·rw [eq_sign.2.2.2] at h; cases h
theorem run_ok {rows : List (List Nat)} {M : Nat} {e mark : List Nat} {a : Ask} (hr3 : rows.length = 3) (hr : ∀ r ∈ rows, Row r) (hM : 4 ≤ M) (hM2 : M ≤ 16) (he : e = [10] ∨ e = [13, 10]) (hm : mark.length ≤ 4) (ha : AskOk a) :
  RunOk rows (rows.map (linesL M)) M e mark (askI a) (tsOf a) := by
 have hg : ∀ g ∈ rows.map (linesL M), ∃ r ∈ rows, g = linesL M r := fun g hg => by
  obtain ⟨r, h, rfl⟩ := List.mem_map.mp hg; exact ⟨r, h, rfl⟩
 have hl : ∀ l ∈ (rows.map (linesL M)).flatten, ∃ r ∈ rows, l ∈ linesL M r := fun l h => by
  obtain ⟨g, h1, h2⟩ := List.mem_flatten.mp h
  obtain ⟨r, h3, rfl⟩ := hg g h1
  exact ⟨r, h3, h2⟩
 have hne : ∀ g ∈ rows.map (linesL M), g ≠ [] := fun g h => by
  obtain ⟨r, h3, rfl⟩ := hg g h
  exact linesR_ne hM (hr r h3).wds
 have hfl : (rows.map (linesL M)).flatten ≠ [] := by
  cases rows with
  | nil => simp at hr3
  | cons r rs =>
   have := hne (linesL M r) (.head _)
   intro h
   rw [List.map_cons, List.flatten_cons] at h
   exact this (List.append_eq_nil_iff.mp h).1
 have hbr : ∀ l ∈ (rows.map (linesL M)).flatten, ∀ c ∈ l, c < 256 ∧ Unicode.isLineBreak c = false := fun l h c hc => by
  obtain ⟨r, h3, h4⟩ := hl l h
  exact (hr r h3).mems hM l h4 c hc
 have hsp := split_is he hfl fun l h => ⟨fun q => (no_breaks (hbr l h _ q).2).1 rfl, fun q => (no_breaks (hbr l h _ q).2).2 rfl⟩
 have hlen : (rows.map (linesL M)).flatten.length ≤ 402 ∧ ((rows.map (linesL M)).flatten.map fun l => l.length + 5).sum ≤ 402 := by
  have h2 : ((rows.map (linesL M)).flatten.map fun l => l.length + 5).sum ≤ 402 := by
   rw [sum_flat]
   have := sum_le (f := fun g : List (List Nat) => (g.map fun l => l.length + 5).sum) (n := 134) (l := rows.map (linesL M)) fun g h => by
    obtain ⟨r, h3, rfl⟩ := hg g h
    exact (hr r h3).size hM
   rw [List.length_map, hr3] at this
   exact this
  refine ⟨Nat.le_trans ?_ h2, h2⟩
  generalize (rows.map (linesL M)).flatten = X
  induction X with
  | nil => simp
  | cons x X ih => rw [List.map_cons, List.sum_cons, List.length_cons]; lia
 have hpk : ∀ l ∈ pickL (rows.map (linesL M)) (askI a) 3, l ∈ (rows.map (linesL M)).flatten := fun l h => by
  unfold pickL at h
  obtain ⟨k, hk, h⟩ := List.mem_flatMap.mp h
  have hk := List.mem_range.mp hk
  split at h
  ·refine List.mem_flatten.mpr ⟨_, ?_, h⟩
   rw [List.getD_eq_getElem?_getD, List.getElem?_eq_getElem (by rw [List.length_map]; lia)]
   exact List.getElem_mem _
  ·cases h
 exact {
  hrows := hr3
  hrow := fun r h => ⟨(hr r h).ne, by have := (hr r h).len; exact o_le (by assumption) (by decide), fun c hc => ⟨((hr r h).sg c hc).low, ((hr r h).sg c hc).ne⟩⟩
  hG := rfl
  room1 := hM
  room2 := by exact o_le (by assumption) (by decide)
  he := he
  hmark := hm
  hne := hne
  hlow := by
   rw [List.all_eq_true]
   intro g h
   unfold lows
   rw [List.all_eq_true]
   intro l h2
   unfold low
   rw [List.all_eq_true]
   intro c hc
   exact decide_eq_true (hbr l (List.mem_flatten.mpr ⟨g, h, h2⟩) c hc).1
  hlines := by lia
  esz := by
   have := sum_le (f := fun r => (encB r).length + 1) (n := 43) (l := rows) fun r h => by
    rw [(hr r h).encB]
    have h1 := flat3 (hr r h).wds
    have h2 := (hr r h).len
    rw [List.length_map] at h1
    lia
   lia
  eln := lines_is (.inl rfl) fun l h c hc => by
   obtain ⟨r, h3, rfl⟩ := List.mem_map.mp h
   rw [(hr r h3).encB] at hc
   obtain ⟨t, ht, hct⟩ := List.mem_flatten.mp hc
   obtain ⟨x, hx, rfl⟩ := List.mem_map.mp ht
   exact (((hr r h3).sg x hx).ws c hct).2
  enc := by
   unfold encBody piecesL
   rw [joinL_end, List.flatMap_assoc, List.flatten_eq_flatMap, List.flatMap_assoc, List.flatMap_map, List.flatMap_def, List.flatMap_def]
   congr 1
   exact List.map_congr_left fun r h => (hr r h).enc hM e
  split := hsp.1
  split2 := by rw [hsp.2]; simp only [List.length_map, List.length_append, List.length_cons, List.length_nil]; lia
  grp := grp_is fun g h => by
   obtain ⟨r, h3, rfl⟩ := hg g h
   exact linesR_brk hM (hr r h3).lastW (hr r h3).wds
  ptsOk := toks_is ha
  ptsLen := toks_size ha
  ptsPart := parts_len ha
  same := fun g _ => same_is ha (wrOf g)
  decl := fun l h => by
   obtain ⟨r, h3, h4⟩ := hl l h
   exact ((hr r h3).dec hM []).2 l h4
  dln := lines_is he fun l h c hc => (hbr l (hpk l h) c hc).2
  dec := by
   unfold pickL dueL decL
   rw [List.flatMap_assoc, List.flatMap_def, List.flatMap_def]
   congr 1
   refine List.map_congr_left fun k hk => ?_
   have hk := List.mem_range.mp hk
   have e1 : (rows.map (linesL M)).getD k [] = linesL M (rows.getD k []) := by
    rw [List.getD_eq_getElem?_getD, List.getD_eq_getElem?_getD, List.getElem?_map, List.getElem?_eq_getElem (by lia)]; rfl
   have e2 : rows.getD k [] ∈ rows := by
    rw [List.getD_eq_getElem?_getD, List.getElem?_eq_getElem (by lia)]
    exact List.getElem_mem _
   split
   ·rw [e1]; exact ((hr _ e2).dec hM mark).1
   ·rfl }
theorem run_drawn (d : Nat → Int) : RunOk (rowsF d) ((rowsF d).map (linesL (roomF d))) (roomF d) (endF d) (markF d) (askI (askOf (rowsF d) (d 3))) (tsOf (askOf (rowsF d) (d 3))) :=
 run_ok (by simp [rowsF]) (rows_is d) (room_is d).1 (room_is d).2 (end_is d) (mark_is d) (ask_ok d (d 3))
end
section
theorem top_run {Γ : Gl prog w} {n k i : Nat} {a : Addr} {ds : List D} {r : D} (hf : GFn Γ a i) (hok : fOk i = true) (hps : ds.length = (fPs i).length) (hnm : noMutL ds = true) (m' : List (Str × D))
  (hs : ∀ p ∈ m', ((fPs i).zip ds).lookup p.1 = some p.2) (hn : n ≤ 200) (hbody : ∀ C : Cx, C.kn = (fScope i).names → C.A.depth + n ≤ 600 → C.A.units + 10 * n ≤ 5000 → AB Γ C (fBody i) ⟨m', []⟩ fun fl st' => ∃ d, fl = .ret d ∧ fz k st'.mu d = r ∧ noMut r = true)
  {s : Shared} {vs : List Value} {Q E : Value → Shared → Prop} (okh : Γ.ok s.heap) (exP : ∀ a, Γ.Ex a → a = Γ.P ∧ ∃ o vs, s.heap.get? a = some o ∧ o.data = .fields vs ∧ o.cls = .none) (inv : ∃ F, Γ.J F ∧ ∀ p ∈ F, s.heap.get? p.1 = some p.2 ∧ note p.2) (rv : RpL s.heap (fun _ => False) [] ds vs)
  (q : ∀ v s', Rp s'.heap (fun _ => False) [] r v → (∀ a o, s.heap.get? a = some o → ¬ Γ.Ex a → s'.heap.get? a = some o) → (∃ F, Γ.J F ∧ ∀ p ∈ F, s'.heap.get? p.1 = some p.2 ∧ note p.2) → s'.os = s.os → (AllBare s.gens → AllBare s'.gens) → Q v s') :
  wpAny (model prog w) callerA (call (.ref a) vs []) Q E s := by
 obtain ⟨fd, hfd, hb, h3, h4, hcl, hbind⟩ := hf.fd
 unfold fOk at hok
 simp only [Bool.and_eq_true, Bool.not_eq_true', beq_iff_eq, decide_eq_true_eq] at hok
 obtain ⟨⟨⟨⟨⟨⟨⟨⟨⟨k1, k2⟩, k3⟩, k4⟩, k5⟩, k6⟩, k7⟩, k8⟩, hnd⟩, hkind⟩ := hok
 rw [← h3] at k1 k2 k3 hkind hbody
 obtain ⟨of, ho, hd, hcd, hgl, hbl⟩ := Γ.okfn _ a fd okh hfd
 have hl : vs.length = (fPs i).length := by rw [rv.length, hps]
 refine wpAny_call ?_
 refine codeAny_call_function (by decide) ho hd k2 k3 hb hcd ?_
 refine hbind s vs okh hl _ _ _ _ ?_
 rw [hcl]
 have hkind' : ∀ x ∈ (fPs i).zip vs, fd.scope.names.lookup x.1 = some .local ∨ (fd.scope.names.lookup x.1 = some .cell ∧ ((cellsFrom (s.heap.objs.size + 1) fd.scope.names []).lookup x.1).isSome = true) := fun x hx => by
  have hm : x.1 ∈ fPs i := (List.of_mem_zip hx).1
  have := List.all_eq_true.mp hkind x.1 hm
  rcases Bool.or_eq_true_iff.mp this with q | q
  ·exact .inl (by simpa using q)
  ·have q' : fd.scope.names.lookup x.1 = some .cell := by simpa using q
   exact .inr ⟨q', cellsFrom_some _ _ _ (.inl q')⟩
 refine wpAny_newFunctionEnv_cells k1 hkind' fun env henv s' I => ?_
 obtain ⟨h', tk, es'⟩ := I.toInCall.same
 have hE1 : env.scope = fd.scope := by rw [henv]; rfl
 have hE2 : env.globals = mainGlobals := by rw [henv, ← hgl]; rfl
 have hE3 : env.builtins = builtinsNs := by rw [henv, ← hbl]; rfl
 have hE4 : env.cells = cellsFrom (s.heap.objs.size + 1) fd.scope.names [] := by rw [henv]; rfl
 have keep := I.toInCall.keep
 have okh' : Γ.ok s'.heap := Γ.okmono _ _ okh fun a o e _ => keep a o e
 refine ⟨Γ.oklim _ okh', codeAny_func ?_⟩
 let C' := callCx Γ { env := env, A := callerA, X := fun _ => False, Ex := Γ.Ex, h₀ := s.heap, own := [], kn := [], J := Γ.J } s.heap [] env
 have no : ∀ b, C'.X b → False := fun b hb => hb.elim id (by simp)
 have cx : CxOk Γ C' := {
  ok := okh
  exE := rfl
  jE := rfl
  exP := exP
  xin := fun b hb => (no b hb).elim
  xg := fun b hb => (no b hb).elim
  fun_ := by show env.scope.kind = _; rw [hE1]; exact k1
  glo := hE2
  blt := hE3
  nsNew := fr_none I.toInCall.fresh
  cellNew := fun c hc => by
   obtain ⟨x, e⟩ := mem_own.mp hc
   exact fr_none (Nat.le_trans I.toInCall.fresh (Nat.le_of_lt (I.above x c (mem_of_lookup e))))
  cellIn := fun x c _ e => mem_own.mpr ⟨x, e⟩
  cellHas := fun x e => by
   show ∃ c, env.cells.lookup x = some c
   rw [hE4]
   have := cellsFrom_some (x := x) fd.scope.names (s.heap.objs.size + 1) [] (.inl (by rw [← hE1]; exact e))
   exact Option.isSome_iff_exists.mp this
  inj := fun x y c e1 e2 => name_of_addr I.apart (mem_of_lookup e1) (mem_of_lookup e2)
  kns := fun x k e => e
  hand := rfl
  deep := by show callerA.depth + 1 ≤ 600; decide
  unit := by show callerA.units + 3 ≤ 5000; decide }
 have H : Hand s.heap (fun _ => False) [] s'.heap C'.X [] := ⟨fun a o xs n e _ _ => keep a o e, fun a xs _ n1 n2 => ⟨no a, by simp⟩, fun a o e _ => keep a o e⟩
 have R' : Rel Γ C' s'.heap [] ⟨(fPs i).zip ds, []⟩ := {
  c := cx
  base := fun a o e _ => keep a o e
  exA := fun a ha => by obtain ⟨_, o, vs, e, hh⟩ := exP a ha; exact ⟨o, vs, keep a o e, hh⟩
  ns := ⟨_, I.toInCall.ns⟩
  cells := fun c hc => by
   obtain ⟨x, e⟩ := mem_own.mp hc
   obtain ⟨o, ho, hd⟩ := I.cell x c e
   exact ⟨o, _, ho, hd⟩
  vars := fun x d e => by
   obtain ⟨v, e1, r1⟩ := zip_lookup rv e
   have hd := lookup_mem e
   refine ⟨v, ?_, r1.hand H (noMutL_mem hnm d hd.1)⟩
   have kx := List.all_eq_true.mp hkind x hd.2
   rcases Bool.or_eq_true_iff.mp kx with q | q
   ·have q' : env.kindOf x = some .local := by show env.scope.names.lookup x = _; rw [hE1]; simpa using q
    exact .loc _ q' I.toInCall.ns (bindL_is hnd e1 q')
   ·have q' : env.kindOf x = some .cell := by show env.scope.names.lookup x = _; rw [hE1]; simpa using q
    have hs := cellsFrom_some (x := x) fd.scope.names (s.heap.objs.size + 1) [] (.inl (by simpa using q))
    obtain ⟨c, hc⟩ := Option.isSome_iff_exists.mp hs
    rw [← hE4] at hc
    have ic := I.cell x c hc
    rw [bindC_is hnd e1 (by rw [q']; decide)] at ic
    exact .cell c .cell q' (.inl rfl) hc ic
  mus := .nil
  muNew := fun a ha => by cases ha
  nodup := List.nodup_nil
  inv := by obtain ⟨F, hj, hF⟩ := inv; exact ⟨F, hj, fun p hp => ⟨keep _ _ (hF p hp).1, (hF p hp).2⟩⟩ }
 refine hbody C' (by show env.scope.names = _; rw [hE1]) (by show callerA.depth + 1 + n ≤ 600; have : callerA.depth = 301 := rfl; omega) (by show callerA.units + 3 + 10 * n ≤ 5000; have : callerA.units = 4 := rfl; omega) s' [] _ _ { R' with vars := fun x d e => R'.vars x d (hs (x, d) (mem_of_lookup e)) } ?_
 rintro f fl st' as' s'' ⟨d, rfl, efz, nm⟩ R2 r2 x2 m2
 obtain ⟨v, rfl, rv2⟩ := r2
 subst efz
 refine q v s'' ?_ (fun a o e n => R2.base a o e n) R2.inv (m2.os.trans (by rw [es'])) (fun z => m2.gens (by rw [es']; exact z))
 exact fz_noMut (X := C'.X) (as := as') (fun i l e => by
  obtain ⟨a, vs, h1, h2, h3, h4⟩ := MuIs.get R2.mus e
  exact ⟨a, vs, h1, h2, h3, h4⟩) (fun a xs hl n1 n2 => ⟨id, by simp⟩) (fun b hb => ⟨id, by simp⟩) k d v nm rv2
end
section
section
theorem soft_run (P : Params) : Fn (glT prog w P) 7 (.ref (adF 24)) [.str [42, 61]] (.str (framed softT)) := by
 have h := fn_translate (ps := [.star, .lit 61]) (gfsT (prog := prog) (w := w) P) (gsT P) (gtT P) (by decide) (by decide) (by decide) (by decide) (by decide) (by decide +kernel)
 rw [soft_join] at h
 exact h
theorem pat_run (P : Params) {a : Ask} (ok : AskOk a) : Fn (glT prog w P) 7 (.ref (adF 24)) [.str (askP a)] (.str (framed (tsOf a))) := by
 have h := fn_translate (ps := psOf a) (gfsT (prog := prog) (w := w) P) (gsT P) (gtT P) (ps_ok ok) (ps_adj ok) (ps_size ok) (Nat.le_trans (ps_len a ok) (by decide)) (fun p hp => Nat.le_trans (ptS_len ok p hp).2 (by decide)) (ps_star ok)
 rw [ps_text ok, ps_join ok] at h
 exact h
theorem run_run (P : Params) (d : Nat → Int) : Fn (glT prog w P) 15 (.ref (adF 66)) [strsL (rowsF d), .tup [.str (askP (askOf (rowsF d) (d 3))), .lst ((askI (askOf (rowsF d) (d 3))).map itemD)], .int (roomF d : Nat), .str (endF d), .str (markF d)] (.bool true) :=
 fn_run (N := 7) (gfsT P) (gdfT P) (gdaT P) (soft_run P) (pat_run P (ask_ok d (d 3))) (run_drawn d)
end
theorem pre_len {args : List WData} (h : rT.toRowW.claim.pre args = true) : ∃ ns : List Int, args = [.list (ns.map .int)] ∧ ns.length ≤ 63 := by
 have h : (WShape.hasAll [] args [.list .int] && rT.pre.holds [] { args := args }) = true := h
 obtain ⟨h1, h2⟩ := Bool.and_eq_true_iff.mp h
 match args, h1 with
 | [x], h1 =>
  simp only [WShape.hasAll, Bool.and_eq_true] at h1
  obtain ⟨xs, rfl, hi⟩ := hasW_list h1.1
  obtain ⟨ns, rfl⟩ := items_int hi
  have h3 : WTm.holds [] (.and (.not (.lit (.bool (decide ((63 : Int) < ((ns.map WData.int).length : Int)))))) (.lit (.bool true))) { args := [] } = true := h2
  refine ⟨ns, rfl, Nat.le_of_not_lt fun hl => ?_⟩
  rw [decide_eq_true (by rw [List.length_map]; exact Int.ofNat_lt.mpr hl)] at h3
  exact absurd h3 (by decide)
 | [], h1 => simp [WShape.hasAll] at h1
 | x :: y :: r, h1 => simp [WShape.hasAll] at h1
theorem ints_rp {P : Params} {h : Heap} : ∀ (ns : List Int) {vs : List Value}, WellAll P h vs (ns.map .int) → RpL h (fun _ => False) [] (ns.map D.int) vs := by
 intro ns
 induction ns with
 | nil => intro vs x; cases x; exact trivial
 | cons n ns ih =>
  intro vs x
  cases x with
  | cons a b => cases a; exact ⟨⟨_, rfl⟩, ih b⟩
theorem well_one {P : Params} {h : Heap} {vals : List Value} {ns : List Int} (hl : ns.length ≤ 63) (x : WellAll P h vals [.list (ns.map .int)]) : ∃ b, vals = [.ref b] ∧ RpL h (fun _ => False) [] [intD ns] [.ref b] := by
 cases x with
 | cons a c =>
  cases c
  cases a with
  | @list b xs _ hb hxs => exact ⟨b, rfl, ⟨b, xs.toArray, rfl, id, nofun, ⟨0, hb⟩, by rw [List.length_map]; exact Nat.le_trans hl (by decide), ints_rp ns hxs⟩, trivial⟩
theorem callT : WalkO qT looseT (fun _ _ => True) (fun w h => ∀ a o, (H1 w.params).get? a = some o → h.get? a = some o) rT.toRowW defT.1 defT.2 fun f vs => PySem.call f vs := by
 intro w s₀ s₁ mg mb G Y a o pm cd doc dV kV ho hd hcd hD hmg hg args vals as hpre hlay hrd hwl hlo
 have okh : okT w.params s₁.heap := fun a o e _ => Y a o e
 have h108 : s₁.heap.get? 108 = some (tabObj #[]) := Y _ _ (h1_get (o := hdOa29 w.params) (by kernel_rfl) (by decide) (by kernel_rfl))
 have ea : a = adF 67 := by
  have hn : defT.1.name = "law" := by kernel_rfl
  have e1 := G.T.g.eq_nsMap
  have e2 := ((glT rT.prog w w.params).okg _ okh).eq_nsMap
  have e3 : mgT w.params "law" = some (.ref (adF 67)) := by kernel_rfl
  rw [hn, e1, ← e2] at hmg
  have : some (Value.ref a) = some (.ref (adF 67)) := hmg.symm.trans e3
  cases this; rfl
 subst ea
 obtain ⟨ns, rfl, hlen⟩ := pre_len hpre
 obtain ⟨b, rfl, rv⟩ := well_one hlen hwl
 refine top_run (Γ := glT rT.prog w w.params) (n := 15) (k := 0) (i := 67) (r := .bool true) (gfn_pl w.params 67 (by decide)) (by decide +kernel) (by rfl) (by simp only [intD, noMutL, noMut, noMutL_int]; rfl) [("script", intD ns)] (by intro p hp; simp at hp; subst hp; rfl) (by decide)
  (fun C hk h1 h2 => w_law (gfsT w.params) (gdaT w.params) file_listed (by decide) (run_run w.params) hk h1 (by omega)) okh (fun c hc => ⟨hc, _, _, hc ▸ h108, rfl, rfl⟩)
  ⟨_, ⟨#[], rfl, by simp [TriplesOk]⟩, fun p hp => by
   rw [List.mem_singleton] at hp; subst hp; exact ⟨h108, .inl rfl, _, rfl⟩⟩ rv ?_
 rintro v s' hv keep ⟨F, ⟨ps, rfl, ht⟩, hF⟩ hos hgens
 have hv : v = .bool true := hv
 subst hv
 have hP := (hF _ (.head _)).1
 refine ⟨.inl ⟨_, .bool true, [], rfl, fun cls => rfl, .bool true, by kernel_rfl, fun _ => ⟨.nil, fun a ha => by cases ha⟩⟩, ⟨fun c o' e => ?_, fun c o' e => ?_⟩, hos, hgens (.of_eq hg)⟩
 ·by_cases hc : c = 108
  ·subst hc
   rw [h108] at e; cases e
   exact .inr (.inl ⟨⟨112, hdOg112 w.params, _, Y _ _ (h1_get (o := hdOg112 w.params) (by kernel_rfl) (by decide) (by kernel_rfl)), rfl, rfl, rfl⟩, rfl, #[], ps, rfl, by rw [Array.empty_append]; exact hP⟩)
  ·exact .inl (keep c o' e hc)
 ·by_cases hc : c = 108
  ·subst hc; exact ⟨_, hP⟩
  ·exact ⟨o', keep c o' e hc⟩
theorem holds_it : PySem.Challenge.rw_in0172_01.Holds := holds_of callT
end
end Mine
theorem PySem.Challenge.cw_in0172_01_holds : PySem.Challenge.rw_in0172_01.Holds := by
 exact Mine.holds_it
