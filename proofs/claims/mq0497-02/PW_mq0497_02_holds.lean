import PyProof.Rows.All
import Wide.All
import OpenK.AllK
import Wide.FinOn
import PySem.Challenge.RW_mq0497_02
open PySem PySem.W PyProof.Rows
set_option Elab.async false
set_option maxRecDepth 100000
set_option linter.unusedVariables false
set_option linter.unusedSimpArgs false
set_option genSizeOf false
set_option genSizeOfSpec false
namespace Mine
set_option maxHeartbeats 8000000 in
open_top hd for PySem.Challenge.rw_mq0497_02
end Mine
namespace Mine

inductive V where
  | none | bool (b : Bool) | int (i : Int) | str (x : List Nat)
  | tuple (vs : List V) | list (vs : List V)
  | own (k : Nat) | gl (a : Nat) | ty (n : String) | rng (a b c : Int) | items (k : Nat)

inductive OObj where
  | lst (vs : List V) | inst (d : Nat) | attrs (v : Option V) | dct (es : List (List Nat × V))

noncomputable def strV (x : List Nat) : Str := ⟨x.toArray⟩
abbrev Store := List OObj
abbrev Rho := List (String × Option V)
noncomputable def intK {α : Type} (x : V) (f : Int → Option α) : Option α := match x with
  | .int i => f i
  | _ => none
noncomputable def strK {α : Type} (x : V) (f : List Nat → Option α) : Option α := match x with
  | .str i => f i
  | _ => none
noncomputable def listK {α : Type} (x : V) (f : List V → Option α) : Option α := match x with
  | .list i => f i
  | _ => none
noncomputable def ownK {α : Type} (x : V) (f : Nat → Option α) : Option α := match x with
  | .own i => f i
  | _ => none
noncomputable def glK {α : Type} (x : V) (f : Nat → Option α) : Option α := match x with
  | .gl i => f i
  | _ => none
noncomputable def tyK {α : Type} (x : V) (f : String → Option α) : Option α := match x with
  | .ty i => f i
  | _ => none
theorem intK_inv {α : Type} {x : V} {f : Int → Option α} {r : α} (h : intK x f = some r) : ∃ i, x = .int i ∧ f i = some r := by
  cases x <;> first | exact ⟨_, rfl, h⟩ | cases h
theorem strK_inv {α : Type} {x : V} {f : List Nat → Option α} {r : α} (h : strK x f = some r) : ∃ i, x = .str i ∧ f i = some r := by
  cases x <;> first | exact ⟨_, rfl, h⟩ | cases h
theorem listK_inv {α : Type} {x : V} {f : List V → Option α} {r : α} (h : listK x f = some r) : ∃ i, x = .list i ∧ f i = some r := by
  cases x <;> first | exact ⟨_, rfl, h⟩ | cases h
theorem ownK_inv {α : Type} {x : V} {f : Nat → Option α} {r : α} (h : ownK x f = some r) : ∃ i, x = .own i ∧ f i = some r := by
  cases x <;> first | exact ⟨_, rfl, h⟩ | cases h
theorem glK_inv {α : Type} {x : V} {f : Nat → Option α} {r : α} (h : glK x f = some r) : ∃ i, x = .gl i ∧ f i = some r := by
  cases x <;> first | exact ⟨_, rfl, h⟩ | cases h
theorem tyK_inv {α : Type} {x : V} {f : String → Option α} {r : α} (h : tyK x f = some r) : ∃ i, x = .ty i ∧ f i = some r := by
  cases x <;> first | exact ⟨_, rfl, h⟩ | cases h
noncomputable def one1 {α β : Type} (l : List α) (f : α → Option β) : Option β := match l with
  | [x] => f x
  | _ => none
theorem one1_inv {α β : Type} {l : List α} {f : α → Option β} {r : β} (h : one1 l f = some r) : ∃ x, l = [x] ∧ f x = some r := by
  rcases l with _ | ⟨x, _ | ⟨y, l⟩⟩
  · cases h
  · exact ⟨x, rfl, h⟩
  · cases h
noncomputable def two2 {α β : Type} (l : List α) (f : α → α → Option β) : Option β := match l with
  | [x, y] => f x y
  | _ => none
theorem two2_inv {α β : Type} {l : List α} {f : α → α → Option β} {r : β} (h : two2 l f = some r) : ∃ x y, l = [x, y] ∧ f x y = some r := by
  rcases l with _ | ⟨x, _ | ⟨y, _ | ⟨z, l⟩⟩⟩
  · cases h
  · cases h
  · exact ⟨x, y, rfl, h⟩
  · cases h
noncomputable def lstK {α : Type} (σ : Store) (k : Nat) (f : List V → Option α) : Option α := match σ[k]? with
  | some (.lst vs) => f vs
  | _ => none
theorem lstK_inv {α : Type} {σ : Store} {k : Nat} {f : List V → Option α} {r : α} (h : lstK σ k f = some r) : ∃ vs, σ[k]? = some (.lst vs) ∧ f vs = some r := by
  unfold lstK at h
  rcases q : σ[k]? with _ | o
  · rw [q] at h; cases h
  · rw [q] at h; cases o <;> first | exact ⟨_, rfl, h⟩ | cases h
theorem lstK_at {α : Type} {σ : Store} {k : Nat} {f : List V → Option α} {vs : List V} (h : σ[k]? = some (.lst vs)) : lstK σ k f = f vs := by unfold lstK; rw [h]
noncomputable def instK {α : Type} (σ : Store) (k : Nat) (f : Nat → Option α) : Option α := match σ[k]? with
  | some (.inst d) => f d
  | _ => none
theorem instK_inv {α : Type} {σ : Store} {k : Nat} {f : Nat → Option α} {r : α} (h : instK σ k f = some r) : ∃ d, σ[k]? = some (.inst d) ∧ f d = some r := by
  unfold instK at h
  rcases q : σ[k]? with _ | o
  · rw [q] at h; cases h
  · rw [q] at h; cases o <;> first | exact ⟨_, rfl, h⟩ | cases h
theorem instK_at {α : Type} {σ : Store} {k d : Nat} {f : Nat → Option α} (h : σ[k]? = some (.inst d)) : instK σ k f = f d := by unfold instK; rw [h]
noncomputable def attrsK {α : Type} (σ : Store) (k : Nat) (f : Option V → Option α) : Option α := match σ[k]? with
  | some (.attrs d) => f d
  | _ => none
theorem attrsK_inv {α : Type} {σ : Store} {k : Nat} {f : Option V → Option α} {r : α} (h : attrsK σ k f = some r) : ∃ d, σ[k]? = some (.attrs d) ∧ f d = some r := by
  unfold attrsK at h
  rcases q : σ[k]? with _ | o
  · rw [q] at h; cases h
  · rw [q] at h; cases o <;> first | exact ⟨_, rfl, h⟩ | cases h
theorem attrsK_at {α : Type} {σ : Store} {k : Nat} {d : Option V} {f : Option V → Option α} (h : σ[k]? = some (.attrs d)) : attrsK σ k f = f d := by unfold attrsK; rw [h]

noncomputable def vBool (e : V) (f : Bool → Bool) : Bool := if h : e.ctorIdx = 1 then Mine.V.bool.elim (motive_1 := fun _ => Bool) e h f else false
theorem vBool_inv {e : V} {f : Bool → Bool} (h : vBool e f = true) : ∃ b, e = .bool b ∧ f b = true := by
  unfold vBool at h
  by_cases q : e.ctorIdx = 1
  · rw [dif_pos q] at h
    revert h
    exact Mine.V.bool.elim (motive_1 := fun e => ∀ q : e.ctorIdx = 1, Mine.V.bool.elim (motive_1 := fun _ => Bool) e q f = true → ∃ b, e = .bool b ∧ f b = true) e q (fun b _ h => ⟨b, rfl, h⟩) q
  · rw [dif_neg q] at h; cases h
noncomputable def vInt (e : V) (f : Int → Bool) : Bool := if h : e.ctorIdx = 2 then Mine.V.int.elim (motive_1 := fun _ => Bool) e h f else false
theorem vInt_inv {e : V} {f : Int → Bool} (h : vInt e f = true) : ∃ i, e = .int i ∧ f i = true := by
  unfold vInt at h
  by_cases q : e.ctorIdx = 2
  · rw [dif_pos q] at h
    revert h
    exact Mine.V.int.elim (motive_1 := fun e => ∀ q : e.ctorIdx = 2, Mine.V.int.elim (motive_1 := fun _ => Bool) e q f = true → ∃ i, e = .int i ∧ f i = true) e q (fun i _ h => ⟨i, rfl, h⟩) q
  · rw [dif_neg q] at h; cases h
noncomputable def vStr (e : V) (f : List Nat → Bool) : Bool := if h : e.ctorIdx = 3 then Mine.V.str.elim (motive_1 := fun _ => Bool) e h f else false
theorem vStr_inv {e : V} {f : List Nat → Bool} (h : vStr e f = true) : ∃ x, e = .str x ∧ f x = true := by
  unfold vStr at h
  by_cases q : e.ctorIdx = 3
  · rw [dif_pos q] at h
    revert h
    exact Mine.V.str.elim (motive_1 := fun e => ∀ q : e.ctorIdx = 3, Mine.V.str.elim (motive_1 := fun _ => Bool) e q f = true → ∃ x, e = .str x ∧ f x = true) e q (fun x _ h => ⟨x, rfl, h⟩) q
  · rw [dif_neg q] at h; cases h
noncomputable def vTup (e : V) (f : List V → Bool) : Bool := if h : e.ctorIdx = 4 then Mine.V.tuple.elim (motive_1 := fun _ => Bool) e h f else false
theorem vTup_inv {e : V} {f : List V → Bool} (h : vTup e f = true) : ∃ vs, e = .tuple vs ∧ f vs = true := by
  unfold vTup at h
  by_cases q : e.ctorIdx = 4
  · rw [dif_pos q] at h
    revert h
    exact Mine.V.tuple.elim (motive_1 := fun e => ∀ q : e.ctorIdx = 4, Mine.V.tuple.elim (motive_1 := fun _ => Bool) e q f = true → ∃ vs, e = .tuple vs ∧ f vs = true) e q (fun vs _ h => ⟨vs, rfl, h⟩) q
  · rw [dif_neg q] at h; cases h
noncomputable def vLst (e : V) (f : List V → Bool) : Bool := if h : e.ctorIdx = 5 then Mine.V.list.elim (motive_1 := fun _ => Bool) e h f else false
theorem vLst_inv {e : V} {f : List V → Bool} (h : vLst e f = true) : ∃ vs, e = .list vs ∧ f vs = true := by
  unfold vLst at h
  by_cases q : e.ctorIdx = 5
  · rw [dif_pos q] at h
    revert h
    exact Mine.V.list.elim (motive_1 := fun e => ∀ q : e.ctorIdx = 5, Mine.V.list.elim (motive_1 := fun _ => Bool) e q f = true → ∃ vs, e = .list vs ∧ f vs = true) e q (fun vs _ h => ⟨vs, rfl, h⟩) q
  · rw [dif_neg q] at h; cases h
noncomputable def vOwn (e : V) (f : Nat → Bool) : Bool := if h : e.ctorIdx = 6 then Mine.V.own.elim (motive_1 := fun _ => Bool) e h f else false
theorem vOwn_inv {e : V} {f : Nat → Bool} (h : vOwn e f = true) : ∃ k, e = .own k ∧ f k = true := by
  unfold vOwn at h
  by_cases q : e.ctorIdx = 6
  · rw [dif_pos q] at h
    revert h
    exact Mine.V.own.elim (motive_1 := fun e => ∀ q : e.ctorIdx = 6, Mine.V.own.elim (motive_1 := fun _ => Bool) e q f = true → ∃ k, e = .own k ∧ f k = true) e q (fun k _ h => ⟨k, rfl, h⟩) q
  · rw [dif_neg q] at h; cases h
noncomputable def vGl (e : V) (f : Nat → Bool) : Bool := if h : e.ctorIdx = 7 then Mine.V.gl.elim (motive_1 := fun _ => Bool) e h f else false
theorem vGl_inv {e : V} {f : Nat → Bool} (h : vGl e f = true) : ∃ a, e = .gl a ∧ f a = true := by
  unfold vGl at h
  by_cases q : e.ctorIdx = 7
  · rw [dif_pos q] at h
    revert h
    exact Mine.V.gl.elim (motive_1 := fun e => ∀ q : e.ctorIdx = 7, Mine.V.gl.elim (motive_1 := fun _ => Bool) e q f = true → ∃ a, e = .gl a ∧ f a = true) e q (fun a _ h => ⟨a, rfl, h⟩) q
  · rw [dif_neg q] at h; cases h
noncomputable def vTy (e : V) (f : String → Bool) : Bool := if h : e.ctorIdx = 8 then Mine.V.ty.elim (motive_1 := fun _ => Bool) e h f else false
theorem vTy_inv {e : V} {f : String → Bool} (h : vTy e f = true) : ∃ n, e = .ty n ∧ f n = true := by
  unfold vTy at h
  by_cases q : e.ctorIdx = 8
  · rw [dif_pos q] at h
    revert h
    exact Mine.V.ty.elim (motive_1 := fun e => ∀ q : e.ctorIdx = 8, Mine.V.ty.elim (motive_1 := fun _ => Bool) e q f = true → ∃ n, e = .ty n ∧ f n = true) e q (fun n _ h => ⟨n, rfl, h⟩) q
  · rw [dif_neg q] at h; cases h
noncomputable def vRng (e : V) (f : Int → Int → Int → Bool) : Bool := if h : e.ctorIdx = 9 then Mine.V.rng.elim (motive_1 := fun _ => Bool) e h f else false
theorem vRng_inv {e : V} {f : Int → Int → Int → Bool} (h : vRng e f = true) : ∃ a b c, e = .rng a b c ∧ f a b c = true := by
  unfold vRng at h
  by_cases q : e.ctorIdx = 9
  · rw [dif_pos q] at h
    revert h
    exact Mine.V.rng.elim (motive_1 := fun e => ∀ q : e.ctorIdx = 9, Mine.V.rng.elim (motive_1 := fun _ => Bool) e q f = true → ∃ a b c, e = .rng a b c ∧ f a b c = true) e q (fun a b c _ h => ⟨a, b, c, rfl, h⟩) q
  · rw [dif_neg q] at h; cases h
noncomputable def vIts (e : V) (f : Nat → Bool) : Bool := if h : e.ctorIdx = 10 then Mine.V.items.elim (motive_1 := fun _ => Bool) e h f else false
theorem vIts_inv {e : V} {f : Nat → Bool} (h : vIts e f = true) : ∃ k, e = .items k ∧ f k = true := by
  unfold vIts at h
  by_cases q : e.ctorIdx = 10
  · rw [dif_pos q] at h
    revert h
    exact Mine.V.items.elim (motive_1 := fun e => ∀ q : e.ctorIdx = 10, Mine.V.items.elim (motive_1 := fun _ => Bool) e q f = true → ∃ k, e = .items k ∧ f k = true) e q (fun k _ h => ⟨k, rfl, h⟩) q
  · rw [dif_neg q] at h; cases h
theorem vNone_inv {e : V} (h : decide (e.ctorIdx = 0) = true) : e = .none := Mine.V.none.elim (motive_1 := fun c => c = .none) e (of_decide_eq_true h) rfl
mutual
noncomputable def V.eqb : V → V → Bool
  | .none, e => decide (e.ctorIdx = 0)
  | .bool a, e => vBool e fun b => a == b
  | .int a, e => vInt e fun b => a == b
  | .str a, e => vStr e fun b => a == b
  | .tuple a, e => vTup e fun b => V.eqbs a b
  | .list a, e => vLst e fun b => V.eqbs a b
  | .own a, e => vOwn e fun b => a == b
  | .gl a, e => vGl e fun b => a == b
  | .ty a, e => vTy e fun b => a == b
  | .rng a b c, e => vRng e fun x y z => a == x && b == y && c == z
  | .items a, e => vIts e fun b => a == b
noncomputable def V.eqbs : List V → List V → Bool
  | [], l => l.isEmpty
  | a :: r, l => match l with
    | [] => false
    | b :: q => V.eqb a b && V.eqbs r q
end
theorem eqb_int (a b : Int) : V.eqb (.int a) (.int b) = (a == b) := rfl
theorem eqb_str (a b : List Nat) : V.eqb (.str a) (.str b) = (a == b) := rfl
theorem eqb_tuple (a b : List V) : V.eqb (.tuple a) (.tuple b) = V.eqbs a b := rfl
theorem eqb_list (a b : List V) : V.eqb (.list a) (.list b) = V.eqbs a b := rfl
theorem eqbs_nil : V.eqbs [] [] = true := rfl
theorem eqbs_nil_cons (a : V) (r : List V) : V.eqbs [] (a :: r) = false := rfl
theorem eqbs_cons_nil (a : V) (r : List V) : V.eqbs (a :: r) [] = false := rfl
theorem eqbs_cons (a b : V) (r q : List V) : V.eqbs (a :: r) (b :: q) = (V.eqb a b && V.eqbs r q) := rfl
mutual
theorem V.eqb_eq : ∀ {a b : V}, V.eqb a b = true → a = b
  | .none, b, h => (vNone_inv h).symm
  | .bool a, b, h => by obtain ⟨c, e, g⟩ := vBool_inv (f := fun b => a == b) h; rw [e, beq_iff_eq.mp g]
  | .int a, b, h => by obtain ⟨c, e, g⟩ := vInt_inv (f := fun b => a == b) h; rw [e, beq_iff_eq.mp g]
  | .str a, b, h => by obtain ⟨c, e, g⟩ := vStr_inv (f := fun b => a == b) h; rw [e, beq_iff_eq.mp g]
  | .tuple a, b, h => by obtain ⟨c, e, g⟩ := vTup_inv (f := fun b => V.eqbs a b) h; rw [e, V.eqbs_eq g]
  | .list a, b, h => by obtain ⟨c, e, g⟩ := vLst_inv (f := fun b => V.eqbs a b) h; rw [e, V.eqbs_eq g]
  | .own a, b, h => by obtain ⟨c, e, g⟩ := vOwn_inv (f := fun b => a == b) h; rw [e, beq_iff_eq.mp g]
  | .gl a, b, h => by obtain ⟨c, e, g⟩ := vGl_inv (f := fun b => a == b) h; rw [e, beq_iff_eq.mp g]
  | .ty a, b, h => by obtain ⟨c, e, g⟩ := vTy_inv (f := fun b => a == b) h; rw [e, beq_iff_eq.mp g]
  | .rng x y z, b, h => by
    obtain ⟨c, d, f, e, g⟩ := vRng_inv (f := fun b c d => x == b && y == c && z == d) h
    rw [Bool.and_eq_true, Bool.and_eq_true] at g
    rw [e, beq_iff_eq.mp g.1.1, beq_iff_eq.mp g.1.2, beq_iff_eq.mp g.2]
  | .items a, b, h => by obtain ⟨c, e, g⟩ := vIts_inv (f := fun b => a == b) h; rw [e, beq_iff_eq.mp g]
theorem V.eqbs_eq : ∀ {a b : List V}, V.eqbs a b = true → a = b
  | [], b, h => (List.isEmpty_iff.mp h).symm
  | x :: r, b, h => by
    cases b with
    | nil => cases h
    | cons y q =>
      have h : (V.eqb x y && V.eqbs r q) = true := h
      rw [Bool.and_eq_true] at h
      rw [V.eqb_eq h.1, V.eqbs_eq h.2]
end
mutual
theorem V.eqb_refl : ∀ (a : V), V.eqb a a = true
  | .none => rfl
  | .bool a => beq_self_eq_true a
  | .int a => beq_self_eq_true a
  | .str a => beq_self_eq_true a
  | .tuple l => V.eqbs_refl l
  | .list l => V.eqbs_refl l
  | .own a => beq_self_eq_true a
  | .gl a => beq_self_eq_true a
  | .ty a => beq_self_eq_true a
  | .rng a b c => by
    show (a == a && b == b && c == c) = true
    rw [beq_self_eq_true, beq_self_eq_true, beq_self_eq_true]; rfl
  | .items a => beq_self_eq_true a
theorem V.eqbs_refl : ∀ (a : List V), V.eqbs a a = true
  | [] => rfl
  | x :: r => by
    show (V.eqb x x && V.eqbs r r) = true
    rw [V.eqb_refl x, V.eqbs_refl r]; rfl
end
theorem V.eqb_iff {a b : V} : V.eqb a b = true ↔ a = b := ⟨V.eqb_eq, fun h => h ▸ V.eqb_refl a⟩
theorem V.eqbs_iff {a b : List V} : V.eqbs a b = true ↔ a = b := ⟨V.eqbs_eq, fun h => h ▸ V.eqbs_refl a⟩

inductive MT where
  | one (x : String) | tup (xs : List String)

set_option genInjectivity false
mutual
inductive ME where
  | none | bool (b : Bool) | int (i : Int) | str (x : List Nat)
  | var (x : String) | glob (x : String) (a : Nat) | tyn (x : String) | dbg
  | tuple (es : MEs) | list (own : Bool) (es : MEs)
  | bin (op : Operator) (a b : ME)
  | neg (a : ME) | not (a : ME)
  | and (es : MEs) | or (es : MEs)
  | ife (c a b : ME)
  | cmp (op : CmpOp) (a b : ME)
  | idx (a i : ME)
  | slice (own : Bool) (a : ME) (lo hi st : MO)
  | call (f : String) (es : MEs)
  | meth (o : ME) (m : String) (es : MEs) (ks : MKs)
  | new (es : MEs)
  | bi (f : String) (es : MEs)
  | sm (o : ME) (m : String) (es : MEs)
  | attr (o : ME)
  | comp (own : Bool) (elt : ME) (gs : MGs)
inductive MO where
  | no | yes (e : ME)
inductive MEs where
  | nil | cons (e : ME) (r : MEs)
inductive MKs where
  | nil | cons (k : String) (e : ME) (r : MKs)
inductive MGs where
  | nil | cons (t : MT) (it : ME) (ifs : MEs) (r : MGs)
  | zip (xs : List String) (es ifs : MEs)
end

mutual
inductive MS where
  | assign (t : MT) (e : ME)
  | setitem (o i e : ME)
  | setall (o e : ME)
  | setattr (o e : ME)
  | del (o i : ME)
  | expr (e : ME)
  | aug (x : String) (op : Operator) (e : ME)
  | ite (c : ME) (a b : MSs)
  | for (t : MT) (it : ME) (body : MSs)
  | ret (e : ME)
  | raise
inductive MSs where
  | nil | cons (s : MS) (r : MSs)
end

set_option genInjectivity true
inductive Fl where
  | next | ret (v : V)

abbrev Orc := String → List V → List (String × V) → Store → Option (V × Store)

noncomputable def look (ρ : Rho) (x : String) : Option V := (ρ.lookup x).bind id
noncomputable def setv : Rho → String → V → Option Rho
  | [], _, _ => none
  | (y, w) :: r, x, v => if x = y then some ((y, some v) :: r) else (setv r x v).map ((y, w) :: ·)

noncomputable def setTup : Rho → List String → List V → Option Rho
  | ρ, [], [] => some ρ
  | ρ, x :: xs, v :: vs => (setv ρ x v).bind fun ρ => setTup ρ xs vs
  | _, _, _ => none
noncomputable def setT (ρ : Rho) : MT → V → Option Rho
  | .one x, v => setv ρ x v
  | .tup xs, .tuple vs => setTup ρ xs vs
  | .tup _, _ => none
noncomputable def MT.names : MT → List String
  | .one x => [x]
  | .tup xs => xs
noncomputable def MGs.names : MGs → List String
  | .nil => [".0"]
  | .cons t _ _ r => t.names ++ r.names
  | .zip xs _ _ => xs ++ [".0"]

noncomputable def ownLst (σ : Store) (k : Nat) : Option (List V) := match σ[k]? with
  | some (.lst vs) => some vs
  | _ => none
noncomputable def seqOf (σ : Store) : V → Option (List V)
  | .list vs => some vs
  | .tuple vs => some vs
  | .own k => ownLst σ k
  | _ => none
noncomputable def iterOf (σ : Store) : V → Option (List V)
  | .list vs => some vs
  | .tuple vs => some vs
  | .str x => if x.all (· < 128) ∧ x.length ≤ 1000 then some (x.map fun c => V.str [c]) else none
  | .own k => ownLst σ k
  | .rng a b c => if (c = 1 ∨ c = -1) ∧ -1000 ≤ a ∧ a ≤ 1000 ∧ -1000 ≤ b ∧ b ≤ 1000 then some ((List.range (Builtin.Range.rangeSize a b c).toNat).map fun (i : Nat) => V.int (a + (i : Int) * c)) else none
  | .items k => match σ[k]? with
    | some (.dct []) => some []
    | _ => none
  | _ => none
noncomputable def iterC (σ : Store) (x : V) : Option (List V) := match x with
  | .items _ => none
  | x => iterOf σ x
noncomputable def seqAt {α : Type} (vs : List α) (i : Int) : Option α := if -1000000 ≤ i ∧ i ≤ 1000000 then (seqIndex? i vs.length).bind (vs[·]?) else none
noncomputable def pickL {α : Type} (xs : List α) (lo hi st : Option Int) : List α :=
  (sliceRange (sliceBounds lo hi st xs.length).1 (sliceBounds lo hi st xs.length).2.1 (sliceBounds lo hi st xs.length).2.2).filterMap (xs[·]?)

mutual
noncomputable def V.plain : V → Bool
  | .none => true
  | .int _ => true
  | .str x => x.all (· < 0x110000)
  | .tuple vs => V.plains vs
  | .list vs => V.plains vs
  | _ => false
noncomputable def V.plains : List V → Bool
  | [] => true
  | v :: r => v.plain && V.plains r
end
mutual
noncomputable def V.deep : V → Nat
  | .tuple vs => V.deeps vs + 1
  | .list vs => V.deeps vs + 1
  | _ => 0
noncomputable def V.deeps : List V → Nat
  | [] => 0
  | v :: r => max v.deep (V.deeps r)
end
noncomputable def eqV (a b : V) : Option Bool := match a, b with
  | .bool x, .bool y => some (x == y)
  | a, b => if a.plain && b.plain && decide (a.deep ≤ 8) && decide (b.deep ≤ 8) then some (V.eqb a b) else none
noncomputable def thawed (σ : Store) (v : V) : V := match v with
  | .own k => match ownLst σ k with
    | some vs => .list vs
    | none => .own k
  | v => v
noncomputable def truthV (σ : Store) : V → Option Bool
  | .none => some false
  | .bool b => some b
  | .int i => some (i != 0)
  | .str x => if x.length ≤ 1000000 then some !x.isEmpty else none
  | v => (seqOf σ v).bind fun vs => if vs.length ≤ 1000 then some !vs.isEmpty else none
noncomputable def binV (σ : Store) (op : Operator) (a b : V) : Option V := match op with
  | .Add => (intK a fun x => intK b fun y => some (V.int (x + y))).or (listK (thawed σ a) fun x => listK (thawed σ b) fun y => if x.length + y.length ≤ 1000 then some (.list (x ++ y)) else none)
  | .Sub => intK a fun x => intK b fun y => some (.int (x - y))
  | .FloorDiv => intK a fun x => intK b fun y => if y = 0 ∨ y.natAbs ≥ 1073741824 then none else some (.int (Int.fdiv x y))
  | .Mod => intK a fun x => intK b fun y => if y = 0 then none else some (.int (Int.fmod x y))
  | _ => none
noncomputable def V.isNone (a : V) : Bool := decide (a.ctorIdx = 0)
noncomputable def inV (x : V) (vs : List V) : Option Bool := if x.plain && V.plains vs && decide (x.deep ≤ 8) && decide (V.deeps vs ≤ 8) then some (vs.any fun y => V.eqb y x) else none
noncomputable def cmpV (σ : Store) (op : CmpOp) (a b : V) : Option V := match op with
  | .Eq => (eqV (thawed σ a) (thawed σ b)).map .bool
  | .NotEq => (eqV (thawed σ a) (thawed σ b)).map fun x => .bool !x
  | .Lt => intK a fun x => intK b fun y => some (.bool (x < y))
  | .In => listK b fun vs => (inV a vs).map .bool
  | .NotIn => listK b fun vs => (inV a vs).map fun x => .bool !x
  | .Is => if b.isNone then some (.bool a.isNone) else tyK a fun x => tyK b fun y => some (.bool (x == y))
  | .IsNot => if b.isNone then some (.bool !a.isNone) else tyK a fun x => tyK b fun y => some (.bool (x != y))
  | _ => none
noncomputable def idxV (σ : Store) (a i : V) : Option V := intK i fun k => (strK a fun x => (seqAt x k).map fun c => V.str [c]).or ((seqOf σ a).bind fun vs => seqAt vs k)
noncomputable def partV (o : Option V) : Option (Option Int) := match o with
  | none => some none
  | some v => intK v fun i => some (some i)
noncomputable def newL (own : Bool) (vs : List V) (σ : Store) : Option (V × Store) :=
  if vs.length ≤ 1000 then (if own then some (.own σ.length, σ ++ [.lst vs]) else some (.list vs, σ)) else none
noncomputable def lstOf (σ : Store) : V → Option (List V)
  | .list vs => some vs
  | .own k => ownLst σ k
  | _ => none
noncomputable def sliceV (own : Bool) (σ : Store) (a : V) (lo hi st : Option Int) : Option (V × Store) :=
  if st = some 0 then none else (lstOf σ a).bind fun vs => if vs.length ≤ 1000 then newL own (pickL vs lo hi st) σ else none
noncomputable def lowerN (c : Nat) : Nat := if 65 ≤ c ∧ c ≤ 90 then c + 32 else c
noncomputable def lowerT (x : List Nat) : Option (List Nat) := if x.all (· < 128) ∧ x.length ≤ 1000000 then some (x.map lowerN) else none
noncomputable def joinT (sep : List Nat) : List (List Nat) → List Nat
  | [] => []
  | [x] => x
  | x :: r => x ++ sep ++ joinT sep r
noncomputable def strsOf : List V → Option (List (List Nat))
  | [] => some []
  | .str x :: r => (strsOf r).map (x :: ·)
  | _ => none
noncomputable def intsOf : List V → Option (List Int)
  | [] => some []
  | .int x :: r => (intsOf r).map (x :: ·)
  | _ => none
noncomputable def findT (x : List Nat) (y : List Nat) : Nat → Option Nat
  | 0 => none
  | n + 1 => if y.isPrefixOf x then some 0 else match x with
    | [] => none
    | _ :: r => (findT r y n).map (· + 1)
noncomputable def rangeS (σ : Store) (ds : List V) : Option (V × Store) :=
  (one1 ds fun v => intK v fun b => if 0 ≤ b ∧ b ≤ 1000 then some (V.rng 0 b 1, σ) else none).or (
  (two2 ds fun u v => intK u fun a => intK v fun b => if -1000 ≤ a ∧ a ≤ 1000 ∧ -1000 ≤ b ∧ b ≤ 1000 then some (V.rng a b 1, σ) else none).or
  (match ds with
    | t :: ds => two2 ds fun u v => intK t fun a => intK u fun b => intK v fun c => if -1000 ≤ a ∧ a ≤ 1000 ∧ -1000 ≤ b ∧ b ≤ 1000 ∧ c = -1 then some (V.rng a b c, σ) else none
    | [] => none))
noncomputable def biV (f : String) (σ : Store) (ds : List V) : Option (V × Store) :=
  if f = "len" then one1 ds fun v => (lstOf σ v).bind fun vs => if vs.length ≤ 1000 then some (.int vs.length, σ) else none
  else if f = "range" then rangeS σ ds
  else if f = "type" then one1 ds fun v => (strK v fun _ => some (V.ty "str", σ)).or ((lstOf σ v).map fun _ => (V.ty "list", σ))
-- [two
  else if f = "min" then two2 ds fun u v => intK u fun a => intK v fun b => some (.int (if b < a then b else a), σ)
-- two]
  else none
noncomputable def smId (nd vd : Nat) (m : String) (σ : Store) : V → Option String
  | .str _ => if m = "lower" then some "str.lower" else if m = "join" then some "str.join" else if m = "index" then some "str.index" else none
  | .gl a => if m = "search" ∧ (a = nd ∨ a = vd) then some "re.Pattern.search" else none
  | .own k => match σ[k]? with
    | some (.lst _) => if m = "append" then some "list.append" else if m = "extend" then some "list.extend" else if m = "index" then some "list.index" else none
    | some (.dct _) => if m = "items" then some "dict.items" else none
    | _ => none
  | _ => none
noncomputable def isInst (σ : Store) (k : Nat) : Bool := (instK σ k fun d => attrsK σ d fun _ => some ()).isSome
noncomputable def lowS (σ : Store) (v : V) (ds : List V) : Option (V × Store) := strK v fun x => if ds.isEmpty then (lowerT x).map fun y => (.str y, σ) else none
noncomputable def joinS (σ : Store) (v : V) (ds : List V) : Option (V × Store) := strK v fun x => one1 ds fun v => (lstOf σ v).bind fun vs => (strsOf vs).bind fun ss => if (ss.map (·.length)).sum + ss.length * x.length ≤ 16777216 then some (.str (joinT x ss), σ) else none
noncomputable def searchS (nd vd : Nat) (σ : Store) (v : V) (ds : List V) : Option (V × Store) := glK v fun a => one1 ds fun v => strK v fun x =>
    if x.length ≤ 1000000 ∧ ((a = nd ∧ x.all (fun c => decide (32 ≤ c) && c != 127) = true) ∨ (a = vd ∧ x.all (fun c => (decide (32 ≤ c) || c == 9) && c != 127) = true)) then some (.none, σ) else none
noncomputable def appendS (σ : Store) (v : V) (ds : List V) : Option (V × Store) := ownK v fun k => one1 ds fun v => lstK σ k fun vs => if vs.length ≤ 1000 then some (.none, σ.set k (.lst (vs ++ [v]))) else none
noncomputable def extendS (σ : Store) (v : V) (ds : List V) : Option (V × Store) := ownK v fun k => one1 ds fun v => ownK v fun j => lstK σ k fun vs => lstK σ j fun ws => if k ≠ j ∧ vs.length + ws.length ≤ 1000 then some (.none, σ.set k (.lst (vs ++ ws))) else none
noncomputable def intAt (z : Int) : List Int → Option Nat
  | [] => none
  | x :: r => if x = z then some 0 else (intAt z r).map (· + 1)
noncomputable def indexS (σ : Store) (v : V) (ds : List V) : Option (V × Store) := one1 ds fun u =>
  (strK v fun x => strK u fun y => (Builtin.Str.occurrences (strV x) (strV y) 0 (strV x).length 1).head?.map fun i => (V.int (i : Nat), σ)).or
  (ownK v fun k => intK u fun z => lstK σ k fun vs => (intsOf vs).bind fun is => (intAt z is).bind fun i => if is.length ≤ 1000 then some (V.int (i : Nat), σ) else none)
noncomputable def itemsS (σ : Store) (v : V) (ds : List V) : Option (V × Store) := ownK v fun k => match σ[k]? with
  | some (.dct _) => if ds.isEmpty then some (.items k, σ) else none
  | _ => none
noncomputable def smV (nd vd : Nat) (m : String) (σ : Store) (x : V) (vs : List V) : Option (V × Store) :=
  if m = "lower" then lowS σ x vs else if m = "join" then joinS σ x vs else if m = "search" then searchS nd vd σ x vs
  else if m = "append" then appendS σ x vs else if m = "items" then itemsS σ x vs else if m = "extend" then extendS σ x vs else if m = "index" then indexS σ x vs else none

noncomputable def loopM (step : V → Rho → Store → Option (Fl × Rho × Store)) (ok : Store → Bool) : List V → Rho → Store → Option (Fl × Rho × Store)
  | [], ρ, σ => if ok σ then some (.next, ρ, σ) else none
  | v :: r, ρ, σ => if ok σ then (step v ρ σ).bind fun (f, ρ, σ) => match f with
    | .next => loopM step ok r ρ σ
    | .ret w => some (.ret w, ρ, σ)
    else none
noncomputable def still (v : V) (vs : List V) (σ : Store) : Bool := match v with
  | .own k => match ownLst σ k with
    | some ws => V.eqbs vs ws
    | none => false
  | .items k => match σ[k]? with
    | some (.dct []) => vs.isEmpty
    | _ => false
  | _ => true
theorem still_iter {σ₀ σ : Store} {x : V} {vs : List V} (h0 : iterOf σ₀ x = some vs) (h : still x vs σ = true) : iterOf σ x = some vs := by
  cases x <;> first | exact h0 | skip
  · rename_i k
    unfold still at h
    dsimp only at h
    split at h
    · rename_i ws q
      show ownLst σ k = _
      rw [q, V.eqbs_eq h]
    · cases h
  · rename_i k
    unfold still at h
    dsimp only at h
    split at h
    · rename_i q
      cases vs with
      | nil => unfold iterOf; dsimp only; rw [q]
      | cons _ _ => cases h
    · cases h
noncomputable def compM (step : V → Rho → List V → Store → Option (Rho × List V × Store)) (ok : Store → Bool) : List V → Rho → List V → Store → Option (Rho × List V × Store)
  | [], ρ, acc, σ => if ok σ then some (ρ, acc, σ) else none
  | v :: r, ρ, acc, σ => if ok σ then (step v ρ acc σ).bind fun (ρ, acc, σ) => compM step ok r ρ acc σ else none

noncomputable def zipV (xy : List V) : Option (List V) := two2 xy fun x y => listK x fun us => listK y fun ws => some (List.zipWith (fun a b => V.tuple [a, b]) us ws)
structure Cfg where
  nd : Nat
  vd : Nat

mutual
noncomputable def evalM (K : Cfg) (O : Orc) (ρ : Rho) (σ : Store) : ME → Option (V × Store)
  | .none => some (.none, σ)
  | .bool b => some (.bool b, σ)
  | .int i => some (.int i, σ)
  | .str x => some (.str x, σ)
  | .var x => (look ρ x).map fun v => (v, σ)
  | .glob _ a => some (.gl a, σ)
  | .tyn x => some (.ty x, σ)
  | .dbg => some (.bool true, σ)
  | .tuple es => (evalsM K O ρ σ es).bind fun (vs, σ) => if vs.length ≤ 1000 then some (.tuple vs, σ) else none
  | .list own es => (evalsM K O ρ σ es).bind fun (vs, σ) => newL own vs σ
  | .bin op a b => (evalM K O ρ σ a).bind fun (x, σ) => (evalM K O ρ σ b).bind fun (y, σ) => (binV σ op x y).map fun v => (v, σ)
  | .neg a => (evalM K O ρ σ a).bind fun (x, σ) => intK x fun i => some (.int (-i), σ)
  | .not a => (evalM K O ρ σ a).bind fun (x, σ) => (truthV σ x).map fun b => (.bool !b, σ)
  | .and es => boolM K O ρ σ true es
  | .or es => boolM K O ρ σ false es
  | .ife c a b => (testM K O ρ σ c).bind fun (t, σ) => if t then evalM K O ρ σ a else evalM K O ρ σ b
  | .cmp op a b => (evalM K O ρ σ a).bind fun (x, σ) => (evalM K O ρ σ b).bind fun (y, σ) => (cmpV σ op x y).map fun v => (v, σ)
  | .idx a i => (evalM K O ρ σ a).bind fun (x, σ) => (evalM K O ρ σ i).bind fun (y, σ) => (idxV σ x y).map fun v => (v, σ)
  | .slice own a lo hi st => (evalM K O ρ σ a).bind fun (x, σ) => (optM K O ρ σ lo).bind fun (l, σ) => (optM K O ρ σ hi).bind fun (h, σ) => (optM K O ρ σ st).bind fun (t, σ) =>
      (partV l).bind fun l => (partV h).bind fun h => (partV t).bind fun t => sliceV own σ x l h t
  | .call f es => (evalsM K O ρ σ es).bind fun (vs, σ) => O f vs [] σ
  | .meth o m es ks => (evalM K O ρ σ o).bind fun (x, σ) => ownK x fun k =>
      if isInst σ k then (evalsM K O ρ σ es).bind fun (vs, σ) => (evalKM K O ρ σ ks).bind fun (kv, σ) => O ("Headers." ++ m) (.own k :: vs) kv σ else none
  | .new es => (evalsM K O ρ σ es).bind fun (vs, σ) =>
      (O "Headers.__init__" (.own (σ.length + 1) :: vs) [] (σ ++ [.attrs none, .inst σ.length])).bind fun (r, τ) => if r.isNone then some (.own (σ.length + 1), τ) else none
  | .bi f es => (evalsM K O ρ σ es).bind fun (vs, σ) => biV f σ vs
  | .sm o m es => (evalM K O ρ σ o).bind fun (x, σ) => (smId K.nd K.vd m σ x).bind fun _ => (evalsM K O ρ σ es).bind fun (vs, σ) => smV K.nd K.vd m σ x vs
  | .attr o => (evalM K O ρ σ o).bind fun (x, σ) => ownK x fun k => instK σ k fun d => attrsK σ d fun v => v.map fun v => (v, σ)
  | .comp own elt gs => (genM K O (fun ρ σ => evalM K O ρ σ elt) (gs.names.map (fun x => (x, Option.none)) ++ ρ) ρ [] σ gs).bind fun (_, acc, σ) => newL own acc σ
noncomputable def genM (K : Cfg) (O : Orc) (el : Rho → Store → Option (V × Store)) (ρ ρ₀ : Rho) (acc : List V) (σ : Store) : MGs → Option (Rho × List V × Store)
  | .nil => (el ρ σ).bind fun (v, σ) => if acc.length ≤ 1000 then some (ρ, acc ++ [v], σ) else none
  | .cons t it ifs r => (evalM K O ρ₀ σ it).bind fun (x, σ) => (iterC σ x).bind fun vs =>
      compM (fun v ρ acc σ => (setT ρ t v).bind fun ρ => (ifsM K O ρ σ ifs).bind fun (b, σ) => if b then genM K O el ρ ρ acc σ r else some (ρ, acc, σ)) (still x vs) vs ρ acc σ
  | .zip xs es ifs => (evalsM K O ρ₀ σ es).bind fun (xy, σ) => (zipV xy).bind fun vs =>
      compM (fun v ρ acc σ => (setT ρ (.tup xs) v).bind fun ρ => (ifsM K O ρ σ ifs).bind fun (b, σ) => if b then (el ρ σ).bind fun (v, σ) => if acc.length ≤ 1000 then some (ρ, acc ++ [v], σ) else none else some (ρ, acc, σ)) (fun _ => true) vs ρ acc σ
noncomputable def ifsM (K : Cfg) (O : Orc) (ρ : Rho) (σ : Store) : MEs → Option (Bool × Store)
  | .nil => some (true, σ)
  | .cons e r => (testM K O ρ σ e).bind fun (b, σ) => if b then ifsM K O ρ σ r else some (false, σ)
noncomputable def evalsM (K : Cfg) (O : Orc) (ρ : Rho) (σ : Store) : MEs → Option (List V × Store)
  | .nil => some ([], σ)
  | .cons e r => (evalM K O ρ σ e).bind fun (v, σ) => (evalsM K O ρ σ r).bind fun (vs, σ) => some (v :: vs, σ)
noncomputable def evalKM (K : Cfg) (O : Orc) (ρ : Rho) (σ : Store) : MKs → Option (List (String × V) × Store)
  | .nil => some ([], σ)
  | .cons k e r => (evalM K O ρ σ e).bind fun (v, σ) => (evalKM K O ρ σ r).bind fun (vs, σ) => some ((k, v) :: vs, σ)
noncomputable def optM (K : Cfg) (O : Orc) (ρ : Rho) (σ : Store) : MO → Option (Option V × Store)
  | .no => some (none, σ)
  | .yes e => (evalM K O ρ σ e).bind fun (v, σ) => some (some v, σ)
noncomputable def boolM (K : Cfg) (O : Orc) (ρ : Rho) (σ : Store) (isAnd : Bool) : MEs → Option (V × Store)
  | .nil => none
  | .cons e .nil => evalM K O ρ σ e
  | .cons e r => (evalM K O ρ σ e).bind fun (v, σ) => (truthV σ v).bind fun t => if t = isAnd then boolM K O ρ σ isAnd r else some (v, σ)
noncomputable def testM (K : Cfg) (O : Orc) (ρ : Rho) (σ : Store) : ME → Option (Bool × Store)
  | .not a => (testM K O ρ σ a).bind fun (b, σ) => some (!b, σ)
  | .and es => allM K O ρ σ true es
  | .or es => allM K O ρ σ false es
  | .ife c a b => (testM K O ρ σ c).bind fun (t, σ) => if t then testM K O ρ σ a else testM K O ρ σ b
  | .none => some (false, σ)
  | .bool b => some (b, σ)
  | .dbg => some (true, σ)
  | .var x => (look ρ x).bind fun v => (truthV σ v).map fun b => (b, σ)
  | .cmp op a b => (evalM K O ρ σ a).bind fun (x, σ) => (evalM K O ρ σ b).bind fun (y, σ) => (cmpV σ op x y).bind fun v => (truthV σ v).map fun b => (b, σ)
  | .sm o m es => (evalM K O ρ σ o).bind fun (x, σ) => (smId K.nd K.vd m σ x).bind fun _ => (evalsM K O ρ σ es).bind fun (vs, σ) => (smV K.nd K.vd m σ x vs).bind fun (v, σ) => (truthV σ v).map fun b => (b, σ)
  | _ => none
noncomputable def allM (K : Cfg) (O : Orc) (ρ : Rho) (σ : Store) (isAnd : Bool) : MEs → Option (Bool × Store)
  | .nil => some (isAnd, σ)
  | .cons e r => (testM K O ρ σ e).bind fun (b, σ) => if b = isAnd then allM K O ρ σ isAnd r else some (b, σ)
end

mutual
noncomputable def execM (K : Cfg) (O : Orc) (ρ : Rho) (σ : Store) : MS → Option (Fl × Rho × Store)
  | .assign t e => (evalM K O ρ σ e).bind fun (v, σ) => (setT ρ t v).bind fun ρ => some (.next, ρ, σ)
  | .setitem o i e => (evalM K O ρ σ e).bind fun (v, σ) => (evalM K O ρ σ o).bind fun (x, σ) => (evalM K O ρ σ i).bind fun (y, σ) => ownK x fun k =>
      if isInst σ k then (O "Headers.__setitem__" [.own k, y, v] [] σ).bind fun (_, σ) => some (.next, ρ, σ) else none
  | .setall o e => (evalM K O ρ σ e).bind fun (v, σ) => (evalM K O ρ σ o).bind fun (x, σ) => ownK x fun k => listK v fun ws => lstK σ k fun vs =>
      if vs.length + ws.length ≤ 4000 then some (.next, ρ, σ.set k (.lst ws)) else none
  | .setattr o e => (evalM K O ρ σ e).bind fun (v, σ) => (evalM K O ρ σ o).bind fun (x, σ) => ownK x fun k => instK σ k fun d => attrsK σ d fun a =>
      if a.isNone then some (.next, ρ, σ.set d (.attrs (some v))) else none
  | .del o i => (evalM K O ρ σ o).bind fun (x, σ) => (evalM K O ρ σ i).bind fun (y, σ) => ownK x fun k =>
      if isInst σ k then (O "Headers.__delitem__" [.own k, y] [] σ).bind fun (_, σ) => some (.next, ρ, σ) else none
  | .expr e => (evalM K O ρ σ e).bind fun (_, σ) => some (.next, ρ, σ)
  | .aug _ _ _ => none
  | .ite c a b => (testM K O ρ σ c).bind fun (t, σ) => if t then execsM K O ρ σ a else execsM K O ρ σ b
  | .for t it body => (evalM K O ρ σ it).bind fun (x, σ) => (iterOf σ x).bind fun vs =>
      loopM (fun v ρ σ => (setT ρ t v).bind fun ρ => execsM K O ρ σ body) (still x vs) vs ρ σ
  | .ret e => (evalM K O ρ σ e).bind fun (v, σ) => some (.ret v, ρ, σ)
  | .raise => none
noncomputable def execsM (K : Cfg) (O : Orc) (ρ : Rho) (σ : Store) : MSs → Option (Fl × Rho × Store)
  | .nil => some (.next, ρ, σ)
  | .cons s r => (execM K O ρ σ s).bind fun (f, ρ, σ) => match f with
    | .next => execsM K O ρ σ r
    | .ret v => some (.ret v, ρ, σ)
end

structure Fn where
  pos : List String
  dfl : List V := []
  kwo : List String := []
  kwarg : Option String := none
  rest : List String
  body : MSs

noncomputable def Fn.binds (f : Fn) (args : List V) (kws : List (String × V)) (σ : Store) : Option (Rho × Store) :=
  if f.kwo ≠ kws.map (·.1) then none
  else if args.length = f.pos.length then
    let b := (f.pos.zip (args.map some)) ++ kws.map (fun p => (p.1, some p.2))
    match f.kwarg with
    | none => some (b ++ f.rest.map (fun x => (x, none)), σ)
    | some x => some (b ++ [(x, some (.own σ.length))] ++ f.rest.map (fun x => (x, none)), σ ++ [.dct []])
  else none

mutual
noncomputable def V.under (n : Nat) : V → Bool
  | .tuple vs => V.unders n vs
  | .list vs => V.unders n vs
  | .own k => decide (k < n)
  | .items k => decide (k < n)
  | _ => true
noncomputable def V.unders (n : Nat) : List V → Bool
  | [] => true
  | v :: r => v.under n && V.unders n r
end
noncomputable def OObj.under (n : Nat) : OObj → Bool
  | .lst vs => V.unders n vs
  | .inst d => decide (d < n)
  | .attrs none => true
  | .attrs (some v) => v.under n
  | .dct es => es.all fun p => p.2.under n
noncomputable def fin (n : Nat) (v : V) (σ : Store) : V × Store :=
  if (σ.take n).all (OObj.under n) then
    match v with
    | .own k => if k < n then (v, σ.take n) else match ownLst σ k with
      | some vs => if V.unders n vs then (.list vs, σ.take n) else (v, σ)
      | none => (v, σ)
    | v => if v.under n then (v, σ.take n) else (v, σ)
  else (v, σ)
noncomputable def callM (K : Cfg) (T : List (String × Fn)) : Nat → Orc
  | 0 => fun _ _ _ _ => none
  | n + 1 => fun f args kws σ => (T.lookup f).bind fun fn =>
      let args := if args.length < fn.pos.length then args ++ fn.dfl.drop (fn.dfl.length - (fn.pos.length - args.length)) else args
      (fn.binds args kws σ).bind fun (ρ, τ) => (execsM K (callM K T n) ρ τ fn.body).bind fun (fl, _, τ) => match fl with
        | .next => some (fin σ.length .none τ)
        | .ret v => some (fin σ.length v τ)

end Mine

namespace Mine
noncomputable def fn_H_init (K : Cfg) : Fn where
  pos := ["self", "headers"]
  dfl := [.none]
  rest := ["k", "v"]
  body := (.cons (.assign (.one "headers") (.ife (.cmp .IsNot (.var "headers") .none) (.var "headers") (.list false .nil))) (.cons (.ite (.cmp .IsNot (.bi "type" (.cons (.var "headers") .nil)) (.tyn "list")) (.cons .raise .nil) .nil) (.cons (.setattr (.var "self") (.var "headers")) (.cons (.ite (.bool true) (.cons (.for (.tup ["k", "v"]) (.var "headers") (.cons (.expr (.meth (.var "self") "_convert_string_type" (.cons (.var "k") .nil) (.cons "name" (.bool true) .nil))) (.cons (.expr (.meth (.var "self") "_convert_string_type" (.cons (.var "v") .nil) (.cons "name" (.bool false) .nil))) .nil))) .nil) .nil) .nil))))

noncomputable def fn_Hconvert_string_type (K : Cfg) : Fn where
  pos := ["self", "value"]
  kwo := ["name"]
  rest := ["regex"]
  body := (.cons (.ite (.cmp .Is (.bi "type" (.cons (.var "value") .nil)) (.tyn "str")) (.cons (.assign (.one "regex") (.ife (.var "name") (.glob "_name_disallowed_re" K.nd) (.glob "_value_disallowed_re" K.vd))) (.cons (.ite (.sm (.var "regex") "search" (.cons (.var "value") .nil)) (.cons .raise .nil) .nil) (.cons (.ret (.var "value")) .nil))) .nil) (.cons .raise .nil))

noncomputable def fn_H_setitem (K : Cfg) : Fn where
  pos := ["self", "name", "val"]
  rest := []
  body := (.cons (.del (.var "self") (.var "name")) (.cons (.expr (.sm (.attr (.var "self")) "append" (.cons (.tuple (.cons (.meth (.var "self") "_convert_string_type" (.cons (.var "name") .nil) (.cons "name" (.bool true) .nil)) (.cons (.meth (.var "self") "_convert_string_type" (.cons (.var "val") .nil) (.cons "name" (.bool false) .nil)) .nil))) .nil))) .nil))

noncomputable def fn_H_delitem (K : Cfg) : Fn where
  pos := ["self", "name"]
  rest := []
  body := (.cons (.assign (.one "name") (.meth (.var "self") "_convert_string_type" (.cons (.sm (.var "name") "lower" .nil) .nil) (.cons "name" (.bool true) .nil))) (.cons (.setall (.attr (.var "self")) (.comp false (.var "kv") (.cons (.one "kv") (.attr (.var "self")) (.cons (.cmp .NotEq (.sm (.idx (.var "kv") (.int 0)) "lower" .nil) (.var "name")) .nil) .nil))) .nil))

noncomputable def fn_H_get (K : Cfg) : Fn where
  pos := ["self", "name", "default"]
  dfl := [.none]
  rest := ["k", "v"]
  body := (.cons (.assign (.one "name") (.meth (.var "self") "_convert_string_type" (.cons (.sm (.var "name") "lower" .nil) .nil) (.cons "name" (.bool true) .nil))) (.cons (.for (.tup ["k", "v"]) (.attr (.var "self")) (.cons (.ite (.cmp .Eq (.sm (.var "k") "lower" .nil) (.var "name")) (.cons (.ret (.var "v")) .nil) .nil) .nil)) (.cons (.ret (.var "default")) .nil)))

noncomputable def fn_H_items (K : Cfg) : Fn where
  pos := ["self"]
  rest := []
  body := (.cons (.ret (.slice false (.attr (.var "self")) .no .no .no)) .nil)

noncomputable def fn_H_setdefault (K : Cfg) : Fn where
  pos := ["self", "name", "value"]
  rest := ["result"]
  body := (.cons (.assign (.one "result") (.meth (.var "self") "get" (.cons (.var "name") .nil) .nil)) (.cons (.ite (.cmp .Is (.var "result") .none) (.cons (.expr (.sm (.attr (.var "self")) "append" (.cons (.tuple (.cons (.meth (.var "self") "_convert_string_type" (.cons (.var "name") .nil) (.cons "name" (.bool true) .nil)) (.cons (.meth (.var "self") "_convert_string_type" (.cons (.var "value") .nil) (.cons "name" (.bool false) .nil)) .nil))) .nil))) (.cons (.ret (.var "value")) .nil)) (.cons (.ret (.var "result")) .nil)) .nil))

noncomputable def fn_H_add_header (K : Cfg) : Fn where
  pos := ["self", "_name", "_value"]
  kwarg := some "_params"
  rest := ["parts", "k", "v"]
  body := (.cons (.assign (.one "parts") (.list true .nil)) (.cons (.ite (.cmp .IsNot (.var "_value") .none) (.cons (.assign (.one "_value") (.meth (.var "self") "_convert_string_type" (.cons (.var "_value") .nil) (.cons "name" (.bool false) .nil))) (.cons (.expr (.sm (.var "parts") "append" (.cons (.var "_value") .nil))) .nil)) .nil) (.cons (.for (.tup ["k", "v"]) (.sm (.var "_params") "items" .nil) (.cons .raise (.cons .raise .nil))) (.cons (.expr (.sm (.attr (.var "self")) "append" (.cons (.tuple (.cons (.meth (.var "self") "_convert_string_type" (.cons (.var "_name") .nil) (.cons "name" (.bool true) .nil)) (.cons (.sm (.str [59, 32]) "join" (.cons (.var "parts") .nil)) .nil))) .nil))) .nil))))

end Mine

namespace Mine
noncomputable def fn_law_pair (K : Cfg) : Fn where
  pos := ["number"]
  rest := ["rest"]
  body := (.cons (.assign (.one "rest") (.bin .Mod (.var "number") (.int 18))) (.cons (.ret (.tuple (.cons (.idx (.str [97, 65, 98, 66, 99, 67]) (.bin .Mod (.var "rest") (.int 6))) (.cons (.idx (.list false (.cons (.str []) (.cons (.str [49]) (.cons (.str [50]) .nil)))) (.bin .FloorDiv (.var "rest") (.int 6))) .nil)))) .nil))

noncomputable def fn_law_letters (K : Cfg) : Fn where
  pos := ["pairs"]
  rest := []
  body := (.cons (.ret (.comp false (.bin .FloorDiv (.sm (.str [97, 65, 98, 66, 99, 67]) "index" (.cons (.var "word") .nil)) (.int 2)) (.cons (.tup ["word", "value"]) (.var "pairs") .nil .nil))) .nil)

noncomputable def fn_law_stand (K : Cfg) : Fn where
  pos := ["pairs", "goal"]
  rest := ["there", "due", "kept", "k", "under"]
  body := (.cons (.assign (.one "there") (.call "_law_letters" (.cons (.var "pairs") .nil))) (.cons (.assign (.one "due") (.call "_law_letters" (.cons (.var "goal") .nil))) (.cons (.assign (.one "kept") (.int 0)) (.cons (.for (.one "k") (.bi "range" (.cons (.int 1) (.cons (.bin .Add (.bi "len" (.cons (.var "goal") .nil)) (.int 1)) .nil))) (.cons (.assign (.one "under") (.slice false (.var "due") .no (.yes (.var "k")) .no)) (.cons (.ite (.cmp .Eq (.comp false (.var "pair") (.zip ["pair", "letter"] (.cons (.var "pairs") (.cons (.var "there") .nil)) (.cons (.cmp .In (.var "letter") (.var "under")) .nil))) (.slice false (.var "goal") .no (.yes (.var "k")) .no)) (.cons (.assign (.one "kept") (.var "k")) .nil) .nil) .nil))) (.cons (.ret (.tuple (.cons (.var "kept") (.cons (.comp false (.var "letter") (.cons (.one "letter") (.bi "range" (.cons (.int 3) .nil)) (.cons (.and (.cons (.cmp .In (.var "letter") (.var "there")) (.cons (.cmp .NotIn (.var "letter") (.var "due")) .nil))) .nil) .nil)) .nil)))) .nil)))))

noncomputable def fn_law_far (K : Cfg) : Fn where
  pos := ["pairs", "goal"]
  rest := ["kept", "extra"]
  body := (.cons (.assign (.tup ["kept", "extra"]) (.call "_law_stand" (.cons (.var "pairs") (.cons (.var "goal") .nil)))) (.cons (.ret (.bin .Add (.bin .Sub (.bi "len" (.cons (.var "goal") .nil)) (.var "kept")) (.bi "len" (.cons (.var "extra") .nil)))) .nil))

noncomputable def fn_law_nearer (K : Cfg) : Fn where
  pos := ["pairs", "goal"]
  rest := ["kept", "extra", "calls", "pair", "letter", "kinds"]
  body := (.cons (.assign (.tup ["kept", "extra"]) (.call "_law_stand" (.cons (.var "pairs") (.cons (.var "goal") .nil)))) (.cons (.assign (.one "calls") (.comp true (.tuple (.cons (.int 1) (.cons (.tuple (.cons (.idx (.str [97, 66, 99]) (.var "one")) (.cons (.str []) .nil))) .nil))) (.cons (.one "one") (.var "extra") .nil .nil))) (.cons (.for (.one "pair") (.slice false (.var "goal") (.yes (.var "kept")) (.yes (.bin .Add (.var "kept") (.int 1))) .no) (.cons (.assign (.one "letter") (.idx (.call "_law_letters" (.cons (.list false (.cons (.var "pair") .nil)) .nil)) (.int 0))) (.cons (.assign (.one "kinds") (.list false (.cons (.int 0) (.cons (.int 2) (.cons (.int 3) .nil))))) (.cons (.ite (.cmp .In (.var "letter") (.call "_law_letters" (.cons (.slice false (.var "goal") .no (.yes (.var "kept")) .no) .nil))) (.cons (.assign (.one "kinds") (.list false (.cons (.int 2) .nil))) .nil) (.cons (.ite (.cmp .In (.var "letter") (.call "_law_letters" (.cons (.var "pairs") .nil))) (.cons (.assign (.one "kinds") (.list false (.cons (.int 0) .nil))) .nil) .nil) .nil)) (.cons (.expr (.sm (.var "calls") "extend" (.cons (.comp true (.tuple (.cons (.var "kind") (.cons (.var "pair") .nil))) (.cons (.one "kind") (.var "kinds") .nil .nil)) .nil))) .nil))))) (.cons (.ret (.var "calls")) .nil))))

noncomputable def fn_law_after (K : Cfg) : Fn where
  pos := ["table", "call"]
  rest := ["kind", "pair"]
  body := (.cons (.assign (.tup ["kind", "pair"]) (.var "call")) (.cons (.ite (.cmp .Eq (.var "kind") (.int 0)) (.cons (.setitem (.var "table") (.idx (.var "pair") (.int 0)) (.idx (.var "pair") (.int 1))) .nil) (.cons (.ite (.cmp .Eq (.var "kind") (.int 1)) (.cons (.del (.var "table") (.idx (.var "pair") (.int 0))) .nil) (.cons (.ite (.cmp .Eq (.var "kind") (.int 2)) (.cons (.expr (.meth (.var "table") "add_header" (.cons (.idx (.var "pair") (.int 0)) (.cons (.idx (.var "pair") (.int 1)) .nil)) .nil)) .nil) (.cons (.expr (.meth (.var "table") "setdefault" (.cons (.idx (.var "pair") (.int 0)) (.cons (.idx (.var "pair") (.int 1)) .nil)) .nil)) .nil)) .nil)) .nil)) (.cons (.ret (.meth (.var "table") "items" .nil .nil)) .nil)))

noncomputable def fn_law_walk (K : Cfg) : Fn where
  pos := ["begun", "goal"]
  rest := ["menu", "table", "pairs", "count", "reached", "left", "nearer", "first"]
  body := (.cons (.assign (.one "menu") (.bin .Add (.comp false (.tuple (.cons (.int 1) (.cons (.tuple (.cons (.var "word") (.cons (.str []) .nil))) .nil))) (.cons (.one "word") (.str [97, 66, 99]) .nil .nil)) (.comp false (.tuple (.cons (.var "kind") (.cons (.var "pair") .nil))) (.cons (.one "pair") (.var "goal") .nil (.cons (.one "kind") (.tuple (.cons (.int 0) (.cons (.int 2) (.cons (.int 3) .nil)))) .nil .nil))))) (.cons (.assign (.one "table") (.new (.cons (.slice true (.var "begun") .no .no .no) .nil))) (.cons (.assign (.one "pairs") (.var "begun")) (.cons (.for (.one "count") (.bi "range" (.cons (.call "_law_far" (.cons (.var "begun") (.cons (.var "goal") .nil))) (.cons (.int 0) (.cons (.neg (.int 1)) .nil)))) (.cons (.assign (.one "reached") (.comp false (.call "_law_after" (.cons (.new (.cons (.slice true (.var "pairs") .no .no .no) .nil)) (.cons (.var "call") .nil))) (.cons (.one "call") (.var "menu") .nil .nil))) (.cons (.assign (.one "left") (.comp true (.call "_law_far" (.cons (.var "after") (.cons (.var "goal") .nil))) (.cons (.one "after") (.var "reached") .nil .nil))) (.cons (.assign (.one "nearer") (.call "_law_nearer" (.cons (.var "pairs") (.cons (.var "goal") .nil)))) (.cons (.ite (.cmp .NotEq (.comp false (.bi "min" (.cons (.var "far") (.cons (.var "count") .nil))) (.cons (.one "far") (.var "left") .nil .nil)) (.comp false (.ife (.cmp .In (.var "call") (.var "nearer")) (.bin .Sub (.var "count") (.int 1)) (.var "count")) (.cons (.one "call") (.var "menu") .nil .nil))) (.cons (.ret (.bool false)) .nil) .nil) (.cons (.assign (.one "first") (.sm (.var "left") "index" (.cons (.bin .Sub (.var "count") (.int 1)) .nil))) (.cons (.expr (.call "_law_after" (.cons (.var "table") (.cons (.idx (.var "menu") (.var "first")) .nil)))) (.cons (.assign (.one "pairs") (.idx (.var "reached") (.var "first"))) .nil)))))))) (.cons (.ret (.cmp .Eq (.meth (.var "table") "items" .nil .nil) (.var "goal"))) .nil)))))

noncomputable def fn_law (K : Cfg) : Fn where
  pos := ["script"]
  rest := ["numbers", "begun", "aim"]
  body := (.cons (.assign (.one "numbers") (.bin .Add (.list false (.cons (.int 7) (.cons (.int 2) .nil))) (.slice false (.var "script") .no (.yes (.int 4)) .no))) (.cons (.assign (.one "begun") (.comp false (.call "_law_pair" (.cons (.var "x") .nil)) (.cons (.one "x") (.slice false (.var "numbers") (.yes (.int 0)) .no (.yes (.int 2))) .nil .nil))) (.cons (.assign (.one "aim") (.comp false (.call "_law_pair" (.cons (.var "x") .nil)) (.cons (.one "x") (.slice false (.var "numbers") (.yes (.int 1)) .no (.yes (.int 2))) .nil .nil))) (.cons (.ret (.call "_law_walk" (.cons (.var "begun") (.cons (.var "aim") .nil)))) .nil))))

noncomputable def tab (K : Cfg) : List (String × Fn) := [("_law_pair", fn_law_pair K),
  ("_law_letters", fn_law_letters K),
  ("_law_stand", fn_law_stand K),
  ("_law_far", fn_law_far K),
  ("_law_nearer", fn_law_nearer K),
  ("_law_after", fn_law_after K),
  ("_law_walk", fn_law_walk K),
  ("law", fn_law K),
  ("Headers.__init__", fn_H_init K),
  ("Headers._convert_string_type", fn_Hconvert_string_type K),
  ("Headers.__setitem__", fn_H_setitem K),
  ("Headers.__delitem__", fn_H_delitem K),
  ("Headers.get", fn_H_get K),
  ("Headers.items", fn_H_items K),
  ("Headers.setdefault", fn_H_setdefault K),
  ("Headers.add_header", fn_H_add_header K)]
end Mine

namespace Mine

abbrev Part := Addr → Option Obj

mutual
inductive VR (g : Part) (φ : List Addr) : Value → V → Prop
  | none : VR g φ .none .none
  | bool (b : Bool) : VR g φ (.bool b) (.bool b)
  | int (i : Int) (t : Tok) : VR g φ (.int i t) (.int i)
  | str (x : List Nat) (t : Tok) : VR g φ (.str (strV x) t) (.str x)
  | tuple {a : Addr} {o : Obj} {vs : List Value} {n : Nat} {ds : List V} : g a = some o → o.cls = .type "tuple" → o.data = .seq vs.toArray n → VRs g φ vs ds → VR g φ (.ref a) (.tuple ds)
  | list {a : Addr} {o : Obj} {vs : List Value} {n : Nat} {ds : List V} : g a = some o → o.cls = .type "list" → o.data = .seq vs.toArray n → VRs g φ vs ds → VR g φ (.ref a) (.list ds)
  | own {k : Nat} {a : Addr} : φ[k]? = some a → VR g φ (.ref a) (.own k)
  | gl (a : Addr) : VR g φ (.ref a) (.gl a)
  | ty (n : String) : VR g φ (.type n) (.ty n)
  | rng {r : Addr} {o : Obj} {a b c : Int} {t u v : Tok} : g r = some o → o = { cls := .type "range", data := .fields #[.int a t, .int b u, .int c v] } → VR g φ (.ref r) (.rng a b c)
  | items {k : Nat} {a r : Addr} {o : Obj} : φ[k]? = some a → g r = some o → o = { cls := .type "dict_items", data := .fields #[.ref a] } → VR g φ (.ref r) (.items k)
inductive VRs (g : Part) (φ : List Addr) : List Value → List V → Prop
  | nil : VRs g φ [] []
  | cons {v : Value} {vs : List Value} {d : V} {ds : List V} : VR g φ v d → VRs g φ vs ds → VRs g φ (v :: vs) (d :: ds)
end

theorem pre_get {φ φ' : List Addr} (h : φ <+: φ') {k : Nat} {a : Addr} (e : φ[k]? = some a) : φ'[k]? = some a := by
  obtain ⟨t, rfl⟩ := h
  have hk : k < φ.length := (List.getElem?_eq_some_iff.mp e).1
  rw [List.getElem?_append_left hk]; exact e

theorem VR.mono {g g' : Part} {φ φ' : List Addr} (hg : ∀ a o, g a = some o → g' a = some o) (hf : φ <+: φ') {v : Value} {d : V} (h : VR g φ v d) : VR g' φ' v d :=
  VR.rec (motive_1 := fun v d _ => VR g' φ' v d) (motive_2 := fun vs ds _ => VRs g' φ' vs ds) .none .bool .int .str (fun h c d _ ih => .tuple (hg _ _ h) c d ih) (fun h c d _ ih => .list (hg _ _ h) c d ih)
    (fun h => .own (pre_get hf h)) .gl .ty (fun h e => .rng (hg _ _ h) e) (fun h h' e => .items (pre_get hf h) (hg _ _ h') e) .nil (fun _ _ i1 i2 => .cons i1 i2) h
theorem VRs.mono {g g' : Part} {φ φ' : List Addr} (hg : ∀ a o, g a = some o → g' a = some o) (hf : φ <+: φ') {vs : List Value} {ds : List V} (h : VRs g φ vs ds) : VRs g' φ' vs ds := by
  induction vs generalizing ds with
  | nil => cases h; exact .nil
  | cons v vs ih => cases h with | cons h r => exact .cons (h.mono hg hf) (ih r)

section
variable {g : Part} {φ : List Addr} {v : Value} {d : V} {vs ws : List Value} {ds es : List V}
theorem VRs.length (h : VRs g φ vs ds) : vs.length = ds.length := by
  induction vs generalizing ds with
  | nil => cases h; rfl
  | cons v vs ih => cases h with | cons _ r => rw [List.length_cons, List.length_cons, ih r]
theorem VRs.append (h : VRs g φ vs ds) (k : VRs g φ ws es) : VRs g φ (vs ++ ws) (ds ++ es) := by
  induction vs generalizing ds with
  | nil => cases h; exact k
  | cons v vs ih => cases h with | cons h r => exact .cons h (ih r)
theorem VRs.get (h : VRs g φ vs ds) {k : Nat} {d : V} (hk : ds[k]? = some d) : ∃ v, vs[k]? = some v ∧ VR g φ v d := by
  induction vs generalizing ds k with
  | nil => cases h; simp at hk
  | cons v vs ih =>
    cases h with
    | cons h r =>
      cases k with
      | zero => simp at hk; subst hk; exact ⟨v, rfl, h⟩
      | succ k => exact ih r (by simpa using hk)
theorem VRs.get' (h : VRs g φ vs ds) {k : Nat} {v : Value} (hk : vs[k]? = some v) : ∃ d, ds[k]? = some d ∧ VR g φ v d := by
  induction vs generalizing ds k with
  | nil => simp at hk
  | cons v vs ih =>
    cases h with
    | cons h r =>
      cases k with
      | zero => simp at hk; subst hk; exact ⟨_, rfl, h⟩
      | succ k => exact ih r (by simpa using hk)
theorem VRs.of_get {vs : List Value} {ds : List V} (hl : vs.length = ds.length) (h : ∀ (k : Nat) (v : Value) (d : V), vs[k]? = some v → ds[k]? = some d → VR g φ v d) : VRs g φ vs ds := by
  induction vs generalizing ds with
  | nil => cases ds with
    | nil => exact .nil
    | cons => simp at hl
  | cons v vs ih => cases ds with
    | nil => simp at hl
    | cons d ds => exact .cons (h 0 v d rfl rfl) (ih (by simpa using hl) fun k v d h1 h2 => h (k + 1) v d (by simpa using h1) (by simpa using h2))
theorem VRs.filterMap {vs : List Value} {ds : List V} (h : VRs g φ vs ds) (js : List Nat) : VRs g φ (js.filterMap (vs[·]?)) (js.filterMap (ds[·]?)) := by
  induction js with
  | nil => exact .nil
  | cons j js ih =>
    rw [List.filterMap_cons, List.filterMap_cons]
    cases hv : vs[j]? with
    | none =>
      have hd : ds[j]? = none := by
        rw [List.getElem?_eq_none_iff] at hv ⊢
        rw [← h.length]; exact hv
      rw [hd]; exact ih
    | some v =>
      obtain ⟨d, hd, hr⟩ := h.get' hv
      rw [hd]; exact .cons hr ih
theorem VRs.inv0 {vs : List Value} (h : VRs g φ vs []) : vs = [] := by cases h; rfl
theorem VRs.inv {vs : List Value} {d : V} {ds : List V} (h : VRs g φ vs (d :: ds)) : ∃ v ws, vs = v :: ws ∧ VR g φ v d ∧ VRs g φ ws ds := by cases h with | cons h r => exact ⟨_, _, rfl, h, r⟩
theorem VRs.inv1 {vs : List Value} {d : V} (h : VRs g φ vs [d]) : ∃ v, vs = [v] ∧ VR g φ v d := by
  obtain ⟨v, ws, rfl, h1, h2⟩ := h.inv
  cases h2.inv0; exact ⟨v, rfl, h1⟩
theorem VRs.inv2 {vs : List Value} {d e : V} (h : VRs g φ vs [d, e]) : ∃ v u, vs = [v, u] ∧ VR g φ v d ∧ VR g φ u e := by
  obtain ⟨v, ws, rfl, h1, h2⟩ := h.inv
  obtain ⟨u, rfl, h3⟩ := h2.inv1; exact ⟨v, u, rfl, h1, h3⟩
theorem VRs.inv3 {vs : List Value} {d e f : V} (h : VRs g φ vs [d, e, f]) : ∃ v u x, vs = [v, u, x] ∧ VR g φ v d ∧ VR g φ u e ∧ VR g φ x f := by
  obtain ⟨v, ws, rfl, h1, h2⟩ := h.inv
  obtain ⟨u, x, rfl, h3, h4⟩ := h2.inv2; exact ⟨v, u, x, rfl, h1, h3, h4⟩
theorem VR.ofInt {v : Value} {i : Int} (h : VR g φ v (.int i)) : ∃ t, v = .int i t := by cases h with | int _ t => exact ⟨t, rfl⟩
theorem VR.ofStr {v : Value} {x : List Nat} (h : VR g φ v (.str x)) : ∃ t, v = .str (strV x) t := by cases h with | str _ t => exact ⟨t, rfl⟩
theorem VR.ofOwn {v : Value} {k : Nat} (h : VR g φ v (.own k)) : ∃ a, v = .ref a ∧ φ[k]? = some a := by cases h with | own h => exact ⟨_, rfl, h⟩
theorem VRs.drop {vs : List Value} {ds : List V} (h : VRs g φ vs ds) (k : Nat) : VRs g φ (vs.drop k) (ds.drop k) := by
  induction vs generalizing ds k with
  | nil => cases h; simp; exact .nil
  | cons u vs ih => cases h with
    | cons h r => cases k with
      | zero => exact .cons h r
      | succ k => exact ih r k
theorem VRs.set {vs : List Value} {ds : List V} (h : VRs g φ vs ds) (k : Nat) {v : Value} {d : V} (hv : VR g φ v d) : VRs g φ (vs.set k v) (ds.set k d) := by
  induction vs generalizing ds k with
  | nil => cases h; exact .nil
  | cons u vs ih => cases h with
    | cons h r => cases k with
      | zero => exact .cons hv r
      | succ k => exact .cons h (ih r k)
end

noncomputable def OR (C : Addr) (g : Part) (φ : List Addr) (h : Heap) (a : Addr) : OObj → Prop
  | .lst ds => ∃ vs : List Value, h.PlainList a vs.toArray ∧ VRs g φ vs ds
  | .inst d => ∃ dx, φ[d]? = some dx ∧ h.get? a = some (instObj C dx)
  | .attrs none => h.get? a = some (dictOf [] 0)
  | .attrs (some d) => ∃ hsh t v n, h.get? a = some (dictOf [⟨hsh, .str (Str.ofString "_headers") t, v⟩] n) ∧ VR g φ v d
  | .dct es => es = [] ∧ a ≠ sysModules ∧ h.get? a = some (dictOf [] 0)

structure Sim (hb : Heap) (C : Addr) (φ : List Addr) (σ : Store) (g : Part) (h : Heap) : Prop where
  base : ∀ a o, hb.get? a = some o → g a = some o
  keep : ∀ a o, g a = some o → h.get? a = some o
  len : φ.length = σ.length
  off : ∀ a ∈ φ, g a = none
  own : ∀ (k : Nat) (a : Addr) (o : OObj), φ[k]? = some a → σ[k]? = some o → OR C g φ h a o
  nodup : φ.Nodup

structure Grow (φ : List Addr) (g : Part) (h : Heap) (φ' : List Addr) (g' : Part) (h' : Heap) : Prop where
  pre : φ <+: φ'
  mono : ∀ a o, g a = some o → g' a = some o
  newg : ∀ a o, g' a = some o → g a = some o ∨ h.get? a = none
  newf : ∀ a, a ∈ φ' → a ∈ φ ∨ h.get? a = none
  keep : ∀ a o, h.get? a = some o → a ∉ φ → h'.get? a = some o
  dom : ∀ a o, h.get? a = some o → ∃ o', h'.get? a = some o'

theorem Grow.refl (φ : List Addr) (g : Part) (h : Heap) : Grow φ g h φ g h := ⟨List.prefix_refl _, fun _ _ e => e, fun _ _ e => .inl e, fun _ e => .inl e, fun _ _ e _ => e, fun _ _ e => ⟨_, e⟩⟩
theorem Grow.trans {φ φ₁ φ₂ : List Addr} {g g₁ g₂ : Part} {h h₁ h₂ : Heap} (x : Grow φ g h φ₁ g₁ h₁) (y : Grow φ₁ g₁ h₁ φ₂ g₂ h₂) : Grow φ g h φ₂ g₂ h₂ where
  pre := x.pre.trans y.pre
  mono := fun a o e => y.mono a o (x.mono a o e)
  newg := fun a o e => by
    rcases y.newg a o e with e1 | e1
    · exact x.newg a o e1
    · cases q : h.get? a with
      | none => exact .inr rfl
      | some o' => obtain ⟨o'', e2⟩ := x.dom a o' q; rw [e1] at e2; cases e2
  newf := fun a e => by
    rcases y.newf a e with e1 | e1
    · exact x.newf a e1
    · cases q : h.get? a with
      | none => exact .inr rfl
      | some o' => obtain ⟨o'', e2⟩ := x.dom a o' q; rw [e1] at e2; cases e2
  keep := fun a o e n => by
    refine y.keep a o (x.keep a o e n) fun m => ?_
    rcases x.newf a m with q | q
    · exact n q
    · rw [q] at e; cases e
  dom := fun a o e => let ⟨o₁, e₁⟩ := x.dom a o e; y.dom a o₁ e₁

theorem OR.grow {C : Addr} {g g' : Part} {φ φ' : List Addr} {h h' : Heap} {a : Addr} (hg : ∀ a o, g a = some o → g' a = some o) (hf : φ <+: φ') (hk : ∀ o, h.get? a = some o → h'.get? a = some o) : ∀ {o : OObj}, OR C g φ h a o → OR C g' φ' h' a o
  | .lst _, ⟨vs, ⟨o, ho⟩, hr⟩ => ⟨vs, ⟨o, hk _ ho⟩, hr.mono hg hf⟩
  | .inst _, ⟨dx, h1, h2⟩ => ⟨dx, pre_get hf h1, hk _ h2⟩
  | .attrs none, h1 => hk _ h1
  | .attrs (some _), ⟨x, t, v, n, h1, h2⟩ => ⟨x, t, v, n, hk _ h1, h2.mono hg hf⟩
  | .dct _, ⟨e, n, h1⟩ => ⟨e, n, hk _ h1⟩

noncomputable def Rest (s s' : Shared) : Prop := ∃ h' tk, s' = { s with heap := h', toks := tk }
theorem Rest.refl (s : Shared) : Rest s s := ⟨s.heap, s.toks, rfl⟩
theorem Rest.trans {s s₁ s₂ : Shared} (x : Rest s s₁) (y : Rest s₁ s₂) : Rest s s₂ := by
  obtain ⟨h, t, rfl⟩ := x
  obtain ⟨h', t', rfl⟩ := y
  exact ⟨h', t', rfl⟩
theorem Rest.mk (s : Shared) (h' : Heap) (tk : Nat) : Rest s { s with heap := h', toks := tk } := ⟨_, _, rfl⟩

noncomputable def Post (hb : Heap) (C : Addr) (φ : List Addr) (g : Part) (s : Shared) (σ' : Store) (d : V) (v : Value) (s' : Shared) : Prop :=
  ∃ φ' g', Grow φ g s.heap φ' g' s'.heap ∧ Sim hb C φ' σ' g' s'.heap ∧ VR g' φ' v d ∧ Rest s s'

theorem Post.trans {hb : Heap} {C : Addr} {φ φ₁ : List Addr} {g g₁ : Part} {s s₁ s' : Shared} {σ' : Store} {d : V} {v : Value} (x : Grow φ g s.heap φ₁ g₁ s₁.heap) (r : Rest s s₁) (p : Post hb C φ₁ g₁ s₁ σ' d v s') : Post hb C φ g s σ' d v s' :=
  let ⟨φ', g', a, b, c, e⟩ := p; ⟨φ', g', x.trans a, b, c, r.trans e⟩

theorem Post.here {hb : Heap} {C : Addr} {φ : List Addr} {g : Part} {s : Shared} {σ : Store} {d : V} {v : Value} (S : Sim hb C φ σ g s.heap) (h : VR g φ v d) (tk : Nat) : Post hb C φ g s σ d v { s with toks := tk } :=
  ⟨φ, g, Grow.refl .., S, h, ⟨s.heap, tk, rfl⟩⟩

noncomputable def putG (g : Part) (a : Addr) (o : Obj) : Part := fun b => if b = a then some o else g b
theorem fresh_none (h : Heap) : h.get? h.objs.size = none := by
  cases e : h.get? h.objs.size with
  | none => rfl
  | some o => exact absurd (Heap.lt_size e) (Nat.lt_irrefl _)

section
variable {hb : Heap} {C : Addr} {φ : List Addr} {σ : Store} {g : Part} {h h' : Heap}
theorem Sim.fresh_g (S : Sim hb C φ σ g h) {a : Addr} (e : h.get? a = none) : g a = none := by
  cases q : g a with
  | none => rfl
  | some o => rw [S.keep a o q] at e; cases e
theorem Sim.addr (S : Sim hb C φ σ g h) {a : Addr} (m : a ∈ φ) : ∃ o, h.get? a = some o := by
  obtain ⟨k, hk, e⟩ := List.getElem_of_mem m
  have hk' : k < σ.length := S.len ▸ hk
  have e1 : φ[k]? = some a := by rw [List.getElem?_eq_getElem hk, e]
  have z := S.own k a σ[k] e1 (List.getElem?_eq_getElem hk')
  cases q : σ[k] with
  | lst ds => rw [q] at z; obtain ⟨_, ⟨_, ho⟩, _⟩ := z; exact ⟨_, ho⟩
  | inst d => rw [q] at z; obtain ⟨_, _, ho⟩ := z; exact ⟨_, ho⟩
  | attrs v => rw [q] at z; cases v with
    | none => exact ⟨_, z⟩
    | some v => obtain ⟨_, _, _, _, ho, _⟩ := z; exact ⟨_, ho⟩
  | dct es => rw [q] at z; exact ⟨_, z.2.2⟩
theorem Sim.fresh_f (S : Sim hb C φ σ g h) {a : Addr} (e : h.get? a = none) : a ∉ φ := fun m => by
  obtain ⟨o, ho⟩ := S.addr m; rw [e] at ho; cases ho

theorem Sim.keeps (S : Sim hb C φ σ g h) (hk : ∀ a o, h.get? a = some o → (a ∈ φ ∨ g a = some o) → h'.get? a = some o) : Sim hb C φ σ g h' :=
  ⟨S.base, fun a o e => hk a o (S.keep a o e) (.inr e), S.len, S.off, fun k a o e1 e2 => (S.own k a o e1 e2).grow (fun _ _ e => e) (List.prefix_refl _) fun o' e => hk a o' e (.inl (List.mem_of_getElem? e1)), S.nodup⟩
theorem Sim.all (S : Sim hb C φ σ g h) (hk : ∀ a o, h.get? a = some o → h'.get? a = some o) : Sim hb C φ σ g h' := S.keeps fun a o e _ => hk a o e

theorem Sim.put (S : Sim hb C φ σ g h) {a : Addr} {o : Obj} (hn : h.get? a = none) (ho : h'.get? a = some o) (hk : ∀ b o, h.get? b = some o → h'.get? b = some o) : Sim hb C φ σ (putG g a o) h' ∧ Grow φ g h φ (putG g a o) h' := by
  have mono : ∀ b o', g b = some o' → putG g a o b = some o' := fun b o' e => by
    unfold putG
    rw [if_neg (by rintro rfl; rw [S.fresh_g hn] at e; cases e)]; exact e
  refine ⟨⟨fun b o' e => mono _ _ (S.base _ _ e), fun b o' e => ?_, S.len, fun b m => ?_, fun k b o' e1 e2 => (S.own k b o' e1 e2).grow mono (List.prefix_refl _) fun o' e => hk b o' e, S.nodup⟩,
    ⟨List.prefix_refl _, mono, fun b o' e => ?_, fun _ e => .inl e, fun b o' e _ => hk b o' e, fun b o' e => ⟨o', hk b o' e⟩⟩⟩
  · unfold putG at e
    split at e
    · rename_i q; subst q; cases e; exact ho
    · exact hk _ _ (S.keep _ _ e)
  · unfold putG
    rw [if_neg (by rintro rfl; exact S.fresh_f hn m)]; exact S.off b m
  · unfold putG at e
    split at e
    · rename_i q; subst q; exact .inr hn
    · exact .inl e

theorem Sim.more (S : Sim hb C φ σ g h) {a : Addr} {x : OObj} (hn : h.get? a = none) (hk : ∀ b o, h.get? b = some o → h'.get? b = some o) (hx : OR C g (φ ++ [a]) h' a x) : Sim hb C (φ ++ [a]) (σ ++ [x]) g h' ∧ Grow φ g h (φ ++ [a]) g h' := by
  have pre : φ <+: φ ++ [a] := List.prefix_append ..
  refine ⟨⟨S.base, fun b o e => hk _ _ (S.keep _ _ e), by simp [S.len], fun b m => ?_, fun k b o e1 e2 => ?_, ?_⟩,
    ⟨pre, fun _ _ e => e, fun _ _ e => .inl e, fun b m => ?_, fun b o e _ => hk b o e, fun b o e => ⟨o, hk b o e⟩⟩⟩
  · rcases List.mem_append.mp m with m | m
    · exact S.off b m
    · rw [List.mem_singleton.mp m]; exact S.fresh_g hn
  · by_cases hlt : k < φ.length
    · rw [List.getElem?_append_left hlt] at e1
      rw [List.getElem?_append_left (S.len ▸ hlt)] at e2
      exact (S.own k b o e1 e2).grow (fun _ _ e => e) pre fun o' e => hk b o' e
    · have hl : φ.length = σ.length := S.len
      have : k < (φ ++ [a]).length := (List.getElem?_eq_some_iff.mp e1).1
      rw [List.length_append, List.length_singleton] at this
      have hk' : k = φ.length := by omega
      subst hk'
      rw [List.getElem?_append_right (Nat.le_refl _)] at e1
      rw [hl, List.getElem?_append_right (Nat.le_refl _)] at e2
      simp at e1 e2
      subst e1 e2
      exact hx
  · rw [List.nodup_append]
    exact ⟨S.nodup, by simp, fun b m c n => by rw [List.mem_singleton.mp n]; rintro rfl; exact S.fresh_f hn m⟩
  · rcases List.mem_append.mp m with m | m
    · exact .inl m
    · rw [List.mem_singleton.mp m]; exact .inr hn

theorem Sim.turn (S : Sim hb C φ σ g h) {k : Nat} {a : Addr} {x : OObj} (ha : φ[k]? = some a) (hs : Heap.SameBut a h h') (hx : OR C g φ h' a x) : Sim hb C φ (σ.set k x) g h' ∧ Grow φ g h φ g h' := by
  have ma : a ∈ φ := List.mem_of_getElem? ha
  have hk : ∀ b o, h.get? b = some o → b ≠ a → h'.get? b = some o := fun b o e n => (hs.2 b n).trans e
  have hdom : ∃ o, h'.get? a = some o := by
    cases x with
    | lst ds => obtain ⟨_, ⟨_, ho⟩, _⟩ := hx; exact ⟨_, ho⟩
    | inst d => obtain ⟨_, _, ho⟩ := hx; exact ⟨_, ho⟩
    | attrs v => cases v with
      | none => exact ⟨_, hx⟩
      | some v => obtain ⟨_, _, _, _, ho, _⟩ := hx; exact ⟨_, ho⟩
    | dct es => exact ⟨_, hx.2.2⟩
  refine ⟨⟨S.base, fun b o e => hk b o (S.keep _ _ e) (by rintro rfl; rw [S.off b ma] at e; cases e), by simp [S.len], S.off, fun j b o e1 e2 => ?_, S.nodup⟩,
    ⟨List.prefix_refl _, fun _ _ e => e, fun _ _ e => .inl e, fun _ e => .inl e, fun b o e n => hk b o e (by rintro rfl; exact n ma), fun b o e => ?_⟩⟩
  · by_cases hj : j = k
    · subst hj
      rw [ha] at e1; cases e1
      have : j < σ.length := by rw [← S.len]; exact (List.getElem?_eq_some_iff.mp ha).1
      rw [List.getElem?_set_self this] at e2; cases e2
      exact hx
    · rw [List.getElem?_set_ne (Ne.symm hj)] at e2
      have nb : b ≠ a := by
        rintro rfl
        obtain ⟨l1, q1⟩ := List.getElem?_eq_some_iff.mp e1
        obtain ⟨l2, q2⟩ := List.getElem?_eq_some_iff.mp ha
        exact hj ((List.getElem_inj S.nodup).mp (q1.trans q2.symm))
      exact (S.own j b o e1 e2).grow (fun _ _ e => e) (List.prefix_refl _) fun o' e => hk b o' e nb
  · by_cases q : b = a
    · subst q; exact hdom
    · exact ⟨o, hk b o e q⟩
end
noncomputable def onConst (e : Expr) (f : Const → Nat → Pos → Bool) : Bool := if h : e.ctorIdx = 19 then PySem.Expr.Constant.elim (motive_1 := fun _ => Bool) e h f else false
theorem onConst_inv {e : Expr} {f : Const → Nat → Pos → Bool} (h : onConst e f = true) : ∃ c k p, e = .Constant c k p ∧ f c k p = true := by
  unfold onConst at h
  by_cases q : e.ctorIdx = 19
  · rw [dif_pos q] at h
    revert h
    exact PySem.Expr.Constant.elim (motive_1 := fun e => ∀ q : e.ctorIdx = 19, PySem.Expr.Constant.elim (motive_1 := fun _ => Bool) e q f = true → ∃ c k p, e = .Constant c k p ∧ f c k p = true) e q (fun c k p _ h => ⟨c, k, p, rfl, h⟩) q
  · rw [dif_neg q] at h; cases h
noncomputable def onName (e : Expr) (f : Str → Pos → Bool) : Bool := if h : e.ctorIdx = 23 then PySem.Expr.Name.elim (motive_1 := fun _ => Bool) e h f else false
theorem onName_inv {e : Expr} {f : Str → Pos → Bool} (h : onName e f = true) : ∃ a p, e = .Name a p ∧ f a p = true := by
  unfold onName at h
  by_cases q : e.ctorIdx = 23
  · rw [dif_pos q] at h
    revert h
    exact PySem.Expr.Name.elim (motive_1 := fun e => ∀ q : e.ctorIdx = 23, PySem.Expr.Name.elim (motive_1 := fun _ => Bool) e q f = true → ∃ a p, e = .Name a p ∧ f a p = true) e q (fun a p _ h => ⟨a, p, rfl, h⟩) q
  · rw [dif_neg q] at h; cases h
noncomputable def onTuple (e : Expr) (f : List Expr → Nat → Pos → Bool) : Bool := if h : e.ctorIdx = 25 then PySem.Expr.Tuple.elim (motive_1 := fun _ => Bool) e h f else false
theorem onTuple_inv {e : Expr} {f : List Expr → Nat → Pos → Bool} (h : onTuple e f = true) : ∃ a k p, e = .Tuple a k p ∧ f a k p = true := by
  unfold onTuple at h
  by_cases q : e.ctorIdx = 25
  · rw [dif_pos q] at h
    revert h
    exact PySem.Expr.Tuple.elim (motive_1 := fun e => ∀ q : e.ctorIdx = 25, PySem.Expr.Tuple.elim (motive_1 := fun _ => Bool) e q f = true → ∃ a k p, e = .Tuple a k p ∧ f a k p = true) e q (fun a k p _ h => ⟨a, k, p, rfl, h⟩) q
  · rw [dif_neg q] at h; cases h
noncomputable def onList (e : Expr) (f : List Expr → Pos → Bool) : Bool := if h : e.ctorIdx = 24 then PySem.Expr.List.elim (motive_1 := fun _ => Bool) e h f else false
theorem onList_inv {e : Expr} {f : List Expr → Pos → Bool} (h : onList e f = true) : ∃ a p, e = .List a p ∧ f a p = true := by
  unfold onList at h
  by_cases q : e.ctorIdx = 24
  · rw [dif_pos q] at h
    revert h
    exact PySem.Expr.List.elim (motive_1 := fun e => ∀ q : e.ctorIdx = 24, PySem.Expr.List.elim (motive_1 := fun _ => Bool) e q f = true → ∃ a p, e = .List a p ∧ f a p = true) e q (fun a p _ h => ⟨a, p, rfl, h⟩) q
  · rw [dif_neg q] at h; cases h
noncomputable def onBin (e : Expr) (f : Expr → Operator → Expr → Pos → Bool) : Bool := if h : e.ctorIdx = 2 then PySem.Expr.BinOp.elim (motive_1 := fun _ => Bool) e h f else false
theorem onBin_inv {e : Expr} {f : Expr → Operator → Expr → Pos → Bool} (h : onBin e f = true) : ∃ a b c p, e = .BinOp a b c p ∧ f a b c p = true := by
  unfold onBin at h
  by_cases q : e.ctorIdx = 2
  · rw [dif_pos q] at h
    revert h
    exact PySem.Expr.BinOp.elim (motive_1 := fun e => ∀ q : e.ctorIdx = 2, PySem.Expr.BinOp.elim (motive_1 := fun _ => Bool) e q f = true → ∃ a b c p, e = .BinOp a b c p ∧ f a b c p = true) e q (fun a b c p _ h => ⟨a, b, c, p, rfl, h⟩) q
  · rw [dif_neg q] at h; cases h
noncomputable def onUn (e : Expr) (f : UnaryOp → Expr → Pos → Bool) : Bool := if h : e.ctorIdx = 3 then PySem.Expr.UnaryOp.elim (motive_1 := fun _ => Bool) e h f else false
theorem onUn_inv {e : Expr} {f : UnaryOp → Expr → Pos → Bool} (h : onUn e f = true) : ∃ a b p, e = .UnaryOp a b p ∧ f a b p = true := by
  unfold onUn at h
  by_cases q : e.ctorIdx = 3
  · rw [dif_pos q] at h
    revert h
    exact PySem.Expr.UnaryOp.elim (motive_1 := fun e => ∀ q : e.ctorIdx = 3, PySem.Expr.UnaryOp.elim (motive_1 := fun _ => Bool) e q f = true → ∃ a b p, e = .UnaryOp a b p ∧ f a b p = true) e q (fun a b p _ h => ⟨a, b, p, rfl, h⟩) q
  · rw [dif_neg q] at h; cases h
noncomputable def onBool (e : Expr) (f : BoolOp → List Expr → Pos → Bool) : Bool := if h : e.ctorIdx = 0 then PySem.Expr.BoolOp.elim (motive_1 := fun _ => Bool) e h f else false
theorem onBool_inv {e : Expr} {f : BoolOp → List Expr → Pos → Bool} (h : onBool e f = true) : ∃ a b p, e = .BoolOp a b p ∧ f a b p = true := by
  unfold onBool at h
  by_cases q : e.ctorIdx = 0
  · rw [dif_pos q] at h
    revert h
    exact PySem.Expr.BoolOp.elim (motive_1 := fun e => ∀ q : e.ctorIdx = 0, PySem.Expr.BoolOp.elim (motive_1 := fun _ => Bool) e q f = true → ∃ a b p, e = .BoolOp a b p ∧ f a b p = true) e q (fun a b p _ h => ⟨a, b, p, rfl, h⟩) q
  · rw [dif_neg q] at h; cases h
noncomputable def onIf (e : Expr) (f : Expr → Expr → Expr → Pos → Bool) : Bool := if h : e.ctorIdx = 5 then PySem.Expr.IfExp.elim (motive_1 := fun _ => Bool) e h f else false
theorem onIf_inv {e : Expr} {f : Expr → Expr → Expr → Pos → Bool} (h : onIf e f = true) : ∃ a b c p, e = .IfExp a b c p ∧ f a b c p = true := by
  unfold onIf at h
  by_cases q : e.ctorIdx = 5
  · rw [dif_pos q] at h
    revert h
    exact PySem.Expr.IfExp.elim (motive_1 := fun e => ∀ q : e.ctorIdx = 5, PySem.Expr.IfExp.elim (motive_1 := fun _ => Bool) e q f = true → ∃ a b c p, e = .IfExp a b c p ∧ f a b c p = true) e q (fun a b c p _ h => ⟨a, b, c, p, rfl, h⟩) q
  · rw [dif_neg q] at h; cases h
noncomputable def onCmp (e : Expr) (f : Expr → List CmpOp → List Expr → Pos → Bool) : Bool := if h : e.ctorIdx = 15 then PySem.Expr.Compare.elim (motive_1 := fun _ => Bool) e h f else false
theorem onCmp_inv {e : Expr} {f : Expr → List CmpOp → List Expr → Pos → Bool} (h : onCmp e f = true) : ∃ a b c p, e = .Compare a b c p ∧ f a b c p = true := by
  unfold onCmp at h
  by_cases q : e.ctorIdx = 15
  · rw [dif_pos q] at h
    revert h
    exact PySem.Expr.Compare.elim (motive_1 := fun e => ∀ q : e.ctorIdx = 15, PySem.Expr.Compare.elim (motive_1 := fun _ => Bool) e q f = true → ∃ a b c p, e = .Compare a b c p ∧ f a b c p = true) e q (fun a b c p _ h => ⟨a, b, c, p, rfl, h⟩) q
  · rw [dif_neg q] at h; cases h
noncomputable def onSub (e : Expr) (f : Expr → Expr → Pos → Bool) : Bool := if h : e.ctorIdx = 21 then PySem.Expr.Subscript.elim (motive_1 := fun _ => Bool) e h f else false
theorem onSub_inv {e : Expr} {f : Expr → Expr → Pos → Bool} (h : onSub e f = true) : ∃ a b p, e = .Subscript a b p ∧ f a b p = true := by
  unfold onSub at h
  by_cases q : e.ctorIdx = 21
  · rw [dif_pos q] at h
    revert h
    exact PySem.Expr.Subscript.elim (motive_1 := fun e => ∀ q : e.ctorIdx = 21, PySem.Expr.Subscript.elim (motive_1 := fun _ => Bool) e q f = true → ∃ a b p, e = .Subscript a b p ∧ f a b p = true) e q (fun a b p _ h => ⟨a, b, p, rfl, h⟩) q
  · rw [dif_neg q] at h; cases h
noncomputable def onSlice (e : Expr) (f : Option Expr → Option Expr → Option Expr → Pos → Bool) : Bool := if h : e.ctorIdx = 26 then PySem.Expr.Slice.elim (motive_1 := fun _ => Bool) e h f else false
theorem onSlice_inv {e : Expr} {f : Option Expr → Option Expr → Option Expr → Pos → Bool} (h : onSlice e f = true) : ∃ a b c p, e = .Slice a b c p ∧ f a b c p = true := by
  unfold onSlice at h
  by_cases q : e.ctorIdx = 26
  · rw [dif_pos q] at h
    revert h
    exact PySem.Expr.Slice.elim (motive_1 := fun e => ∀ q : e.ctorIdx = 26, PySem.Expr.Slice.elim (motive_1 := fun _ => Bool) e q f = true → ∃ a b c p, e = .Slice a b c p ∧ f a b c p = true) e q (fun a b c p _ h => ⟨a, b, c, p, rfl, h⟩) q
  · rw [dif_neg q] at h; cases h
noncomputable def onCall (e : Expr) (f : Expr → List Expr → List Keyword → Pos → Bool) : Bool := if h : e.ctorIdx = 16 then PySem.Expr.Call.elim (motive_1 := fun _ => Bool) e h f else false
theorem onCall_inv {e : Expr} {f : Expr → List Expr → List Keyword → Pos → Bool} (h : onCall e f = true) : ∃ a b c p, e = .Call a b c p ∧ f a b c p = true := by
  unfold onCall at h
  by_cases q : e.ctorIdx = 16
  · rw [dif_pos q] at h
    revert h
    exact PySem.Expr.Call.elim (motive_1 := fun e => ∀ q : e.ctorIdx = 16, PySem.Expr.Call.elim (motive_1 := fun _ => Bool) e q f = true → ∃ a b c p, e = .Call a b c p ∧ f a b c p = true) e q (fun a b c p _ h => ⟨a, b, c, p, rfl, h⟩) q
  · rw [dif_neg q] at h; cases h
noncomputable def onAttr (e : Expr) (f : Expr → Str → Pos → Bool) : Bool := if h : e.ctorIdx = 20 then PySem.Expr.Attribute.elim (motive_1 := fun _ => Bool) e h f else false
theorem onAttr_inv {e : Expr} {f : Expr → Str → Pos → Bool} (h : onAttr e f = true) : ∃ a b p, e = .Attribute a b p ∧ f a b p = true := by
  unfold onAttr at h
  by_cases q : e.ctorIdx = 20
  · rw [dif_pos q] at h
    revert h
    exact PySem.Expr.Attribute.elim (motive_1 := fun e => ∀ q : e.ctorIdx = 20, PySem.Expr.Attribute.elim (motive_1 := fun _ => Bool) e q f = true → ∃ a b p, e = .Attribute a b p ∧ f a b p = true) e q (fun a b p _ h => ⟨a, b, p, rfl, h⟩) q
  · rw [dif_neg q] at h; cases h
noncomputable def onComp (e : Expr) (f : Expr → List Comprehension → Scope → Pos → Bool) : Bool := if h : e.ctorIdx = 8 then PySem.Expr.ListComp.elim (motive_1 := fun _ => Bool) e h f else false
theorem onComp_inv {e : Expr} {f : Expr → List Comprehension → Scope → Pos → Bool} (h : onComp e f = true) : ∃ a b c p, e = .ListComp a b c p ∧ f a b c p = true := by
  unfold onComp at h
  by_cases q : e.ctorIdx = 8
  · rw [dif_pos q] at h
    revert h
    exact PySem.Expr.ListComp.elim (motive_1 := fun e => ∀ q : e.ctorIdx = 8, PySem.Expr.ListComp.elim (motive_1 := fun _ => Bool) e q f = true → ∃ a b c p, e = .ListComp a b c p ∧ f a b c p = true) e q (fun a b c p _ h => ⟨a, b, c, p, rfl, h⟩) q
  · rw [dif_neg q] at h; cases h
noncomputable def onAssign (e : Stmt) (f : List Expr → Expr → Pos → Bool) : Bool := if h : e.ctorIdx = 5 then PySem.Stmt.Assign.elim (motive_2 := fun _ => Bool) e h f else false
theorem onAssign_inv {e : Stmt} {f : List Expr → Expr → Pos → Bool} (h : onAssign e f = true) : ∃ a b p, e = .Assign a b p ∧ f a b p = true := by
  unfold onAssign at h
  by_cases q : e.ctorIdx = 5
  · rw [dif_pos q] at h
    revert h
    exact PySem.Stmt.Assign.elim (motive_2 := fun e => ∀ q : e.ctorIdx = 5, PySem.Stmt.Assign.elim (motive_2 := fun _ => Bool) e q f = true → ∃ a b p, e = .Assign a b p ∧ f a b p = true) e q (fun a b p _ h => ⟨a, b, p, rfl, h⟩) q
  · rw [dif_neg q] at h; cases h
noncomputable def onDelete (e : Stmt) (f : List Expr → Pos → Bool) : Bool := if h : e.ctorIdx = 4 then PySem.Stmt.Delete.elim (motive_2 := fun _ => Bool) e h f else false
theorem onDelete_inv {e : Stmt} {f : List Expr → Pos → Bool} (h : onDelete e f = true) : ∃ a p, e = .Delete a p ∧ f a p = true := by
  unfold onDelete at h
  by_cases q : e.ctorIdx = 4
  · rw [dif_pos q] at h
    revert h
    exact PySem.Stmt.Delete.elim (motive_2 := fun e => ∀ q : e.ctorIdx = 4, PySem.Stmt.Delete.elim (motive_2 := fun _ => Bool) e q f = true → ∃ a p, e = .Delete a p ∧ f a p = true) e q (fun a p _ h => ⟨a, p, rfl, h⟩) q
  · rw [dif_neg q] at h; cases h
noncomputable def onExpr (e : Stmt) (f : Expr → Pos → Bool) : Bool := if h : e.ctorIdx = 24 then PySem.Stmt.Expr.elim (motive_2 := fun _ => Bool) e h f else false
theorem onExpr_inv {e : Stmt} {f : Expr → Pos → Bool} (h : onExpr e f = true) : ∃ a p, e = .Expr a p ∧ f a p = true := by
  unfold onExpr at h
  by_cases q : e.ctorIdx = 24
  · rw [dif_pos q] at h
    revert h
    exact PySem.Stmt.Expr.elim (motive_2 := fun e => ∀ q : e.ctorIdx = 24, PySem.Stmt.Expr.elim (motive_2 := fun _ => Bool) e q f = true → ∃ a p, e = .Expr a p ∧ f a p = true) e q (fun a p _ h => ⟨a, p, rfl, h⟩) q
  · rw [dif_neg q] at h; cases h
noncomputable def onIfS (e : Stmt) (f : Expr → List Stmt → List Stmt → Pos → Bool) : Bool := if h : e.ctorIdx = 12 then PySem.Stmt.If.elim (motive_2 := fun _ => Bool) e h f else false
theorem onIfS_inv {e : Stmt} {f : Expr → List Stmt → List Stmt → Pos → Bool} (h : onIfS e f = true) : ∃ a b c p, e = .If a b c p ∧ f a b c p = true := by
  unfold onIfS at h
  by_cases q : e.ctorIdx = 12
  · rw [dif_pos q] at h
    revert h
    exact PySem.Stmt.If.elim (motive_2 := fun e => ∀ q : e.ctorIdx = 12, PySem.Stmt.If.elim (motive_2 := fun _ => Bool) e q f = true → ∃ a b c p, e = .If a b c p ∧ f a b c p = true) e q (fun a b c p _ h => ⟨a, b, c, p, rfl, h⟩) q
  · rw [dif_neg q] at h; cases h
noncomputable def onFor (e : Stmt) (f : Expr → Expr → List Stmt → List Stmt → Pos → Bool) : Bool := if h : e.ctorIdx = 9 then PySem.Stmt.For.elim (motive_2 := fun _ => Bool) e h f else false
theorem onFor_inv {e : Stmt} {f : Expr → Expr → List Stmt → List Stmt → Pos → Bool} (h : onFor e f = true) : ∃ a b c d p, e = .For a b c d p ∧ f a b c d p = true := by
  unfold onFor at h
  by_cases q : e.ctorIdx = 9
  · rw [dif_pos q] at h
    revert h
    exact PySem.Stmt.For.elim (motive_2 := fun e => ∀ q : e.ctorIdx = 9, PySem.Stmt.For.elim (motive_2 := fun _ => Bool) e q f = true → ∃ a b c d p, e = .For a b c d p ∧ f a b c d p = true) e q (fun a b c d p _ h => ⟨a, b, c, d, p, rfl, h⟩) q
  · rw [dif_neg q] at h; cases h
noncomputable def onRet (e : Stmt) (f : Option Expr → Pos → Bool) : Bool := if h : e.ctorIdx = 3 then PySem.Stmt.Return.elim (motive_2 := fun _ => Bool) e h f else false
theorem onRet_inv {e : Stmt} {f : Option Expr → Pos → Bool} (h : onRet e f = true) : ∃ a p, e = .Return a p ∧ f a p = true := by
  unfold onRet at h
  by_cases q : e.ctorIdx = 3
  · rw [dif_pos q] at h
    revert h
    exact PySem.Stmt.Return.elim (motive_2 := fun e => ∀ q : e.ctorIdx = 3, PySem.Stmt.Return.elim (motive_2 := fun _ => Bool) e q f = true → ∃ a p, e = .Return a p ∧ f a p = true) e q (fun a p _ h => ⟨a, p, rfl, h⟩) q
  · rw [dif_neg q] at h; cases h
noncomputable def onCBool (e : Const) (f : Bool → Bool) : Bool := if h : e.ctorIdx = 1 then PySem.Const.bool.elim (motive := fun _ => Bool) e h f else false
theorem onCBool_inv {e : Const} {f : Bool → Bool} (h : onCBool e f = true) : ∃ b, e = .bool b ∧ f b = true := by
  unfold onCBool at h
  by_cases q : e.ctorIdx = 1
  · rw [dif_pos q] at h
    revert h
    exact PySem.Const.bool.elim (motive := fun e => ∀ q : e.ctorIdx = 1, PySem.Const.bool.elim (motive := fun _ => Bool) e q f = true → ∃ b, e = .bool b ∧ f b = true) e q (fun b _ h => ⟨b, rfl, h⟩) q
  · rw [dif_neg q] at h; cases h
noncomputable def onCInt (e : Const) (f : Int → Bool) : Bool := if h : e.ctorIdx = 2 then PySem.Const.int.elim (motive := fun _ => Bool) e h f else false
theorem onCInt_inv {e : Const} {f : Int → Bool} (h : onCInt e f = true) : ∃ i, e = .int i ∧ f i = true := by
  unfold onCInt at h
  by_cases q : e.ctorIdx = 2
  · rw [dif_pos q] at h
    revert h
    exact PySem.Const.int.elim (motive := fun e => ∀ q : e.ctorIdx = 2, PySem.Const.int.elim (motive := fun _ => Bool) e q f = true → ∃ i, e = .int i ∧ f i = true) e q (fun i _ h => ⟨i, rfl, h⟩) q
  · rw [dif_neg q] at h; cases h
noncomputable def onCStr (e : Const) (f : Str → Bool) : Bool := if h : e.ctorIdx = 5 then PySem.Const.str.elim (motive := fun _ => Bool) e h f else false
theorem onCStr_inv {e : Const} {f : Str → Bool} (h : onCStr e f = true) : ∃ s, e = .str s ∧ f s = true := by
  unfold onCStr at h
  by_cases q : e.ctorIdx = 5
  · rw [dif_pos q] at h
    revert h
    exact PySem.Const.str.elim (motive := fun e => ∀ q : e.ctorIdx = 5, PySem.Const.str.elim (motive := fun _ => Bool) e q f = true → ∃ s, e = .str s ∧ f s = true) e q (fun s _ h => ⟨s, rfl, h⟩) q
  · rw [dif_neg q] at h; cases h
noncomputable def isCNone (c : Const) : Bool := decide (c.ctorIdx = 0)
theorem isCNone_inv {c : Const} (h : isCNone c = true) : c = .none := PySem.Const.none.elim (motive := fun c => c = .none) c (of_decide_eq_true h) rfl
noncomputable def one {α : Type} (l : List α) (f : α → Bool) : Bool := match l with
  | [x] => f x
  | _ => false
theorem one_inv {α : Type} {l : List α} {f : α → Bool} (h : one l f = true) : ∃ x, l = [x] ∧ f x = true := by
  unfold one at h
  split at h
  · exact ⟨_, rfl, h⟩
  · cases h
theorem nil_inv {α : Type} {l : List α} (h : l.isEmpty = true) : l = [] := List.isEmpty_iff.mp h
end Mine

namespace Mine

noncomputable def vis (k : Option NameKind) : Bool := match k with
  | some .local => true
  | some .cell => true
  | some .free => true
  | _ => false

noncomputable def Sees (h : Heap) (env : Env) (n : Str) (v : Value) : Prop :=
  (env.kindOf n = some .local ∧ ∃ m, h.Ns env.locals m ∧ m n = some v) ∨
  ((env.kindOf n = some .cell ∨ (env.kindOf n = some .free ∧ (n == ("__classdict__" : Str)) = false)) ∧ ∃ c, env.cells.lookup n = some c ∧ h.IsCell c (some v))

structure ER (hb : Heap) (φ : List Addr) (g : Part) (h : Heap) (env : Env) (ρ : Rho) : Prop where
  kind : env.scope.kind = .function
  glob : env.globals = mainGlobals
  bl : env.builtins = builtinsNs
  ns : ∃ m, h.Ns env.locals m
  offL : env.locals ∉ φ ∧ g env.locals = none
  cells : ∀ n c, env.cells.lookup n = some c → (∃ v, h.IsCell c v) ∧ c ∉ φ ∧ g c = none ∧ c ≠ env.locals
  has : ∀ n, (env.kindOf n = some .cell ∨ env.kindOf n = some .free) → ∃ c, env.cells.lookup n = some c
  sees : ∀ x d, look ρ x = some d → vis (env.kindOf (Str.ofString x)) = true → ∃ v, Sees h env (Str.ofString x) v ∧ VR g φ v d
  inj : ∀ n n' c, env.cells.lookup n = some c → env.cells.lookup n' = some c → n = n'

theorem Nsm.has {h : Heap} {a : Addr} {m : Str → Option Value} (x : h.Ns a m) : ∃ o, h.get? a = some o := let ⟨o, _, _, ho, _⟩ := x; ⟨o, ho⟩
theorem Nsm.at {h h' : Heap} {a : Addr} {m : Str → Option Value} (x : h.Ns a m) (e : ∀ o, h.get? a = some o → h'.get? a = some o) : h'.Ns a m := let ⟨o, es, ep, ho, r⟩ := x; ⟨o, es, ep, e _ ho, r⟩
theorem Cellm.at {h h' : Heap} {a : Addr} {v : Option Value} (x : h.IsCell a v) (e : ∀ o, h.get? a = some o → h'.get? a = some o) : h'.IsCell a v := let ⟨o, ho, r⟩ := x; ⟨o, e _ ho, r⟩

theorem Sees.keeps {hb : Heap} {φ : List Addr} {g : Part} {h h' : Heap} {env : Env} {ρ : Rho} (R : ER hb φ g h env ρ) {n : Str} {v : Value} (x : Sees h env n v) (hk : ∀ a o, h.get? a = some o → a ∉ φ → h'.get? a = some o) : Sees h' env n v := by
  rcases x with ⟨e, m, hm, hv⟩ | ⟨e, c, hc, hv⟩
  · exact .inl ⟨e, m, Nsm.at hm fun o ho => hk _ o ho R.offL.1, hv⟩
  · exact .inr ⟨e, c, hc, Cellm.at hv fun o ho => hk _ o ho (R.cells n c hc).2.1⟩

theorem ER.grow {hb : Heap} {φ φ' : List Addr} {g g' : Part} {h h' : Heap} {env : Env} {ρ : Rho} (R : ER hb φ g h env ρ) (G : Grow φ g h φ' g' h') : ER hb φ' g' h' env ρ where
  kind := R.kind
  glob := R.glob
  bl := R.bl
  ns := let ⟨m, hm⟩ := R.ns; ⟨m, Nsm.at hm fun o e => G.keep _ o e R.offL.1⟩
  offL := by
    obtain ⟨m, hm⟩ := R.ns
    obtain ⟨o, ho⟩ := Nsm.has hm
    refine ⟨fun q => ?_, ?_⟩
    · rcases G.newf _ q with q | q
      · exact R.offL.1 q
      · rw [q] at ho; cases ho
    · cases q : g' env.locals with
      | none => rfl
      | some o' =>
        rcases G.newg _ _ q with q | q
        · rw [R.offL.2] at q; cases q
        · rw [q] at ho; cases ho
  cells := fun n c e => by
    obtain ⟨⟨v, hv⟩, h1, h2, h3⟩ := R.cells n c e
    obtain ⟨o, ho, hd⟩ := id hv
    refine ⟨⟨v, Cellm.at hv fun o e => G.keep _ o e h1⟩, fun q => ?_, ?_, h3⟩
    · rcases G.newf _ q with q | q
      · exact h1 q
      · rw [q] at ho; cases ho
    · cases q : g' c with
      | none => rfl
      | some o' =>
        rcases G.newg _ _ q with q | q
        · rw [h2] at q; cases q
        · rw [q] at ho; cases ho
  has := R.has
  sees := fun x d e v => let ⟨y, hy, hr⟩ := R.sees x d e v; ⟨y, hy.keeps R fun a o e n => G.keep a o e n, hr.mono G.mono G.pre⟩
  inj := R.inj

structure Rc (n : Nat) (A : Around) : Prop where
  handled : A.handled = none
  depth : A.depth + 4 * n < recursionLimit
  units : A.units + 40 * n + 300 < cLine
structure Rm (n : Nat) (A : Around) : Prop where
  handled : A.handled = none
  depth : A.depth + 4 * n + 2 < recursionLimit
  units : A.units + 40 * n + 310 < cLine
theorem Rm.rc {n : Nat} {A : Around} (h : Rm n A) : Rc n A := ⟨h.handled, by have := h.depth; omega, by have := h.units; omega⟩
theorem Rm.under {n : Nat} {A : Around} (h : Rm n A) (c : Addr) (pos : List Value) (kw : List (Str × Value)) : Rc n (A.under (.builtin "type.__call__" ⟨.ref c :: pos, kw⟩)) :=
  ⟨h.handled, by have := h.depth; show A.depth + 1 + 4 * n < _; omega, by have := h.units; show A.units + 1 + 40 * n + 300 < _; omega⟩
theorem Rc.deeper {n : Nat} {A : Around} (h : Rc (n + 1) A) (env : Env) : Rm n (A.deeper env) :=
  ⟨h.handled, by have := h.depth; show A.depth + 1 + 4 * n + 2 < _; omega, by have := h.units; show A.units + 3 + 40 * n + 310 < _; omega⟩

structure Top0 (prog : Program) (w : World) (hb : Heap) (K : Frag) (mg mb : Str → Option Value) : Prop where
  kin : K.In hb
  g : hb.Ns mainGlobals mg
  b : hb.Ns builtinsNs mb
  nolimit : hb.NoLimit

section
variable {prog : Program} {w : World} {hb : Heap} {C : Addr}

noncomputable def EvOK (prog : Program) (w : World) (hb : Heap) (C : Addr) (n : Nat) (env : Env) (ρ : Rho) (σ : Store) (e : Expr) (d : V) (σ' : Store) : Prop :=
  ∀ A s φ g E, Rm n A → Sim hb C φ σ g s.heap → ER hb φ g s.heap env ρ → wpAny (model prog w) A (eval e env) (Post hb C φ g s σ' d) E s
noncomputable def EvsOK (prog : Program) (w : World) (hb : Heap) (C : Addr) (n : Nat) (env : Env) (ρ : Rho) (σ : Store) (es : List Expr) (ds : List V) (σ' : Store) : Prop :=
  ∀ A s φ g E pos, Rm n A → Sim hb C φ σ g s.heap → ER hb φ g s.heap env ρ → wpAny (model prog w) A (spliced (backTo pos (starEach es env)))
    (fun vs s' => ∃ φ' g', Grow φ g s.heap φ' g' s'.heap ∧ Sim hb C φ' σ' g' s'.heap ∧ VRs g' φ' vs ds ∧ Rest s s') E s

variable {n : Nat} {env : Env} {ρ : Rho} {σ σ₁ σ₂ σ₃ : Store}

theorem none_ok (k : Nat) (pos : Pos) : EvOK prog w hb C n env ρ σ (.Constant .none k pos) .none σ :=
  fun _ s _ _ _ _ S _ => wpAny_pure (Post.here S .none s.toks)
theorem bool_ok (b : Bool) (k : Nat) (pos : Pos) : EvOK prog w hb C n env ρ σ (.Constant (.bool b) k pos) (.bool b) σ :=
  fun _ s _ _ _ _ S _ => wpAny_pure (Post.here S (.bool b) s.toks)
theorem int_ok (i : Int) (k : Nat) (pos : Pos) : EvOK prog w hb C n env ρ σ (.Constant (.int i) k pos) (.int i) σ :=
  fun _ s _ _ _ _ S _ => wpAny_Constant_int (Post.here S (.int i _) (s.toks + 1))
theorem str_ok (x : List Nat) (k : Nat) (pos : Pos) : EvOK prog w hb C n env ρ σ (.Constant (.str (strV x)) k pos) (.str x) σ :=
  fun _ s _ _ _ _ S _ => fun _ _ _ => Post.here S (.str x _) (s.toks + 1)

theorem loadSees {M : Model} {A : Around} {E : Value → Shared → Prop} {s : Shared} {x : Str} {v : Value} {Q : Value → Shared → Prop} (hk : env.scope.kind = .function) (h : Sees s.heap env x v) (q : Q v s) : wpAny M A (loadName env x) Q E s := by
  rcases h with ⟨e, m, hm, hv⟩ | ⟨e | e, c, hc, hv⟩
  · exact wpAny_loadName_local hk e hm hv q
  · exact wpAny_loadName_cell hk e hc hv q
  · exact wpAny_loadName_free hk e.1 hc hv q e.2

theorem var_ok {x : String} {d : V} {pos : Pos} (hl : look ρ x = some d) (hv : vis (env.kindOf (Str.ofString x)) = true) (hd : (Str.ofString x == ("__debug__" : Str)) = false) : EvOK prog w hb C n env ρ σ (.Name (Str.ofString x) pos) d σ := by
  intro A s φ g E _ S R
  obtain ⟨v, hs, hr⟩ := R.sees x d hl hv
  exact wpAny_Name (loadSees R.kind hs (Post.here S hr s.toks)) hd

theorem dbg_ok {pos : Pos} : EvOK prog w hb C n env ρ σ (.Name (Str.ofString "__debug__") pos) (.bool true) σ := by
  intro A s φ g E _ S R
  show wpAny _ A (standAt pos >>= fun _ => if (Str.ofString "__debug__" == Str.ofString "__debug__") = true then debugConstant else loadName env (Str.ofString "__debug__")) _ _ s
  refine wpAny_bind (wpAny_standAt ?_)
  rw [if_pos (by decide +kernel)]
  exact wpAny_bind (wpAny_rule (wpAny_pure (Post.here S (.bool true) s.toks)))

theorem Sim.hbk {φ : List Addr} {g : Part} {h : Heap} (S : Sim hb C φ σ g h) : ∀ a o, hb.get? a = some o → h.get? a = some o := fun a o e => S.keep a o (S.base a o e)

theorem glob_ok {mg : Str → Option Value} {x : Str} {v : Value} {d : V} {pos : Pos} (hg : hb.Ns mainGlobals mg) (hx : env.kindOf x = some .globalImplicit) (hm : mg x = some v) (hd : (x == ("__debug__" : Str)) = false)
    (hr : ∀ g φ, VR g φ v d) : EvOK prog w hb C n env ρ σ (.Name x pos) d σ := by
  intro A s φ g E _ S R
  refine Calls.Name_function_global R.kind hx ?_ hd
  exact Calls.loadGlobal_global (by rw [R.glob]; exact hg.keeps S.hbk) hm (Post.here S (hr g φ) s.toks)
theorem blt_ok {mg mb : Str → Option Value} {x : Str} {v : Value} {d : V} {pos : Pos} (hg : hb.Ns mainGlobals mg) (hbl : hb.Ns builtinsNs mb) (hx : env.kindOf x = some .globalImplicit) (hm : mg x = none) (hb' : mb x = some v) (hd : (x == ("__debug__" : Str)) = false)
    (hr : ∀ g φ, VR g φ v d) : EvOK prog w hb C n env ρ σ (.Name x pos) d σ := by
  intro A s φ g E _ S R
  refine Calls.Name_function_global R.kind hx ?_ hd
  exact Calls.loadGlobal_builtin (by rw [R.glob]; exact hg.keeps S.hbk) hm (by rw [R.bl]; exact hbl.keeps S.hbk) hb' (Post.here S (hr g φ) s.toks)

theorem two_ok {A : Around} {s : Shared} {φ : List Addr} {g : Part} {E : Value → Shared → Prop} {l r : Expr} {x y : V} {Q : Value → Value → Shared → Prop} (a : EvOK prog w hb C n env ρ σ l x σ₁) (b : EvOK prog w hb C n env ρ σ₁ r y σ₂) (hA : Rm n A) (S : Sim hb C φ σ g s.heap) (R : ER hb φ g s.heap env ρ)
    (k : ∀ v u s' φ' g', Grow φ g s.heap φ' g' s'.heap → Sim hb C φ' σ₂ g' s'.heap → ER hb φ' g' s'.heap env ρ → Rest s s' → VR g' φ' v x → VR g' φ' u y → Q v u s') :
    wpAny (model prog w) A (eval l env) (fun v s₁ => wpAny (model prog w) A (eval r env) (fun u s₂ => Q v u s₂) E s₁) E s := by
  refine wpAny_mono (a A s φ g E hA S R) (fun v s₁ h₁ => ?_) fun _ _ e => e
  obtain ⟨φ₁, g₁, G₁, S₁, V₁, T₁⟩ := h₁
  refine wpAny_mono (b A s₁ φ₁ g₁ E hA S₁ (R.grow G₁)) (fun u s₂ h₂ => ?_) fun _ _ e => e
  obtain ⟨φ₂, g₂, G₂, S₂, V₂, T₂⟩ := h₂
  exact k v u s₂ φ₂ g₂ (G₁.trans G₂) S₂ ((R.grow G₁).grow G₂) (T₁.trans T₂) (V₁.mono G₂.mono G₂.pre) V₂

theorem bin_ok {l r : Expr} {op : Operator} {pos : Pos} {x y d : V} (a : EvOK prog w hb C n env ρ σ l x σ₁) (b : EvOK prog w hb C n env ρ σ₁ r y σ₂)
    (h : ∀ A s φ g E v u, Rm n A → Sim hb C φ σ₂ g s.heap → VR g φ v x → VR g φ u y → wpAny (model prog w) A (binaryOp op v u) (Post hb C φ g s σ₂ d) E s) : EvOK prog w hb C n env ρ σ (.BinOp l op r pos) d σ₂ :=
  fun A s φ g E hA S R => wpAny_BinOp (two_ok a b hA S R fun v u s' φ' g' G' S' _ T' V' U' => wpAny_mono (h A s' φ' g' E v u hA S' V' U') (fun _ _ p => p.trans G' T') fun _ _ e => e)
theorem cmp_ok {l r : Expr} {op : CmpOp} {pos : Pos} {x y d : V} (a : EvOK prog w hb C n env ρ σ l x σ₁) (b : EvOK prog w hb C n env ρ σ₁ r y σ₂) (hm : behindInMarks op r = false)
    (h : ∀ A s φ g E v u, Rm n A → Sim hb C φ σ₂ g s.heap → VR g φ v x → VR g φ u y → wpAny (model prog w) A (compareOp op v u) (Post hb C φ g s σ₂ d) E s) : EvOK prog w hb C n env ρ σ (.Compare l [op] [r] pos) d σ₂ :=
  fun A s φ g E hA S R => wpAny_Compare1 (two_ok a b hA S R fun v u s' φ' g' G' S' _ T' V' U' => wpAny_mono (h A s' φ' g' E v u hA S' V' U') (fun _ _ p => p.trans G' T') fun _ _ e => e) hm
theorem sub_ok {l r : Expr} {pos : Pos} {x y d : V} (a : EvOK prog w hb C n env ρ σ l x σ₁) (b : EvOK prog w hb C n env ρ σ₁ r y σ₂)
    (h : ∀ A s φ g E v u, Rm n A → Sim hb C φ σ₂ g s.heap → VR g φ v x → VR g φ u y → wpAny (model prog w) A (subscriptTail l r v u) (Post hb C φ g s σ₃ d) E s) : EvOK prog w hb C n env ρ σ (.Subscript l r pos) d σ₃ :=
  fun A s φ g E hA S R => Subscript_ (two_ok a b hA S R fun v u s' φ' g' G' S' _ T' V' U' => wpAny_mono (h A s' φ' g' E v u hA S' V' U') (fun _ _ p => p.trans G' T') fun _ _ e => e)

theorem star_cons {e : Expr} {es : List Expr} {env : Env} (h : ∀ a p, e ≠ .Starred a p) : starEach (e :: es) env = (false, eval e env) :: starEach es env := by
  cases e <;> first | rfl | exact absurd rfl (h _ _)

theorem evs_nil : EvsOK prog w hb C n env ρ σ [] [] σ := fun _ s φ g _ _ _ S _ => wpAny_pure ⟨φ, g, Grow.refl .., S, .nil, Rest.refl s⟩
theorem evs_cons {e : Expr} {es : List Expr} {d : V} {ds : List V} (hs : ∀ a p, e ≠ .Starred a p) (a : EvOK prog w hb C n env ρ σ e d σ₁) (b : EvsOK prog w hb C n env ρ σ₁ es ds σ₂) : EvsOK prog w hb C n env ρ σ (e :: es) (d :: ds) σ₂ := by
  intro A s φ g E pos hA S R
  rw [star_cons hs]
  show wpAny _ A (spliced ((false, eval e env) :: backTo pos (starEach es env))) _ _ s
  rw [spliced]
  refine wpAny_bind (wpAny_mono (a A s φ g E hA S R) (fun v s₁ h₁ => ?_) fun _ _ e => e)
  obtain ⟨φ₁, g₁, G₁, S₁, V₁, T₁⟩ := h₁
  simp only [Bool.false_eq_true, if_false]
  refine wpAny_bind (wpAny_pure (wpAny_bind (wpAny_holding (wpAny_mono (b A s₁ φ₁ g₁ E pos hA S₁ (R.grow G₁)) (fun vs s₂ h₂ => ?_) fun _ _ e => e))))
  obtain ⟨φ₂, g₂, G₂, S₂, V₂, T₂⟩ := h₂
  exact wpAny_pure ⟨φ₂, g₂, G₁.trans G₂, S₂, .cons (V₁.mono G₂.mono G₂.pre) V₂, T₁.trans T₂⟩

theorem newSeq_tuple {A : Around} {s : Shared} {φ : List Addr} {g : Part} {E : Value → Shared → Prop} {vs : List Value} {ds : List V} (S : Sim hb C φ σ g s.heap) (h : VRs g φ vs ds) (hl : ds.length ≤ 1000) : wpAny (model prog w) A (newTuple vs) (Post hb C φ g s σ (.tuple ds)) E s := by
  refine wpAny_newObj_type ?_ (by show vs.toArray.size ≤ sizeLine; rw [List.size_toArray, h.length]; exact Nat.le_trans hl (by decide))
  obtain ⟨S', G'⟩ := S.put (fresh_none s.heap) (Heap.get?_push_size _ (o := { cls := .type "tuple", data := .seq vs.toArray }) rfl) fun b o e => Heap.get?_push_of_some _ e
  exact ⟨φ, _, G', S', .tuple (by unfold putG; rw [if_pos rfl]) rfl rfl (h.mono G'.mono G'.pre), ⟨_, _, rfl⟩⟩
theorem newSeq_list {A : Around} {s : Shared} {φ : List Addr} {g : Part} {E : Value → Shared → Prop} {vs : List Value} {ds : List V} (S : Sim hb C φ σ g s.heap) (h : VRs g φ vs ds) (hl : ds.length ≤ 1000) : wpAny (model prog w) A (newList vs) (Post hb C φ g s σ (.list ds)) E s := by
  refine wpAny_newObj_type ?_ (by show vs.toArray.size ≤ sizeLine; rw [List.size_toArray, h.length]; exact Nat.le_trans hl (by decide))
  obtain ⟨S', G'⟩ := S.put (fresh_none s.heap) (Heap.get?_push_size _ (o := { cls := .type "list", data := .seq vs.toArray }) rfl) fun b o e => Heap.get?_push_of_some _ e
  exact ⟨φ, _, G', S', .list (by unfold putG; rw [if_pos rfl]) rfl rfl (h.mono G'.mono G'.pre), ⟨_, _, rfl⟩⟩

theorem Sim.lst {s : Shared} {h' : Heap} {tk : Nat} {φ : List Addr} {g : Part} {a : Addr} {vs : List Value} {ds : List V} {own : Bool} {d : V} {σ' : Store} (S : Sim hb C φ σ g s.heap) (e : newL own ds σ = some (d, σ')) (hn : s.heap.get? a = none) (ha : h'.PlainList a vs.toArray) (hk : ∀ b o, s.heap.get? b = some o → h'.get? b = some o) (h : VRs g φ vs ds) :
    Post hb C φ g s σ' d (.ref a) { s with heap := h', toks := tk } := by
  unfold newL at e
  split at e
  · split at e
    · cases e
      obtain ⟨S', G'⟩ := S.more (x := .lst ds) hn hk ⟨vs, ha, h.mono (fun _ _ e => e) (List.prefix_append ..)⟩
      refine ⟨_, _, G', S', .own ?_, ⟨_, _, rfl⟩⟩
      rw [← S.len, List.getElem?_append_right (Nat.le_refl _)]; simp
    · cases e
      obtain ⟨o, ho, hc, m, hd⟩ := ha.isList
      obtain ⟨S', G'⟩ := S.put hn ho hk
      exact ⟨φ, _, G', S', .list (by unfold putG; rw [if_pos rfl]) hc hd (h.mono G'.mono G'.pre), ⟨_, _, rfl⟩⟩
  · cases e

theorem tuple_ok {es : List Expr} {k : Nat} {pos : Pos} {ds : List V} (a : EvsOK prog w hb C n env ρ σ es ds σ₁) (hl : ds.length ≤ 1000) : EvOK prog w hb C n env ρ σ (.Tuple es k pos) (.tuple ds) σ₁ := by
  intro A s φ g E hA S R
  refine Tuple_ (wpAny_mono (a A s φ g E pos hA S R) (fun vs s₁ h₁ => ?_) fun _ _ e => e)
  obtain ⟨φ₁, g₁, G₁, S₁, V₁, T₁⟩ := h₁
  exact wpAny_mono (newSeq_tuple S₁ V₁ hl) (fun _ _ p => p.trans G₁ T₁) fun _ _ e => e
theorem newL_len {own : Bool} {ds : List V} {d : V} {σ' : Store} (e : newL own ds σ = some (d, σ')) : ds.length ≤ 1000 := by
  unfold newL at e; split at e
  · assumption
  · cases e
theorem list_ok {es : List Expr} {pos : Pos} {ds : List V} {own : Bool} {d : V} (a : EvsOK prog w hb C n env ρ σ es ds σ₁) (e : newL own ds σ₁ = some (d, σ₂)) : EvOK prog w hb C n env ρ σ (.List es pos) d σ₂ := by
  intro A s φ g E hA S R
  refine List_ (wpAny_mono (a A s φ g E pos hA S R) (fun vs s₁ h₁ => ?_) fun _ _ e => e)
  obtain ⟨φ₁, g₁, G₁, S₁, V₁, T₁⟩ := h₁
  refine wpAny_newObj_type ?_ (by show vs.toArray.size ≤ sizeLine; rw [List.size_toArray, V₁.length]; exact Nat.le_trans (newL_len e) (by decide))
  refine Post.trans G₁ T₁ (S₁.lst (tk := s₁.toks) e (fresh_none _) ⟨_, Heap.get?_push_size _ rfl⟩ (fun b o e => Heap.get?_push_of_some _ e) V₁)
end
end Mine

namespace Mine

section
variable {prog : Program} {w : World} {hb : Heap} {C : Addr} {n : Nat} {σ : Store} {A : Around} {s : Shared} {φ : List Addr} {g : Part} {E : Value → Shared → Prop}

theorem lst_at {d : V} {v : Value} {ds : List V} (S : Sim hb C φ σ g s.heap) (h : VR g φ v d) (e : lstOf σ d = some ds) : ∃ a, ∃ vs : List Value, v = .ref a ∧ s.heap.IsList a vs.toArray ∧ VRs g φ vs ds := by
  cases h with
  | list ho hc hd hr =>
    cases e
    exact ⟨_, _, rfl, ⟨_, S.keep _ _ ho, hc, _, hd⟩, hr⟩
  | @own k a hk =>
    have e' : ownLst σ k = some ds := e
    unfold ownLst at e'
    split at e'
    · rename_i vs q
      cases e'
      obtain ⟨vs, hl, hr⟩ := S.own _ _ _ hk q
      exact ⟨_, vs, rfl, hl.isList, hr⟩
    · cases e'
  | _ => cases e
theorem lst_seq {d : V} {ds : List V} (e : lstOf σ d = some ds) : seqOf σ d = some ds := by
  cases d <;> first | exact e | cases e
theorem tup_at {v : Value} {ds : List V} (S : Sim hb C φ σ g s.heap) (h : VR g φ v (.tuple ds)) : ∃ a, ∃ vs : List Value, v = .ref a ∧ IsTup s.heap a vs.toArray ∧ VRs g φ vs ds := by
  cases h with
  | tuple ho hc hd hr => exact ⟨_, _, rfl, ⟨_, S.keep _ _ ho, hc, _, hd⟩, hr⟩
theorem seq_at {d : V} {v : Value} {ds : List V} (S : Sim hb C φ σ g s.heap) (h : VR g φ v d) (e : seqOf σ d = some ds) : ∃ a, ∃ vs : List Value, v = .ref a ∧ (s.heap.IsList a vs.toArray ∨ IsTup s.heap a vs.toArray) ∧ VRs g φ vs ds := by
  cases d with
  | tuple ws => cases e; obtain ⟨a, vs, rfl, h1, h2⟩ := tup_at S h; exact ⟨a, vs, rfl, .inr h1, h2⟩
  | list ws => obtain ⟨a, vs, rfl, h1, h2⟩ := lst_at S h e; exact ⟨a, vs, rfl, .inl h1, h2⟩
  | own k => obtain ⟨a, vs, rfl, h1, h2⟩ := lst_at S h e; exact ⟨a, vs, rfl, .inl h1, h2⟩
  | _ => cases e

theorem lst_of_thawed {d : V} {ds : List V} (e : thawed σ d = .list ds) : lstOf σ d = some ds := by
  cases d with
  | list vs => cases e; rfl
  | own k =>
    show ownLst σ k = some ds
    cases h : ownLst σ k with
    | none => simp [thawed, h] at e
    | some vs => simp [thawed, h] at e; rw [e]
  | _ => cases e

theorem add_lst {x y : V} {v u : Value} {xs ys : List V} (S : Sim hb C φ σ g s.heap) (hv : VR g φ v x) (hu : VR g φ u y) (ex : lstOf σ x = some xs) (ey : lstOf σ y = some ys) (hl : xs.length + ys.length ≤ 1000) :
    wpAny (model prog w) A (binaryOp .Add v u) (Post hb C φ g s σ (.list (xs ++ ys))) E s := by
  obtain ⟨l, vs, rfl, h1, r1⟩ := lst_at S hv ex
  obtain ⟨b, ws, rfl, h2, r2⟩ := lst_at S hu ey
  obtain ⟨⟨cls, dd, data, sl⟩, ho, hc, m, hd⟩ := id h1
  obtain ⟨⟨cls2, dd2, data2, sl2⟩, ho2, hc2, m2, hd2⟩ := id h2
  simp only at hc hd hc2 hd2
  subst hc hd hc2 hd2
  have e : vs.toArray ++ ws.toArray = (vs ++ ws).toArray := by simp
  refine concat_meets ⟨_, ho, rfl⟩ ⟨_, ho2, rfl⟩ noFill_list_add seq_list_add PySem.F.slot_list_add PySem.F.entry_list_add (PySem.F.args_list_add_2 _ _)
    (list_addW l b vs.toArray ws.toArray m m2 dd dd2 sl sl2 (by rw [List.size_toArray, List.size_toArray, r1.length, r2.length]; exact Nat.le_trans hl (by decide))) ⟨ho, ho2, ?_⟩
  rw [e]
  obtain ⟨S', G'⟩ := S.put (fresh_none s.heap) (Heap.get?_push_size _ (o := { cls := .type "list", data := .seq (vs ++ ws).toArray }) rfl) fun b o e => Heap.get?_push_of_some _ e
  exact ⟨φ, _, G', S', .list (by unfold putG; rw [if_pos rfl]) rfl rfl ((r1.append r2).mono G'.mono G'.pre), ⟨_, _, rfl⟩⟩

theorem bin_op {op : Operator} {x y d : V} {v u : Value} (e : binV σ op x y = some d) (S : Sim hb C φ σ g s.heap) (hv : VR g φ v x) (hu : VR g φ u y) : wpAny (model prog w) A (binaryOp op v u) (Post hb C φ g s σ d) E s := by
  have two : ∀ {f : Int → Int → Option V}, (intK x fun a => intK y fun b => f a b) = some d → ∃ a b t t', v = .int a t ∧ u = .int b t' ∧ f a b = some d := fun {f} h => by
    obtain ⟨a, rfl, h1⟩ := intK_inv h
    obtain ⟨b, rfl, h2⟩ := intK_inv h1
    obtain ⟨t, rfl⟩ := hv.ofInt
    obtain ⟨t', rfl⟩ := hu.ofInt
    exact ⟨a, b, t, t', rfl, rfl, h2⟩
  cases op with
  | Add =>
    rcases Option.or_eq_some_iff.mp (show (intK x fun a => intK y fun b => some (V.int (a + b))).or _ = some d from e) with e1 | ⟨-, e1⟩
    · obtain ⟨a, b, t, t', rfl, rfl, e2⟩ := two e1
      cases e2; exact add_int (Post.here S (.int _ _) _)
    · obtain ⟨xs, h1, e3⟩ := listK_inv e1
      obtain ⟨ys, h2, e4⟩ := listK_inv e3
      split at e4
      · rename_i hl; cases e4; exact add_lst S hv hu (lst_of_thawed h1) (lst_of_thawed h2) hl
      · cases e4
  | Sub =>
    obtain ⟨a, b, t, t', rfl, rfl, e5⟩ := two e
    cases e5; exact sub_int (Post.here S (.int _ _) _)
  | FloorDiv =>
    obtain ⟨a, b, t, t', rfl, rfl, e6⟩ := two e
    split at e6
    · cases e6
    · rename_i hb'; cases e6
      exact floordiv_int (fun q => hb' (.inl q)) (Post.here S (.int _ _) _) (.inl (PyProof.noPylong_small (by omega)))
  | Mod =>
    obtain ⟨a, b, t, t', rfl, rfl, e7⟩ := two e
    split at e7
    · cases e7
    · rename_i hb'; cases e7; exact mod_int hb' (Post.here S (.int _ _) _)
  | _ => cases e
end

mutual
noncomputable def toPy : V → PyData
  | .none => .none
  | .bool b => .bool b
  | .int i => .int i
  | .str x => .str (strV x)
  | .tuple vs => .tuple (toPys vs)
  | .list vs => .list (toPys vs)
  | _ => .none
noncomputable def toPys : List V → List PyData
  | [] => []
  | v :: r => toPy v :: toPys r
end
mutual
theorem toPy_lay : ∀ (v : V), v.plain = true → (toPy v).canLay0 = true ∧ (toPy v).depth ≤ v.deep + 1
  | .none, _ => by simp [toPy, PyData.canLay0, PyData.depth]
  | .bool _, h => by simp [V.plain] at h
  | .int _, _ => by simp [toPy, PyData.canLay0, PyData.depth]
  | .str x, h => by
    simp only [V.plain] at h
    refine ⟨?_, by simp [toPy, PyData.depth]⟩
    show (strV x).cps.all (· < 0x110000) = true
    rw [← h]; simp [strV]
  | .tuple vs, h => by
    have := toPys_lay vs (by simpa [V.plain] using h)
    simp only [toPy, PyData.canLay0, PyData.depth, V.deep, this.1, true_and]
    have := this.2; omega
  | .list vs, h => by
    have := toPys_lay vs (by simpa [V.plain] using h)
    simp only [toPy, PyData.canLay0, PyData.depth, V.deep, this.1, true_and]
    have := this.2; omega
  | .own _, h => by simp [V.plain] at h
  | .gl _, h => by simp [V.plain] at h
  | .ty _, h => by simp [V.plain] at h
  | .rng .., h => by simp [V.plain] at h
  | .items _, h => by simp [V.plain] at h
theorem toPys_lay : ∀ (vs : List V), V.plains vs = true → PyData.canLayAll0 (toPys vs) = true ∧ PyData.depthAll (toPys vs) ≤ V.deeps vs + 1
  | [], _ => by simp [toPys, PyData.canLayAll0, PyData.depthAll]
  | v :: r, h => by
    simp only [V.plains, Bool.and_eq_true] at h
    have h1 := toPy_lay v h.1
    have h2 := toPys_lay r h.2
    simp only [toPys, PyData.canLayAll0, PyData.depthAll, V.deeps, h1.1, h2.1, Bool.and_self, true_and]
    have := h1.2; have := h2.2; omega
end
theorem strV_inj {x y : List Nat} : (strV x == strV y) = (x == y) := by
  rw [Bool.eq_iff_iff]; simp [strV]
mutual
theorem toPy_eqv : ∀ (v u : V), v.plain = true → u.plain = true → PyData.eqv (toPy v) (toPy u) = V.eqb v u
  | .none, u, _, h => by cases u <;> first | rfl | cases h
  | .bool _, _, h, _ => by cases h
  | .int _, u, _, h => by cases u <;> first | rfl | cases h
  | .str _, u, _, h => by cases u <;> first | rfl | (cases h; done) | exact strV_inj
  | .tuple vs, u, h, h' => by
    cases u with
    | tuple us => exact toPys_eqv vs us h h'
    | _ => first | rfl | cases h'
  | .list vs, u, h, h' => by
    cases u with
    | list us => exact toPys_eqv vs us h h'
    | _ => first | rfl | cases h'
  | .own _, _, h, _ => by cases h
  | .gl _, _, h, _ => by cases h
  | .ty _, _, h, _ => by cases h
  | .rng .., _, h, _ => by cases h
  | .items _, _, h, _ => by cases h
theorem toPys_eqv : ∀ (vs us : List V), V.plains vs = true → V.plains us = true → PyData.eqvAll (toPys vs) (toPys us) = V.eqbs vs us
  | [], us, _, _ => by cases us <;> rfl
  | v :: r, us, h, h' => by
    cases us with
    | nil => rfl
    | cons u q =>
      have h : (v.plain && V.plains r) = true := h
      have h' : (u.plain && V.plains q) = true := h'
      rw [Bool.and_eq_true] at h h'
      show (PyData.eqv (toPy v) (toPy u) && PyData.eqvAll (toPys r) (toPys q)) = (V.eqb v u && V.eqbs r q)
      rw [toPy_eqv v u h.1 h'.1, toPys_eqv r q h.2 h'.2]
end
theorem VR.reads {g : Part} {φ : List Addr} {h : Heap} (hk : ∀ a o, g a = some o → h.get? a = some o) {v : Value} {d : V} (r : VR g φ v d) : d.plain = true → ∃ as, Reads h v (toPy d) as :=
  VR.rec (motive_1 := fun v d _ => d.plain = true → ∃ as, Reads h v (toPy d) as) (motive_2 := fun vs ds _ => V.plains ds = true → ∃ as, ReadsAll h vs (toPys ds) as)
    (fun _ => ⟨_, .none⟩) (fun _ e => absurd e nofun) (fun i t _ => ⟨_, .int i t⟩) (fun x t _ => ⟨_, .str (strV x) t⟩)
    (fun ho hc hd _ ih e => let ⟨as, q⟩ := ih e; ⟨as, reads_tuple_at (hk _ _ ho) hc hd (by simpa using q)⟩)
    (fun ho hc hd _ ih e => let ⟨as, q⟩ := ih e; ⟨_, reads_list_at (hk _ _ ho) hc hd (by simpa using q)⟩)
    (fun _ e => absurd e nofun) (fun _ e => absurd e nofun) (fun _ e => absurd e nofun) (fun _ _ e => absurd e nofun) (fun _ _ _ e => absurd e nofun)
    (fun _ => ⟨_, .nil⟩) (fun {v vs d ds} _ _ i1 i2 e => by
      have e : (d.plain && V.plains ds) = true := e
      rw [Bool.and_eq_true] at e
      obtain ⟨as, q⟩ := i1 e.1
      obtain ⟨bs, p⟩ := i2 e.2
      exact ⟨_, .cons q p⟩) r
theorem VRs.reads {g : Part} {φ : List Addr} {h : Heap} (hk : ∀ a o, g a = some o → h.get? a = some o) {vs : List Value} {ds : List V} (r : VRs g φ vs ds) (e : V.plains ds = true) : ∃ as, ReadsAll h vs (toPys ds) as := by
  induction vs generalizing ds with
  | nil => cases r; exact ⟨_, .nil⟩
  | cons v vs ih => cases r with | @cons _ _ d ds h r =>
    have e : (d.plain && V.plains ds) = true := e
    rw [Bool.and_eq_true] at e
    obtain ⟨as, q⟩ := VR.reads hk h e.1
    obtain ⟨bs, p⟩ := ih r e.2
    exact ⟨_, .cons q p⟩

section
variable {prog : Program} {w : World} {hb : Heap} {C : Addr} {n : Nat} {σ : Store} {A : Around} {s : Shared} {φ : List Addr} {g : Part} {E : Value → Shared → Prop}

theorem reads_thawed {d : V} {v : Value} (S : Sim hb C φ σ g s.heap) (h : VR g φ v d) (hp : (thawed σ d).plain = true) : ∃ as, Reads s.heap v (toPy (thawed σ d)) as := by
  cases d with
  | own k =>
    cases e : ownLst σ k with
    | none => simp [thawed, e, V.plain] at hp
    | some vs =>
      have ht : thawed σ (.own k) = .list vs := by simp [thawed, e]
      rw [ht] at hp ⊢
      obtain ⟨a, ws, rfl, ⟨o, ho, hc, m, hd⟩, hr⟩ := lst_at S h (show lstOf σ (.own k) = some vs from e)
      obtain ⟨as, q⟩ := hr.reads S.keep (by simpa [V.plain] using hp)
      simp only [toPy]
      exact ⟨_, reads_list_at ho hc hd (by simpa using q)⟩
  | _ => exact h.reads S.keep hp

theorem shaped_of {d : V} (hp : d.plain = true) (hd : d.deep ≤ 8) : SeqAt.shaped (toPy d) = true := by
  have := toPy_lay d hp
  unfold SeqAt.shaped
  rw [this.1, Bool.true_and]
  exact decide_eq_true (by have := this.2; omega)

theorem eq_op {x y : V} {v u : Value} {b : Bool} (e : eqV (thawed σ x) (thawed σ y) = some b) (hA : Rm n A) (S : Sim hb C φ σ g s.heap) (hv : VR g φ v x) (hu : VR g φ u y) {Q : Value → Shared → Prop} (q : Q (.bool b) s) : wpAny (model prog w) A (compareOp .Eq v u) Q E s := by
  unfold eqV at e
  split at e
  · rename_i p q' h1 h2
    cases e
    have hx : x = .bool p := by
      cases x with
      | own k => unfold thawed at h1; cases h : ownLst σ k <;> simp [h] at h1
      | _ => first | exact h1 | cases h1
    have hy : y = .bool q' := by
      cases y with
      | own k => unfold thawed at h2; cases h : ownLst σ k <;> simp [h] at h2
      | _ => first | exact h2 | cases h2
    subst hx hy
    cases hv; cases hu
    exact eq_bool q
  · split at e
    · rename_i hp
      simp only [Bool.and_eq_true, decide_eq_true_eq] at hp
      obtain ⟨⟨⟨p1, p2⟩, d1⟩, d2⟩ := hp
      cases e
      obtain ⟨as, r1⟩ := reads_thawed S hv p1
      obtain ⟨bs, r2⟩ := reads_thawed S hu p2
      refine eq_dataH r1 r2 (shaped_of p1 d1) (shaped_of p2 d2) (by have := hA.units; omega) ?_
      rw [toPy_eqv _ _ p1 p2]; exact q
    · cases e
theorem ne_op {x y : V} {v u : Value} {b : Bool} (e : eqV (thawed σ x) (thawed σ y) = some b) (hA : Rm n A) (S : Sim hb C φ σ g s.heap) (hv : VR g φ v x) (hu : VR g φ u y) {Q : Value → Shared → Prop} (q : Q (.bool !b) s) : wpAny (model prog w) A (compareOp .NotEq v u) Q E s := by
  unfold eqV at e
  split at e
  · rename_i p q' h1 h2
    cases e
    have hx : x = .bool p := by
      cases x with
      | own k => unfold thawed at h1; cases h : ownLst σ k <;> simp [h] at h1
      | _ => first | exact h1 | cases h1
    have hy : y = .bool q' := by
      cases y with
      | own k => unfold thawed at h2; cases h : ownLst σ k <;> simp [h] at h2
      | _ => first | exact h2 | cases h2
    subst hx hy
    cases hv; cases hu
    exact ne_bool q
  · split at e
    · rename_i hp
      simp only [Bool.and_eq_true, decide_eq_true_eq] at hp
      obtain ⟨⟨⟨p1, p2⟩, d1⟩, d2⟩ := hp
      cases e
      obtain ⟨as, r1⟩ := reads_thawed S hv p1
      obtain ⟨bs, r2⟩ := reads_thawed S hu p2
      refine ne_dataH r1 r2 (shaped_of p1 d1) (shaped_of p2 d2) (by have := hA.units; omega) ?_
      rw [toPy_eqv _ _ p1 p2]; exact q
    · cases e
theorem any_eqv : ∀ (vs : List V) (x : V), V.plains vs = true → x.plain = true → ((toPys vs).any fun y => PyData.eqv y (toPy x)) = vs.any fun y => V.eqb y x
  | [], _, _, _ => rfl
  | v :: r, x, h, hx => by
    simp only [V.plains, Bool.and_eq_true] at h
    simp only [toPys, List.any_cons, toPy_eqv v x h.1 hx, any_eqv r x h.2 hx]
theorem in_op {x : V} {vs : List V} {v u : Value} {b : Bool} (e : inV x vs = some b) (hA : Rm n A) (S : Sim hb C φ σ g s.heap) (hv : VR g φ v x) (hu : VR g φ u (.list vs)) {Q : Value → Shared → Prop} (q : Q (.bool b) s) : wpAny (model prog w) A (compareOp .In v u) Q E s := by
  unfold inV at e
  split at e
  · rename_i hp
    simp only [Bool.and_eq_true, decide_eq_true_eq] at hp
    obtain ⟨⟨⟨p1, p2⟩, d1⟩, d2⟩ := hp
    cases e
    obtain ⟨as, r1⟩ := hu.reads S.keep (by simpa [V.plain] using p2)
    obtain ⟨bs, r2⟩ := hv.reads S.keep p1
    simp only [toPy] at r1
    have l1 := toPys_lay vs p2
    have l2 := toPy_lay x p1
    refine SeqAt.in_list_reads r1 r2 l1.1 l2.1 ?_ (by rw [any_eqv vs x p2 p1]; exact q)
    have := hA.units
    have := Nat.min_le_right (PyData.depthAll (toPys vs)) (toPy x).depth
    have := l2.2
    omega
  · cases e
theorem notIn_op {x : V} {vs : List V} {v u : Value} {b : Bool} (e : inV x vs = some b) (hA : Rm n A) (S : Sim hb C φ σ g s.heap) (hv : VR g φ v x) (hu : VR g φ u (.list vs)) {Q : Value → Shared → Prop} (q : Q (.bool !b) s) : wpAny (model prog w) A (compareOp .NotIn v u) Q E s := by
  unfold inV at e
  split at e
  · rename_i hp
    simp only [Bool.and_eq_true, decide_eq_true_eq] at hp
    obtain ⟨⟨⟨p1, p2⟩, d1⟩, d2⟩ := hp
    cases e
    obtain ⟨as, r1⟩ := hu.reads S.keep (by simpa [V.plain] using p2)
    obtain ⟨bs, r2⟩ := hv.reads S.keep p1
    simp only [toPy] at r1
    have l1 := toPys_lay vs p2
    have l2 := toPy_lay x p1
    refine SeqAt.notIn_list_reads r1 r2 l1.1 l2.1 ?_ (by rw [any_eqv vs x p2 p1]; exact q)
    have := hA.units
    have := Nat.min_le_right (PyData.depthAll (toPys vs)) (toPy x).depth
    have := l2.2
    omega
  · cases e

theorem is_none {x : V} {v : Value} (hv : VR g φ v x) : plainIs v .none = true ∧ (v == .none) = x.isNone := by
  cases hv <;> exact ⟨rfl, rfl⟩

theorem none_of {x : V} (h : x.isNone = true) : x = .none := vNone_inv h
theorem lt_inv {x y d : V} (e : cmpV σ .Lt x y = some d) : ∃ i j, x = .int i ∧ y = .int j ∧ d = .bool (i < j) := by
  obtain ⟨i, rfl, e1⟩ := intK_inv e
  obtain ⟨j, rfl, e2⟩ := intK_inv e1
  cases e2; exact ⟨i, j, rfl, rfl, rfl⟩
theorem in_inv {x y d : V} (e : cmpV σ .In x y = some d) : ∃ vs, y = .list vs ∧ (inV x vs).map .bool = some d := listK_inv e
theorem notIn_inv {x y d : V} (e : cmpV σ .NotIn x y = some d) : ∃ vs, y = .list vs ∧ (inV x vs).map (fun x => V.bool !x) = some d := listK_inv e
theorem is_inv {x y d : V} (e : cmpV σ .Is x y = some d) : (y = .none ∧ d = .bool x.isNone) ∨ ∃ a b, x = .ty a ∧ y = .ty b ∧ d = .bool (a == b) := by
  have e : (if y.isNone then some (V.bool x.isNone) else tyK x fun a => tyK y fun b => some (.bool (a == b))) = some d := e
  split at e
  · rename_i h; cases e; exact .inl ⟨none_of h, rfl⟩
  · obtain ⟨a, rfl, e1⟩ := tyK_inv e
    obtain ⟨b, rfl, e2⟩ := tyK_inv e1
    cases e2; exact .inr ⟨a, b, rfl, rfl, rfl⟩
theorem isNot_inv {x y d : V} (e : cmpV σ .IsNot x y = some d) : (y = .none ∧ d = .bool !x.isNone) ∨ ∃ a b, x = .ty a ∧ y = .ty b ∧ d = .bool (a != b) := by
  have e : (if y.isNone then some (V.bool !x.isNone) else tyK x fun a => tyK y fun b => some (.bool (a != b))) = some d := e
  split at e
  · rename_i h; cases e; exact .inl ⟨none_of h, rfl⟩
  · obtain ⟨a, rfl, e1⟩ := tyK_inv e
    obtain ⟨b, rfl, e2⟩ := tyK_inv e1
    cases e2; exact .inr ⟨a, b, rfl, rfl, rfl⟩
theorem cmp_op {op : CmpOp} {x y d : V} {v u : Value} (e : cmpV σ op x y = some d) (hA : Rm n A) (S : Sim hb C φ σ g s.heap) (hv : VR g φ v x) (hu : VR g φ u y) : wpAny (model prog w) A (compareOp op v u) (Post hb C φ g s σ d) E s := by
  cases op with
  | Eq =>
    obtain ⟨b, hb', rfl⟩ := Option.map_eq_some_iff.mp e
    exact eq_op hb' hA S hv hu (Post.here S (.bool b) s.toks)
  | NotEq =>
    obtain ⟨b, hb', rfl⟩ := Option.map_eq_some_iff.mp e
    exact ne_op hb' hA S hv hu (Post.here S (.bool !b) s.toks)
  | Lt =>
    obtain ⟨i, j, rfl, rfl, rfl⟩ := lt_inv e
    cases hv with | int i t => cases hu with | int j t' => exact lt_int (Post.here S (.bool _) s.toks)
  | In =>
    obtain ⟨vs, rfl, e⟩ := in_inv e
    obtain ⟨b, hb', rfl⟩ := Option.map_eq_some_iff.mp e
    exact in_op hb' hA S hv hu (Post.here S (.bool b) s.toks)
  | NotIn =>
    obtain ⟨vs, rfl, e⟩ := notIn_inv e
    obtain ⟨b, hb', rfl⟩ := Option.map_eq_some_iff.mp e
    exact notIn_op hb' hA S hv hu (Post.here S (.bool !b) s.toks)
  | Is =>
    rcases is_inv e with ⟨rfl, rfl⟩ | ⟨a, b, rfl, rfl, rfl⟩
    · cases hu
      obtain ⟨h1, h2⟩ := is_none hv
      refine wpAny_is_plain h1 ?_
      rw [h2]
      exact Post.here S (.bool _) s.toks
    · cases hv; cases hu
      refine wpAny_is_plain rfl ?_
      have : (Value.type a == Value.type b) = (a == b) := by rw [Bool.eq_iff_iff]; simp
      rw [this]; exact Post.here S (.bool _) s.toks
  | IsNot =>
    rcases isNot_inv e with ⟨rfl, rfl⟩ | ⟨a, b, rfl, rfl, rfl⟩
    · cases hu
      obtain ⟨h1, h2⟩ := is_none hv
      refine wpAny_isNot_plain h1 ?_
      rw [h2]
      exact Post.here S (.bool _) s.toks
    · cases hv; cases hu
      refine wpAny_isNot_plain rfl ?_
      have : (!(Value.type a == Value.type b)) = (a != b) := by rw [Bool.eq_iff_iff]; simp
      rw [this]; exact Post.here S (.bool _) s.toks
  | _ => cases e
end
end Mine

namespace Mine

section
variable {prog : Program} {w : World} {hb : Heap} {C : Addr} {n : Nat} {σ : Store} {A : Around} {s : Shared} {φ : List Addr} {g : Part} {E : Value → Shared → Prop}

theorem seqAt_some {α : Type} {vs : List α} {k : Int} {x : α} (e : seqAt vs k = some x) : -1000000 ≤ k ∧ k ≤ 1000000 ∧ ∃ j, seqIndex? k vs.length = some j ∧ vs[j]? = some x := by
  unfold seqAt at e
  split at e
  · rename_i h
    obtain ⟨j, h1, h2⟩ := Option.bind_eq_some_iff.mp e
    exact ⟨h.1, h.2, j, h1, h2⟩
  · cases e
theorem seqIndex_cases {k : Int} {len j : Nat} (e : seqIndex? k len = some j) : (0 ≤ k ∧ j = k.toNat ∧ j < len) ∨ (k < 0 ∧ -(len : Int) ≤ k ∧ j = (k + len).toNat ∧ j < len) := by
  unfold seqIndex? at e
  by_cases hk : k < 0
  · simp only [hk, if_true] at e
    split at e
    · rename_i h
      simp only [Bool.and_eq_true, decide_eq_true_eq] at h
      cases e
      exact .inr ⟨hk, by omega, rfl, by omega⟩
    · cases e
  · simp only [hk, if_false] at e
    split at e
    · rename_i h
      simp only [Bool.and_eq_true, decide_eq_true_eq] at h
      cases e
      exact .inl ⟨by omega, rfl, by omega⟩
    · cases e

noncomputable def noSlice (e : Expr) : Bool := decide (e.ctorIdx ≠ 26)
theorem subscripted_plain {sl : Expr} {o i : Value} (h : noSlice sl = true) : subscripted sl false o i = operate [o, i] (getItem o i) := by
  cases sl <;> first | rfl | cases (show false = true from h)

theorem idx_op {x y d : V} {v u : Value} {l r : Expr} (hr : noSlice r = true) (e : idxV σ x y = some d) (S : Sim hb C φ σ g s.heap) (hv : VR g φ v x) (hu : VR g φ u y) : wpAny (model prog w) A (subscriptTail l r v u) (Post hb C φ g s σ d) E s := by
  obtain ⟨k, rfl, e1⟩ := intK_inv (show (intK y _ = some d) from e)
  cases hu with | int _ t =>
  rcases Option.or_eq_some_iff.mp e1 with e2 | ⟨-, e2⟩
  · obtain ⟨x', rfl, e3⟩ := strK_inv e2
    obtain ⟨c, hc, rfl⟩ := Option.map_eq_some_iff.mp e3
    obtain ⟨lo, hi, j, hj, hx⟩ := seqAt_some hc
    cases hv with | str _ tk =>
    refine tail_any (typeIs_str s _ tk) PySem.F.slot_str_getitem.lookup (P.getItem_str (c := c) ?_ ?_ ?_) (subscripted_plain hr)
    · simp; omega
    · have e1 : (strV x').length = x'.length := by simp [strV, Str.length]
      rw [e1, hj]
      simpa [strV] using hx
    · exact Post.here S (.str [c] _) _
  · obtain ⟨ds, hd, hx⟩ := Option.bind_eq_some_iff.mp e2
    obtain ⟨lo, hi, j, hj, hx⟩ := seqAt_some hx
    obtain ⟨a, vs, rfl, hl, hr'⟩ := seq_at S hv hd
    obtain ⟨y, hy, hvr⟩ := hr'.get hx
    rcases hl with hl | ht
    · rcases seqIndex_cases hj with ⟨k0, rfl, _⟩ | ⟨k0, k1, rfl, _⟩
      · refine tail_any hl.typeIs slot_list_getitem.lookup (wpAny_getItem_list hl k0 (by omega) (by simpa using hy) (Post.here S hvr s.toks)) (subscripted_plain hr)
      · have e1 : vs.toArray.size = ds.length := by rw [List.size_toArray, hr'.length]
        refine tail_any hl.typeIs slot_list_getitem.lookup (wpAny_getItem_list_neg hl k0 (by rw [e1]; exact k1) (by omega) (by rw [e1]; simpa using hy) (Post.here S hvr s.toks)) (subscripted_plain hr)
    · refine item_tupleT ht (by omega) (by omega) (by rw [hr'.length]; exact hj) hy (Post.here S hvr s.toks) (subscripted_plain hr)

theorem truth_op {x : V} {v : Value} {b : Bool} {Q : Bool → Shared → Prop} (e : truthV σ x = some b) (S : Sim hb C φ σ g s.heap) (hv : VR g φ v x) (q : ∀ tk, Q b { s with toks := tk }) : wpAny (model prog w) A (truthy v) Q E s := by
  have seq : ∀ {x : V} {v : Value}, VR g φ v x → ((seqOf σ x).bind fun vs => if vs.length ≤ 1000 then some !vs.isEmpty else none) = some b → wpAny (model prog w) A (truthy v) Q E s := by
    intro x v hv e
    obtain ⟨ds, hd, hx⟩ := Option.bind_eq_some_iff.mp e
    split at hx
    · rename_i hl
      cases hx
      obtain ⟨a, vs, rfl, hl', hr⟩ := seq_at S hv hd
      have hsz : vs.toArray.size = ds.length := by rw [List.size_toArray, hr.length]
      have hem : vs.toArray.isEmpty = ds.isEmpty := by
        cases vs with
        | nil => cases hr; rfl
        | cons _ _ => cases hr; simp
      rcases hl' with h | h
      · refine wpAny_truthy_list h (by rw [hsz]; omega) ?_
        rw [hem]; exact q _
      · refine truthy_tuple h (by rw [hsz]; omega) ?_
        rw [hem]; exact q _
    · cases hx
  unfold truthV at e
  split at e
  · cases e; cases hv; exact truthy_none (q s.toks)
  · cases e; cases hv; exact wpAny_truthy_bool (q s.toks)
  · cases e; cases hv; exact truthy_int (q s.toks)
  · rename_i x'
    split at e
    · rename_i hl
      cases e; cases hv
      refine P.truthy_str (by simp [strV, Str.length]; omega) ?_
      have : (((strV x').length : Int) != 0) = !x'.isEmpty := by
        cases x' with
        | nil => rfl
        | cons c r => simp [strV, Str.length]; omega
      rw [this]; exact q _
    · cases e
  · exact seq hv e
end

section
variable {prog : Program} {w : World} {hb : Heap} {C : Addr} {n : Nat} {env : Env} {ρ : Rho} {σ σ₁ σ₂ σ₃ : Store}

theorem not_ok {e : Expr} {pos : Pos} {x : V} {b : Bool} (a : EvOK prog w hb C n env ρ σ e x σ₁) (ht : truthV σ₁ x = some b) : EvOK prog w hb C n env ρ σ (.UnaryOp .Not e pos) (.bool !b) σ₁ := by
  intro A s φ g E hA S R
  show wpAny _ A (do let v ← eval e env; standAt pos; holding [v] (unaryOp .Not v)) _ _ s
  refine wpAny_bind (wpAny_mono (a A s φ g E hA S R) (fun v s₁ h₁ => ?_) fun _ _ e => e)
  obtain ⟨φ₁, g₁, G₁, S₁, V₁, T₁⟩ := h₁
  refine wpAny_bind (wpAny_standAt (wpAny_holding ?_))
  unfold unaryOp
  refine wpAny_holding ?_
  show wpAny _ A (truthy v >>= fun b => pure (Value.bool !b)) _ _ s₁
  exact wpAny_bind (truth_op ht S₁ V₁ fun tk => wpAny_pure (Post.trans G₁ T₁ (Post.here S₁ (.bool _) tk)))

theorem neg_ok {e : Expr} {pos : Pos} {i : Int} (a : EvOK prog w hb C n env ρ σ e (.int i) σ₁) : EvOK prog w hb C n env ρ σ (.UnaryOp .USub e pos) (.int (-i)) σ₁ := by
  intro A s φ g E hA S R
  show wpAny _ A (do let v ← eval e env; standAt pos; holding [v] (unaryOp .USub v)) _ _ s
  refine wpAny_bind (wpAny_mono (a A s φ g E hA S R) (fun v s₁ h₁ => ?_) fun _ _ e => e)
  obtain ⟨φ₁, g₁, G₁, S₁, V₁, T₁⟩ := h₁
  refine wpAny_bind (wpAny_standAt (wpAny_holding ?_))
  cases V₁ with | int _ t => exact neg_int (Post.trans G₁ T₁ (Post.here S₁ (.int _ _) _))

noncomputable def OptOK (prog : Program) (w : World) (hb : Heap) (C : Addr) (n : Nat) (env : Env) (ρ : Rho) (σ : Store) (e : Option Expr) (d : Option V) (σ' : Store) : Prop := match e, d with
  | none, none => σ' = σ
  | some e, some d => EvOK prog w hb C n env ρ σ e d σ'
  | _, _ => False
theorem part_of {d : Option V} {k : Option Int} (e : partV d = some k) : (d = none ∧ k = none) ∨ ∃ i, d = some (.int i) ∧ k = some i := by
  cases d with
  | none => cases e; exact .inl ⟨rfl, rfl⟩
  | some v =>
    obtain ⟨i, rfl, e1⟩ := intK_inv (show intK v (fun i => some (some i)) = some k from e)
    cases e1; exact .inr ⟨_, rfl, rfl⟩
theorem opt_run {A : Around} {s : Shared} {φ : List Addr} {g : Part} {E : Value → Shared → Prop} {e : Option Expr} {d : Option V} {k : Option Int} {Q : Value → Shared → Prop} (h : OptOK prog w hb C n env ρ σ e d σ₁) (hk : partV d = some k) (hA : Rm n A) (S : Sim hb C φ σ g s.heap) (R : ER hb φ g s.heap env ρ)
    (q : ∀ v s' φ' g', IsPart v k → (k = none → v = .none) → Grow φ g s.heap φ' g' s'.heap → Sim hb C φ' σ₁ g' s'.heap → ER hb φ' g' s'.heap env ρ → Rest s s' → Q v s') : wpAny (model prog w) A (evalPart e env) Q E s := by
  cases e with
  | none => cases d with
    | none => cases (h : σ₁ = σ); cases hk; exact wpAny_pure (q .none s φ g .none (fun _ => rfl) (Grow.refl ..) S R (Rest.refl s))
    | some d => exact h.elim
  | some e => cases d with
    | none => exact h.elim
    | some d =>
      refine wpAny_mono ((h : EvOK _ _ _ _ _ _ _ _ _ _ _) A s φ g E hA S R) (fun v s₁ h₁ => ?_) fun _ _ e => e
      obtain ⟨φ₁, g₁, G₁, S₁, V₁, T₁⟩ := h₁
      rcases part_of hk with ⟨h1, _⟩ | ⟨i, h1, rfl⟩
      · cases h1
      · cases h1
        cases V₁ with | int _ t => exact q _ s₁ φ₁ g₁ (.int i t) (fun h => nomatch h) G₁ S₁ (R.grow G₁) T₁

theorem subscripted_slice {lo hi : Option Expr} {p : Pos} {o i : Value} : subscripted (.Slice lo hi none p) false o i = operate [i, o] (getItem o i) := rfl
theorem subscripted_slice3 {lo hi : Option Expr} {e : Expr} {p : Pos} {o i : Value} : subscripted (.Slice lo hi (some e) p) false o i = operate [o, i] (getItem o i) := rfl

theorem pick_size {α : Type} (vs : List α) (ws : List Value) (h : ws.length = vs.length) (lo hi st : Option Int) : (slicePick ws.toArray lo hi st).toList = (sliceRange (sliceBounds lo hi st vs.length).1 (sliceBounds lo hi st vs.length).2.1 (sliceBounds lo hi st vs.length).2.2).filterMap (ws[·]?) := by
  unfold slicePick
  simp [h]

theorem slice_ok {l : Expr} {lo hi st : Option Expr} {p pos : Pos} {x : V} {dl dh dt : Option V} {kl kh kt : Option Int} {own : Bool} {d : V} {σ₄ σ₅ : Store}
    (a : EvOK prog w hb C n env ρ σ l x σ₁) (b1 : OptOK prog w hb C n env ρ σ₁ lo dl σ₂) (b2 : OptOK prog w hb C n env ρ σ₂ hi dh σ₃) (b3 : OptOK prog w hb C n env ρ σ₃ st dt σ₄)
    (k1 : partV dl = some kl) (k2 : partV dh = some kh) (k3 : partV dt = some kt) (e : sliceV own σ₄ x kl kh kt = some (d, σ₅)) : EvOK prog w hb C n env ρ σ (.Subscript l (.Slice lo hi st p) pos) d σ₅ := by
  intro A s φ g E hA S R
  refine Subscript_ (wpAny_mono (a A s φ g E hA S R) (fun v s₁ h₁ => ?_) fun _ _ e => e)
  obtain ⟨φ₁, g₁, G₁, S₁, V₁, T₁⟩ := h₁
  refine wpAny_Slice ?_
  refine opt_run b1 k1 hA S₁ (R.grow G₁) fun vl s₂ φ₂ g₂ p1 n1 G₂ S₂ R₂ T₂ => ?_
  refine opt_run b2 k2 hA S₂ R₂ fun vh s₃ φ₃ g₃ p2 n2 G₃ S₃ R₃ T₃ => ?_
  refine opt_run b3 k3 hA S₃ R₃ fun vt s₄ φ₄ g₄ p3 n3 G₄ S₄ R₄ T₄ => ?_
  have G : Grow φ₁ g₁ s₁.heap φ₄ g₄ s₄.heap := (G₂.trans G₃).trans G₄
  have T : Rest s s₄ := ((T₁.trans T₂).trans T₃).trans T₄
  have GG := G₁.trans G
  have V := V₁.mono G.mono G.pre
  -- the slice object
  have hk : ∀ b o, s₄.heap.get? b = some o → (s₄.heap.push { cls := .type "slice", data := .fields #[vl, vh, vt] }).get? b = some o := fun b o e => Heap.get?_push_of_some _ e
  have S₅ : Sim hb C φ₄ σ₄ g₄ (s₄.heap.push { cls := .type "slice", data := .fields #[vl, vh, vt] }) := S₄.all hk
  have G₅ : Grow φ₄ g₄ s₄.heap φ₄ g₄ (s₄.heap.push { cls := .type "slice", data := .fields #[vl, vh, vt] }) := ⟨List.prefix_refl _, fun _ _ e => e, fun _ _ e => .inl e, fun _ e => .inl e, fun b o e _ => hk b o e, fun b o e => ⟨o, hk b o e⟩⟩
  have fin : ∀ Q : Value → Shared → Prop, (∀ r s', Post hb C φ₄ g₄ { s₄ with heap := s₄.heap.push { cls := .type "slice", data := .fields #[vl, vh, vt] } } σ₅ d r s' → Q r s') → wpAny (model prog w) A (subscriptTail l (.Slice lo hi st p) v (.ref s₄.heap.objs.size)) Q E { s₄ with heap := s₄.heap.push { cls := .type "slice", data := .fields #[vl, vh, vt] } } := by
    intro Q hQ
    · have h0 : kt ≠ some 0 := fun q => by subst q; simp [sliceV] at e
      have e' : ((lstOf σ₄ x).bind fun vs => if vs.length ≤ 1000 then newL own (pickL vs kl kh kt) σ₄ else none) = some (d, σ₅) := by
        unfold sliceV at e
        rw [if_neg h0] at e
        exact e
      · obtain ⟨ds, hd, hx⟩ := Option.bind_eq_some_iff.mp e'
        split at hx
        · rename_i hl
          obtain ⟨ad, vs, rfl, hL, hr⟩ := lst_at (s := { s₄ with heap := s₄.heap.push { cls := .type "slice", data := .fields #[vl, vh, vt] } }) S₅ V hd
          have hop : ∃ ops, subscripted (.Slice lo hi st p) false (.ref ad) (.ref s₄.heap.objs.size) = operate ops (getItem (.ref ad) (.ref s₄.heap.objs.size)) := by
            cases st with
            | none => exact ⟨_, subscripted_slice⟩
            | some e' => exact ⟨_, subscripted_slice3⟩
          obtain ⟨ops, hop⟩ := hop
          refine tail_any (s := { s₄ with heap := s₄.heap.push { cls := .type "slice", data := .fields #[vl, vh, vt] } }) hL.typeIs slot_list_getitem.lookup
            (wpAny_getItem_list_slice (s := { s₄ with heap := s₄.heap.push { cls := .type "slice", data := .fields #[vl, vh, vt] } }) hL (Heap.IsSliceOf.new ..) p1 p2 p3 h0 ?_ (by rw [List.size_toArray, hr.length]; exact Nat.le_trans hl (by decide))) hop
          refine hQ _ _ ?_
          have e3 : slicePick vs.toArray kl kh kt = ((sliceRange (sliceBounds kl kh kt ds.length).1 (sliceBounds kl kh kt ds.length).2.1 (sliceBounds kl kh kt ds.length).2.2).filterMap (vs[·]?)).toArray := by
            rw [← pick_size ds vs hr.length kl kh kt]
          rw [e3]
          exact S₅.lst (s := { s₄ with heap := s₄.heap.push { cls := .type "slice", data := .fields #[vl, vh, vt] } }) (tk := s₄.toks) hx (fresh_none _) ⟨_, Heap.get?_push_size _ rfl⟩ (fun b o e => Heap.get?_push_of_some _ e) (hr.filterMap _)
        · cases hx
  refine fin _ fun r s' P => Post.trans GG T (Post.trans (s₁ := { s₄ with heap := s₄.heap.push { cls := .type "slice", data := .fields #[vl, vh, vt] } }) G₅ ⟨_, _, rfl⟩ P)
end
end Mine

namespace Mine

noncomputable def KRs (g : Part) (φ : List Addr) (kvs : List (Str × Value)) (kws : List (String × V)) : Prop :=
  kvs.map (·.1) = kws.map (fun p => Str.ofString p.1) ∧ VRs g φ (kvs.map (·.2)) (kws.map (·.2))
theorem KRs.nil {g : Part} {φ : List Addr} : KRs g φ [] [] := ⟨rfl, .nil⟩

section
variable {prog : Program} {w : World} {hb : Heap} {C : Addr} {n : Nat} {env : Env} {ρ : Rho} {σ σ₁ σ₂ σ₃ : Store}

noncomputable def EvKOK (prog : Program) (w : World) (hb : Heap) (C : Addr) (n : Nat) (env : Env) (ρ : Rho) (σ : Store) (ks : List Keyword) (ds : List (String × V)) (σ' : Store) : Prop :=
  ∀ A s φ g E pos, Rm n A → Sim hb C φ σ g s.heap → ER hb φ g s.heap env ρ → wpAny (model prog w) A (evalAll ((backToKw pos (keywordEach ks env)).map (·.2)))
    (fun vs s' => ∃ φ' g', Grow φ g s.heap φ' g' s'.heap ∧ Sim hb C φ' σ' g' s'.heap ∧ VRs g' φ' vs (ds.map (·.2)) ∧ Rest s s') E s
noncomputable def kwNames (ks : List Keyword) : List (Option Str) := ks.map (·.arg)
theorem kw_names (pos : Pos) : ∀ ks : List Keyword, (backToKw pos (keywordEach ks env)).map (·.1) = kwNames ks
  | [] => rfl
  | ⟨n, e, p⟩ :: r => by
    show n :: ((backToKw pos (keywordEach r env)).map (·.1)) = n :: kwNames r
    rw [kw_names pos r]
theorem evk_nil : EvKOK prog w hb C n env ρ σ [] [] σ := fun _ s φ g _ _ _ S _ => wpAny_pure ⟨φ, g, Grow.refl .., S, .nil, Rest.refl s⟩
theorem evk_cons {k : Option Str} {e : Expr} {p : Pos} {ks : List Keyword} {x : String} {d : V} {ds : List (String × V)} (a : EvOK prog w hb C n env ρ σ e d σ₁) (b : EvKOK prog w hb C n env ρ σ₁ ks ds σ₂) : EvKOK prog w hb C n env ρ σ (⟨k, e, p⟩ :: ks) ((x, d) :: ds) σ₂ := by
  intro A s φ g E pos hA S R
  show wpAny _ A (evalAll ((do let v ← eval e env; standAt pos; pure v) :: (backToKw pos (keywordEach ks env)).map (·.2))) _ _ s
  refine wpAny_evalAll_cons (wpAny_bind (wpAny_mono (a A s φ g E hA S R) (fun v s₁ h₁ => ?_) fun _ _ e => e))
  obtain ⟨φ₁, g₁, G₁, S₁, V₁, T₁⟩ := h₁
  refine wpAny_bind (wpAny_standAt (wpAny_pure (wpAny_mono (b A s₁ φ₁ g₁ E pos hA S₁ (R.grow G₁)) (fun vs s₂ h₂ => ?_) fun _ _ e => e)))
  obtain ⟨φ₂, g₂, G₂, S₂, V₂, T₂⟩ := h₂
  exact ⟨φ₂, g₂, G₁.trans G₂, S₂, .cons (V₁.mono G₂.mono G₂.pre) V₂, T₁.trans T₂⟩

noncomputable def kwIs (ks : List Keyword) (ds : List (String × V)) : Prop := kwNames ks = ds.map fun p => some (Str.ofString p.1)

theorem kw_all {pos : Pos} {ks : List Keyword} {ds : List (String × V)} (h : kwIs ks ds) : (backToKw pos (keywordEach ks env)).all (·.1.isSome) = true := by
  have : (backToKw pos (keywordEach ks env)).all (·.1.isSome) = ((backToKw pos (keywordEach ks env)).map (·.1)).all (·.isSome) := by rw [List.all_map]; rfl
  rw [this, kw_names, h]; simp
theorem kw_zip {pos : Pos} {ks : List Keyword} {ds : List (String × V)} (h : kwIs ks ds) : (backToKw pos (keywordEach ks env)).filterMap (·.1) = ds.map fun p => Str.ofString p.1 := by
  have : (backToKw pos (keywordEach ks env)).filterMap (·.1) = ((backToKw pos (keywordEach ks env)).map (·.1)).filterMap id := by rw [List.filterMap_map]; rfl
  rw [this, kw_names, h, List.filterMap_map]
  induction ds with
  | nil => rfl
  | cons d r ih => simp
theorem zip_krs {g : Part} {φ : List Addr} {vs : List Value} : ∀ {ds : List (String × V)}, VRs g φ vs (ds.map (·.2)) → KRs g φ ((ds.map fun p => Str.ofString p.1).zip vs) ds := by
  intro ds h
  have hl : (ds.map fun p => Str.ofString p.1).length = vs.length := by rw [h.length]; simp
  refine ⟨?_, ?_⟩
  · rw [List.map_fst_zip (by omega)]
  · rw [List.map_snd_zip (by omega)]; exact h

theorem args_run {A : Around} {s : Shared} {φ : List Addr} {g : Part} {E : Value → Shared → Prop} {f : Value} {es : List Expr} {ks : List Keyword} {pos : Pos} {ds : List V} {kds : List (String × V)} {Q : Args → Shared → Prop}
    (a : EvsOK prog w hb C n env ρ σ es ds σ₁) (b : EvKOK prog w hb C n env ρ σ₁ ks kds σ₂) (hk : kwIs ks kds) (hs : ∀ e r, es = e :: r → ∀ a p, e ≠ .Starred a p) (hA : Rm n A) (S : Sim hb C φ σ g s.heap) (R : ER hb φ g s.heap env ρ)
    (q : ∀ x s' φ' g', Grow φ g s.heap φ' g' s'.heap → Sim hb C φ' σ₂ g' s'.heap → Rest s s' → VRs g' φ' x.pos ds → KRs g' φ' x.kw kds → Q x s') :
    wpAny (model prog w) A (evalArgs f true (backTo pos (starEach es env)) (backToKw pos (keywordEach ks env))) Q E s := by
  have tail : ∀ (vs : List Value) (s₁ : Shared) (φ₁ : List Addr) (g₁ : Part), Grow φ g s.heap φ₁ g₁ s₁.heap → Sim hb C φ₁ σ₁ g₁ s₁.heap → VRs g₁ φ₁ vs ds → Rest s s₁ →
      wpAny (model prog w) A (evalAll ((backToKw pos (keywordEach ks env)).map (·.2))) (fun kv s₂ => Q ⟨vs, ((backToKw pos (keywordEach ks env)).filterMap (·.1)).zip kv⟩ s₂) E s₁ := by
    intro vs s₁ φ₁ g₁ G₁ S₁ V₁ T₁
    refine wpAny_mono (b A s₁ φ₁ g₁ E pos hA S₁ (R.grow G₁)) (fun kv s₂ h₂ => ?_) fun _ _ e => e
    obtain ⟨φ₂, g₂, G₂, S₂, V₂, T₂⟩ := h₂
    rw [kw_zip hk]
    exact q _ s₂ φ₂ g₂ (G₁.trans G₂) S₂ (T₁.trans T₂) (V₁.mono G₂.mono G₂.pre) (zip_krs V₂)
  cases es with
  | nil =>
    intro Γ p hΓ
    obtain ⟨φ₁, g₁, G₁, S₁, V₁, T₁⟩ : ∃ φ' g', Grow φ g s.heap φ' g' s.heap ∧ Sim hb C φ' σ₁ g' s.heap ∧ VRs g' φ' [] ds ∧ Rest s s := a A s φ g E pos hA S R Γ p hΓ
    exact evalArgs_kw_nil (kw_all hk) (tail [] s φ₁ g₁ G₁ S₁ V₁ T₁) Γ p hΓ
  | cons e r =>
    rw [star_cons (hs e r rfl)]
    show wpAny _ A (evalArgs f true ((false, eval e env) :: backTo pos (starEach r env)) _) _ _ s
    refine evalArgs_kw (kw_all hk) ?_
    have h0 := a A s φ g E pos hA S R
    rw [star_cons (hs e r rfl)] at h0
    refine wpAny_mono h0 (fun vs s₁ h₁ => ?_) fun _ _ e => e
    obtain ⟨φ₁, g₁, G₁, S₁, V₁, T₁⟩ := h₁
    exact tail vs s₁ φ₁ g₁ G₁ S₁ V₁ T₁
end
end Mine

namespace Mine

noncomputable def notStar (e : Expr) : Bool := decide (e.ctorIdx ≠ 22)
theorem notStar_ne {e : Expr} (h : notStar e = true) : ∀ a p, e ≠ .Starred a p := fun a p q => by subst q; cases (show false = true from h)
theorem stars_none {env : Env} {pos : Pos} : ∀ {es : List Expr}, es.all notStar = true → (backTo pos (starEach es env)).any (·.1) = false
  | [], _ => rfl
  | e :: r, h => by
    simp only [List.all_cons, Bool.and_eq_true] at h
    rw [star_cons (notStar_ne h.1)]
    show (false || (backTo pos (starEach r env)).any (·.1)) = false
    rw [stars_none h.2]; rfl
theorem stars_head {es : List Expr} (h : es.all notStar = true) : ∀ e r, es = e :: r → ∀ a p, e ≠ .Starred a p := fun e r q => by
  subst q
  simp only [List.all_cons, Bool.and_eq_true] at h
  exact notStar_ne h.1

section
variable {prog : Program} {w : World} {hb : Heap} {C : Addr} {n : Nat} {env : Env} {ρ : Rho} {σ σ₁ σ₂ σ₃ : Store}

noncomputable def CallOK (prog : Program) (w : World) (hb : Heap) (C : Addr) (FA : String → Option Addr) (n : Nat) (O : Orc) : Prop :=
  ∀ f a args kws σ d σ', FA f = some a → O f args kws σ = some (d, σ') → ∀ A s φ g vals kvs, Rc n A → Sim hb C φ σ g s.heap → VRs g φ vals args → KRs g φ kvs kws →
    codeAny (model prog w) A (.call (.ref a) ⟨vals, kvs⟩) (fun r s' => match r with | .ok (.ret v) => Post hb C φ g s σ' d v s' | _ => False) s
theorem CallOK.run {FA : String → Option Addr} {O : Orc} (h : CallOK prog w hb C FA n O) {f : String} {a : Addr} {args : List V} {kws : List (String × V)} {d : V} (hf : FA f = some a) (e : O f args kws σ = some (d, σ₁)) {A : Around} {s : Shared} {φ : List Addr} {g : Part} {E : Value → Shared → Prop} {vals : List Value} {kvs : List (Str × Value)} (hA : Rc n A) (S : Sim hb C φ σ g s.heap) (V : VRs g φ vals args) (K : KRs g φ kvs kws) :
    wpAny (model prog w) A (call (.ref a) vals kvs) (Post hb C φ g s σ₁ d) E s :=
  wpAny_call (codeAny_mono (h f a args kws σ d σ₁ hf e A s φ g vals kvs hA S V K) fun r s' z => by rcases r with e | (v | _ | _ | _) <;> first | exact z | exact z.elim)
noncomputable def FnsOK (hb : Heap) (FA : String → Option Addr) : Prop := ∀ f a, FA f = some a → ∃ o fd, hb.get? a = some o ∧ o.data = .func fd

theorem call_ok {O : Orc} {FA : String → Option Addr} {f : String} {a : Addr} {fs : Str} {p pos : Pos} {es : List Expr} {ds : List V} {d : V} (hO : CallOK prog w hb C FA n O) (hF : FnsOK hb FA) (hf : FA f = some a)
    (hn : EvOK prog w hb C n env ρ σ (.Name fs p) (.gl a) σ) (h : EvsOK prog w hb C n env ρ σ es ds σ₁) (hst : es.all notStar = true) (e : O f ds [] σ₁ = some (d, σ₂)) : EvOK prog w hb C n env ρ σ (.Call (.Name fs p) es [] pos) d σ₂ := by
  intro A s φ g E hA S R
  refine wpAny_Call_Name_kw (wpAny_mono (hn A s φ g E hA S R) (fun v s₁ h₁ => ?_) fun _ _ e => e)
  obtain ⟨φ₁, g₁, G₁, S₁, V₁, T₁⟩ := h₁
  cases V₁
  obtain ⟨o, fd, ho, hd⟩ := hF f a hf
  refine callWith_function_kw (o := o) (fd := fd) (args_run h evk_nil (show kwIs [] [] from rfl) (stars_head hst) hA S₁ (R.grow G₁) fun x s₂ φ₂ g₂ G₂ S₂ T₂ V₂ K₂ => ?_)
  refine ⟨⟨S₂.hbk a o ho, hd⟩, ?_⟩
  exact wpAny_mono (hO.run hf e hA.rc S₂ V₂ K₂) (fun _ _ p => (p.trans G₂ T₂).trans G₁ T₁) fun _ _ e => e

theorem name_blt {A : Around} {s : Shared} {φ : List Addr} {g : Part} {E : Value → Shared → Prop} {mg mb : Str → Option Value} {x : Str} {v : Value} {pos : Pos} {Q : Value → Shared → Prop} (hg : hb.Ns mainGlobals mg) (hbl : hb.Ns builtinsNs mb) (hx : env.kindOf x = some .globalImplicit) (hm : mg x = none) (hb' : mb x = some v) (hd : (x == ("__debug__" : Str)) = false)
    (S : Sim hb C φ σ g s.heap) (R : ER hb φ g s.heap env ρ) (q : Q v s) : wpAny (model prog w) A (eval (.Name x pos) env) Q E s :=
  Calls.Name_function_global R.kind hx (Calls.loadGlobal_builtin (by rw [R.glob]; exact hg.keeps S.hbk) hm (by rw [R.bl]; exact hbl.keeps S.hbk) hb' q) hd

theorem callWith_mach {A : Around} {s : Shared} {E : Value → Shared → Prop} {f : Value} {first : List Value} {pos : Pos} {es : List Expr} {Q : Value → Shared → Prop} (hf : keeperOf f = pure .machine) (hst : es.all notStar = true)
    (h : wpAny (model prog w) A (evalArgs f true (backTo pos (starEach es env)) []) (fun a s₁ => wpAny (model prog w) A (call f (first ++ a.pos) a.kw) Q E s₁) E s) : wpAny (model prog w) A (callWith pos f first (backTo pos (starEach es env)) []) Q E s :=
  callWith_of (P := fun _ => True) (by rw [stars_none hst]; rfl) (fun _ _ => ⟨.machine, .inr (.inl rfl), Looks.of_pure hf⟩) (wpAny_mono h (fun _ _ q => ⟨trivial, q⟩) fun _ _ e => e)

noncomputable def biVal (f : String) : Value := if f = "range" ∨ f = "type" ∨ f = "zip" then .type f else .builtin f
theorem biVal_mach (f : String) : keeperOf (biVal f) = pure .machine := by
  unfold biVal; split <;> rfl

theorem ints_of {g : Part} {φ : List Addr} {vs : List Value} : ∀ {ds : List V} {is : List Int}, VRs g φ vs ds → intsOf ds = some is → IntsAre vs is := by
  induction vs with
  | nil => intro ds is h e; cases h; cases e; exact .nil
  | cons v vs ih =>
    intro ds is h e
    cases h with
    | cons hv hr =>
      rename_i d ds
      cases d <;> first | (cases e; done) | skip
      obtain ⟨js, h1, rfl⟩ := Option.map_eq_some_iff.mp e
      obtain ⟨t, rfl⟩ := hv.ofInt
      exact .cons _ t (ih hr h1)
theorem vrs_ints {g : Part} {φ : List Addr} : ∀ {vs : List Value} {is : List Int}, IntsAre vs is → VRs g φ vs (is.map .int)
  | _, _, .nil => .nil
  | _, _, .cons i t r => .cons (.int i t) (vrs_ints r)
theorem bi_op {A : Around} {s : Shared} {φ : List Addr} {g : Part} {E : Value → Shared → Prop} {f : String} {ds : List V} {d : V} {vals : List Value} (e : biV f σ ds = some (d, σ₁)) (hA : Rm n A) (S : Sim hb C φ σ g s.heap) (hvs : VRs g φ vals ds) :
    wpAny (model prog w) A (call (biVal f) vals) (Post hb C φ g s σ₁ d) E s := by
  have rng : ∀ {s : Shared} {φ : List Addr} {g : Part} {a b c : Int} {t u v : Tok} {tk : Nat}, Sim hb C φ σ g s.heap → Post hb C φ g s σ (.rng a b c) (.ref s.heap.objs.size) { s with heap := s.heap.push { cls := .type "range", data := .fields #[.int a t, .int b u, .int c v] }, toks := tk } := by
    intro s φ g a b c t u v tk S
    obtain ⟨S', G'⟩ := S.put (fresh_none s.heap) (Heap.get?_push_size _ (o := { cls := .type "range", data := .fields #[.int a t, .int b u, .int c v] }) rfl) fun b o e => Heap.get?_push_of_some _ e
    exact ⟨φ, _, G', S', .rng (by unfold putG; rw [if_pos rfl]) rfl, ⟨_, _, rfl⟩⟩
  unfold biV at e
  split at e
  · rename_i hf; subst hf
    obtain ⟨v0, rfl, e1⟩ := one1_inv e
    obtain ⟨v1, rfl, hv⟩ := hvs.inv1
    obtain ⟨vs, h1, h2⟩ := Option.bind_eq_some_iff.mp e1
    split at h2
    · rename_i hl
      cases h2
      obtain ⟨a, ws, rfl, hL, hr⟩ := lst_at S hv h1
      have hsz : ws.toArray.size = vs.length := by rw [List.size_toArray, hr.length]
      refine len_list hL (by rw [hsz]; omega) ?_
      rw [hsz]
      exact Post.here S (.int _ _) _
    · cases h2
  · split at e
    · rename_i hf; subst hf
      rcases Option.or_eq_some_iff.mp e with e2 | ⟨-, e2⟩
      · obtain ⟨v0, rfl, e3⟩ := one1_inv e2
        obtain ⟨b, rfl, e4⟩ := intK_inv e3
        obtain ⟨v1, rfl, hv⟩ := hvs.inv1
        split at e4
        · cases e4; obtain ⟨t, rfl⟩ := hv.ofInt; exact call_range_1 (rng S)
        · cases e4
      · rcases Option.or_eq_some_iff.mp e2 with e5 | ⟨-, e5⟩
        · obtain ⟨u0, v0, rfl, e6⟩ := two2_inv e5
          obtain ⟨a, rfl, e7⟩ := intK_inv e6
          obtain ⟨b, rfl, e8⟩ := intK_inv e7
          obtain ⟨v1, v2, rfl, h1, h2⟩ := hvs.inv2
          obtain ⟨t, rfl⟩ := h1.ofInt
          obtain ⟨u, rfl⟩ := h2.ofInt
          split at e8
          · cases e8; exact call_range_2 (rng S)
          · cases e8
        · cases ds with
          | nil => cases e5
          | cons t0 ds =>
            obtain ⟨u0, v0, rfl, e9⟩ := two2_inv e5
            obtain ⟨a, rfl, e10⟩ := intK_inv e9
            obtain ⟨b, rfl, e11⟩ := intK_inv e10
            obtain ⟨c, rfl, e12⟩ := intK_inv e11
            obtain ⟨v1, v2, v3, rfl, h1, h2, h3⟩ := hvs.inv3
            obtain ⟨t, rfl⟩ := h1.ofInt
            obtain ⟨u, rfl⟩ := h2.ofInt
            obtain ⟨v, rfl⟩ := h3.ofInt
            split at e12
            · rename_i hc; cases e12
              exact call_range_3 (by omega) (rng S) (.inl (PyProof.noPylong_small (by omega)))
            · cases e12
    · split at e
      · rename_i hf; subst hf
        obtain ⟨v0, rfl, e13⟩ := one1_inv e
        obtain ⟨v1, rfl, hv⟩ := hvs.inv1
        rcases Option.or_eq_some_iff.mp e13 with e14 | ⟨-, e14⟩
        · obtain ⟨x, rfl, e15⟩ := strK_inv e14
          cases e15; cases hv; exact call_type_of (typeIs_str s _ _) (by decide) (Post.here S (.ty _) s.toks)
        · obtain ⟨vs, h1, h2⟩ := Option.map_eq_some_iff.mp e14
          cases h2
          obtain ⟨a, ws, rfl, hL, hr⟩ := lst_at S hv h1
          exact call_type_of hL.typeIs (by decide) (Post.here S (.ty _) s.toks)
-- [two
      · split at e
        · rename_i hf; subst hf
          obtain ⟨u0, v0, rfl, e16⟩ := two2_inv e
          obtain ⟨a, rfl, e17⟩ := intK_inv e16
          obtain ⟨b, rfl, e18⟩ := intK_inv e17
          obtain ⟨v1, v2, rfl, h1, h2⟩ := hvs.inv2
          obtain ⟨t, rfl⟩ := h1.ofInt
          obtain ⟨u, rfl⟩ := h2.ofInt
          cases e18
          refine min_two_ints hA.handled fun h' tk hk => ?_
          have G' : Grow φ g s.heap φ g h' := ⟨List.prefix_refl _, fun _ _ e => e, fun _ _ e => .inl e, fun _ e => .inl e, fun b o e _ => hk b o e, fun b o e => ⟨o, hk b o e⟩⟩
          refine ⟨φ, g, G', S.all hk, ?_, ⟨_, _, rfl⟩⟩
          split <;> exact .int _ _
-- two]
        · cases e

theorem bi_ok {mg mb : Str → Option Value} {f : String} {p pos : Pos} {es : List Expr} {ds : List V} {d : V} (hg : hb.Ns mainGlobals mg) (hbl : hb.Ns builtinsNs mb) (hx : env.kindOf (Str.ofString f) = some .globalImplicit) (hm : mg (Str.ofString f) = none) (hb' : mb (Str.ofString f) = some (biVal f)) (hd : (Str.ofString f == ("__debug__" : Str)) = false)
    (h : EvsOK prog w hb C n env ρ σ es ds σ₁) (hst : es.all notStar = true) (e : biV f σ₁ ds = some (d, σ₂)) : EvOK prog w hb C n env ρ σ (.Call (.Name (Str.ofString f) p) es [] pos) d σ₂ := by
  intro A s φ g E hA S R
  refine wpAny_Call_Name_kw (name_blt hg hbl hx hm hb' hd S R ?_)
  refine callWith_mach (biVal_mach f) hst (args_run h evk_nil (show kwIs [] [] from rfl) (stars_head hst) hA S R fun x s₂ φ₂ g₂ G₂ S₂ T₂ V₂ K₂ => ?_)
  have hk : x.kw = [] := by have := K₂.1; simpa using this
  rw [hk, List.nil_append]
  exact wpAny_mono (bi_op e hA S₂ V₂) (fun _ _ p => p.trans G₂ T₂) fun _ _ e => e
end
end Mine

namespace Mine

noncomputable def rxName : List Nat := [14, 10, 4, 1, 1, 22, 0, 31, 16, 127, 0, 13, 7, 22, 0, 31, 16, 127, 0, 1]
noncomputable def rxValue : List Nat := [14, 14, 4, 1, 1, 9, 4294966783, 0, 0, 2147483648, 0, 0, 0, 0, 0, 13, 11, 9, 4294966783, 0, 0, 2147483648, 0, 0, 0, 0, 0, 1]

theorem rxName_out {c : Nat} (h : (decide (32 ≤ c) && c != 127) = true) (seen : Sre.Seen) : ∃ seen', Sre.inSet rxName.toArray c rxName.toArray.size 5 true seen = .ok (false, seen') := by
  simp only [Bool.and_eq_true, decide_eq_true_eq, bne_iff_ne] at h
  have h2 : ¬ (c == 127) = true := by simpa using h.2
  have h3 : ¬ (decide (0 ≤ c) && decide (c ≤ 31)) = true := by simp; omega
  have e1 : Sre.inSet rxName.toArray c rxName.toArray.size 5 true seen = if (decide (0 ≤ c) && decide (c ≤ 31)) = true then .ok (true, seen.add 22) else Sre.inSet rxName.toArray c 19 8 true (seen.add 22) := rfl
  have e2 : Sre.inSet rxName.toArray c 19 8 true (seen.add 22) = if (c == 127) = true then .ok (true, (seen.add 22).add 16) else Sre.inSet rxName.toArray c 18 10 true ((seen.add 22).add 16) := rfl
  have e3 : Sre.inSet rxName.toArray c 18 10 true ((seen.add 22).add 16) = .ok (false, ((seen.add 22).add 16).add 0) := rfl
  exact ⟨_, by rw [e1, if_neg h3, e2, if_neg h2, e3]⟩

theorem rxValue_bits : ((List.range 256).all fun c => !((decide (32 ≤ c) || c == 9) && c != 127) || !((rxValue.toArray.getD (5 + (1 + c / 32)) 0).testBit (c % 32))) = true := by decide +kernel
theorem rxValue_out {c : Nat} (h : ((decide (32 ≤ c) || c == 9) && c != 127) = true) (seen : Sre.Seen) : ∃ seen', Sre.inSet rxValue.toArray c rxValue.toArray.size 5 true seen = .ok (false, seen') := by
  have h3 : ¬ (decide (c < 256) && (rxValue.toArray.getD (5 + (1 + c / 32)) 0).testBit (c % 32)) = true := by
    intro q
    simp only [Bool.and_eq_true, decide_eq_true_eq] at q
    have := List.all_eq_true.mp rxValue_bits c (List.mem_range.mpr q.1)
    rw [h, q.2] at this
    cases this
  have e1 : Sre.inSet rxValue.toArray c rxValue.toArray.size 5 true seen = if (decide (c < 256) && (rxValue.toArray.getD (5 + (1 + c / 32)) 0).testBit (c % 32)) = true then .ok (true, seen.add 9) else Sre.inSet rxValue.toArray c 27 14 true (seen.add 9) := rfl
  have e2 : Sre.inSet rxValue.toArray c 27 14 true (seen.add 9) = .ok (false, (seen.add 9).add 0) := rfl
  exact ⟨_, by rw [e1, if_neg h3, e2]⟩

theorem admitted_none {m : Sre.M} (h : ∀ i < m.lim, ∀ seen, ∃ seen', Sre.inSet m.code (m.text.getD i 0) m.code.size 5 true seen = .ok (false, seen')) : ∀ (fuel s : Nat) (seen : Sre.Seen), ∃ seen', Sre.M.admitted m fuel s seen = .ok (none, seen')
  | 0, _, seen => ⟨seen, rfl⟩
  | fuel + 1, s, seen => by
    unfold Sre.M.admitted
    split
    · exact ⟨seen, rfl⟩
    · rename_i hs
      obtain ⟨seen', e⟩ := h s (by omega) seen
      rw [e]
      exact admitted_none h fuel (s + 1) seen'

theorem attempt_none {m : Sre.M} {s : Nat} {first : Bool} (hf : m.hasFirstSet = true) (h : ∀ i < m.lim, ∀ seen, ∃ seen', Sre.inSet m.code (m.text.getD i 0) m.code.size 5 true seen = .ok (false, seen')) :
    ∃ m' : Sre.M, m.attemptFrom s first = m'.say false ∧ m'.outcome = m.outcome ∧ m'.frames = m.frames := by
  obtain ⟨seen', e⟩ := admitted_none h (m.lim + 1 - s) s m.seen
  unfold Sre.M.attemptFrom
  rw [hf]
  simp only [Bool.not_true, Bool.false_eq_true, if_false]
  rw [e]
  exact ⟨{ m with seen := seen' }, rfl, rfl, rfl⟩
theorem said_fails {m : Sre.M} (h1 : m.outcome = none) (h2 : m.frames = []) : ((m.say false).runFor 4).outcome = some .failed := by
  have s1 : (m.say false).step = { m.say false with outcome := some .failed } := by
    unfold Sre.M.step
    have : (m.say false).outcome = none := h1
    rw [this]
    have h3 : (m.say false).answer = some false := rfl
    have h4 : (m.say false).frames = [] := h2
    simp only [Option.isSome_none, Bool.false_eq_true, if_false, h3, h4]
  have s0 : (m.say false).runFor 4 = ((m.say false).step).runFor 3 := by
    show (if (m.say false).outcome.isSome then m.say false else ((m.say false).step).runFor 3) = _
    rw [show (m.say false).outcome = none from h1]; rfl
  rw [s0, s1]
  rfl
theorem search_fails {code text : Array Nat} (h0 : Sre.ops[code.getD 0 0]? = some .INFO) (h2 : code.getD 2 0 = 4) (h3 : code.getD 3 0 = 1)
    (h : ∀ i < text.size, ∀ seen, ∃ seen', Sre.inSet code (text.getD i 0) code.size 5 true seen = .ok (false, seen')) :
    ((Sre.forSearch code text 0 0 text.size false).runFor 4).outcome = some .failed := by
  have key : ∃ m : Sre.M, Sre.forSearch code text 0 0 text.size false = m.say false ∧ m.outcome = none ∧ m.frames = [] := by
    unfold Sre.forSearch
    have hl : (Sre.header code).1 = 1 := by unfold Sre.header; rw [h0]; exact h3
    simp only [hl]
    split
    · exact ⟨_, rfl, rfl, rfl⟩
    · have hf : ∀ m : Sre.M, m.code = code → m.hasFirstSet = true := fun m e => by
        unfold Sre.M.hasFirstSet; rw [e, h0, h2]; rfl
      exact attempt_none (hf _ rfl) h
  obtain ⟨m, e, o, f⟩ := key
  rw [e]; exact said_fails o f

section
variable {prog : Program} {w : World} {A : Around} {E : Value → Shared → Prop} {s : Shared}
open Builtin.Re
theorem drive_fails {m : Sre.M} {Q : Option Sre.M → Shared → Prop} (h : (m.runFor 4).outcome = some .failed) (q : Q none s) : wpAny (model prog w) A (reRunToEnd m) Q E s := by
  unfold reRunToEnd
  have e : reDrive (2 ^ 64) m = pure (m.runFor 4) := by
    show (if (m.runFor 4).outcome.isSome then pure (m.runFor 4) else _) = _
    rw [h]; rfl
  rw [e]
  refine wpAny_bind (wpAny_pure (wpAny_bind ?_))
  refine wpAny_forIn_list _ (fun _ _ s' => s' = s) _ (fun x rest b s' hs => ?_) (fun b s' hs => ?_) _ _ rfl
  · subst hs
    split
    · exact wpAny_bind (wpAny_rule (wpAny_pure rfl))
    · exact wpAny_pure rfl
  · subst hs
    rw [h]; exact wpAny_pure q
theorem slot_re_search : Slot "re.Pattern" "search" "re.Pattern.search" :=
  .of (owner := "re.Pattern") (n := "search") (by rw [typeLookup_type, builtinLookup_eq_fast]; kernel_rfl) (by decide +kernel) (by decide +kernel) (by decide +kernel)
    (by first | exact .inl (by decide +kernel) | exact .inr (by decide +kernel)) (by rw [isSubtype_type]; kernel_rfl)
theorem entry_re_search : entryFor table "re.Pattern.search" = some Builtin.«re.Pattern.search» := entryFor_of_tree (by kernel_rfl)
theorem args_re_search (a b : Value) : argsOk "re.Pattern.search" ⟨[a, b], []⟩ := by unfold argsOk; kernel_rfl
theorem attrs_re : PlainAttrs "re.Pattern" := ⟨⟨"object.__getattribute__", by rw [typeLookup_type, builtinLookup_eq_fast]; kernel_rfl, by decide +kernel⟩, by rw [typeLookup_type, builtinLookup_eq_fast]; kernel_rfl⟩
theorem type_re_search : typeOf (.builtin "re.Pattern.search") = pure (.type "method_descriptor") := by show builtinType _ = _; rw [builtinType_eq_fast]; kernel_rfl
end
end Mine

namespace Mine
section
variable {prog : Program} {w : World} {A : Around} {E : Value → Shared → Prop} {s : Shared}
open Builtin.Re

noncomputable def IsPat (h : Heap) (a : Addr) (code : List Nat) : Prop :=
  ∃ o p0 p1 t2 p3 p4 c t6 oc items n, h.get? a = some o ∧ o.cls = .type "re.Pattern" ∧ o.dict = none ∧ o.data = .fields #[p0, p1, .int 0 t2, p3, p4, .ref c, .int 0 t6] ∧ h.get? c = some oc ∧ oc.data = .seq items n ∧ (items.map reRawOf).map (·.toNat) = code.toArray

theorem search_none {a : Addr} {code : List Nat} {x : List Nat} {t : Tok} {Q : Value → Shared → Prop} (hp : IsPat s.heap a code)
    (h0 : Sre.ops[code.toArray.getD 0 0]? = some .INFO) (h2 : code.toArray.getD 2 0 = 4) (h3 : code.toArray.getD 3 0 = 1)
    (h : ∀ c ∈ x, ∀ seen, ∃ seen', Sre.inSet code.toArray c code.toArray.size 5 true seen = .ok (false, seen')) (hx : x.length ≤ 1000000) (q : Q .none s) :
    wpAny (model prog w) A (call (.builtin "re.Pattern.search") [.ref a, .str (strV x) t]) Q E s := by
  obtain ⟨o, p0, p1, t2, p3, p4, c, t6, oc, items, n, ho, hcl, hdi, hd, hc, hcd, hcode⟩ := hp
  refine wpAny_call_entry slot_re_search ⟨o, ho, hcl⟩ entry_re_search ?_ (args_re_search _ _)
  unfold Builtin.«re.Pattern.search»
  refine wpAny_bind ?_
  unfold reTarget
  show wpAny _ _ (reNamed "re.Pattern.search" "search" ["string", "pos", "endpos"] 1 [.str (strV x) t] [] >>= _) _ _ s
  have hn : reNamed "re.Pattern.search" "search" ["string", "pos", "endpos"] 1 [.str (strV x) t] [] = pure [some (.str (strV x) t), none, none] := by rfl
  rw [hn]
  refine wpAny_bind (wpAny_pure ?_)
  dsimp only
  refine wpAny_bind (wpAny_pure (wpAny_bind (wpAny_pure ?_)))
  refine wpAny_bind (wpAny_fieldsOf ho hd ?_)
  have ht : reTextOf (.str (strV x) t) = pure ((strV x).cps, 0) := rfl
  rw [ht]
  refine wpAny_bind (wpAny_pure ?_)
  dsimp only
  have hw : (reRawNat ((#[p0, p1, Value.int 0 t2, p3, p4, Value.ref c, Value.int 0 t6] : Array Value).getD 6 .none)) = 0 := rfl
  rw [hw]
  refine wpAny_bind ?_
  show wpAny _ _ (pure ()) _ _ s
  refine wpAny_pure ?_
  unfold reRawItems
  refine wpAny_bind (wpAny_bind ?_)
  show wpAny _ _ (seqItems? (.ref c)) _ _ s
  refine wpAny_seqItems hc hcd (wpAny_pure (wpAny_pure ?_))
  dsimp only
  unfold reAnswer
  refine wpAny_bind (drive_fails ?_ (wpAny_pure ⟨_, rfl, q⟩))
  have e1 : (Option.getD (some items) #[]) = items := rfl
  have e2 : min (2 ^ 63 - 1 : Int).toNat (strV x).cps.size = (strV x).cps.size := by
    apply Nat.min_eq_right; show x.toArray.size ≤ _; rw [List.size_toArray]; omega
  have e3 : min (Int.toNat 0) (strV x).cps.size = 0 := by simp
  have e4 : (reRawNat ((#[p0, p1, Value.int 0 t2, p3, p4, Value.ref c, Value.int 0 t6] : Array Value).getD 2 .none)) = 0 := rfl
  rw [e1, e2, e3, e4, hcode]
  refine search_fails h0 h2 h3 fun i hi seen => ?_
  refine h _ ?_ seen
  have hi' : i < x.length := by simpa [strV] using hi
  have : (strV x).cps.getD i 0 = x[i] := by simp [strV, hi']
  rw [this]; exact List.getElem_mem hi'
end
end Mine

namespace Mine

structure Pats (hb : Heap) (nd vd : Nat) : Prop where
  pn : IsPat hb nd rxName
  pv : IsPat hb vd rxValue
  ne : nd ≠ vd
theorem IsPat.keeps {h h' : Heap} {a : Addr} {code : List Nat} (x : IsPat h a code) (hk : ∀ b o, h.get? b = some o → h'.get? b = some o) : IsPat h' a code := by
  obtain ⟨o, p0, p1, t2, p3, p4, c, t6, oc, items, n, h1, h2, h3, h4, h5, r⟩ := x
  exact ⟨o, p0, p1, t2, p3, p4, c, t6, oc, items, n, hk _ _ h1, h2, h3, h4, hk _ _ h5, r⟩
theorem IsPat.obj {h : Heap} {a : Addr} {code : List Nat} (x : IsPat h a code) : ∃ o, h.get? a = some o ∧ o.cls = .type "re.Pattern" ∧ o.dict = none := by
  obtain ⟨o, p0, p1, t2, p3, p4, c, t6, oc, items, n, h1, h2, h3, h4, h5, r⟩ := x
  exact ⟨o, h1, h2, h3⟩

theorem strsOf_are {g : Part} {φ : List Addr} {vs : List Value} : ∀ {ds : List V} {ss : List (List Nat)}, VRs g φ vs ds → strsOf ds = some ss → StrsAre vs (ss.map strV) := by
  induction vs with
  | nil => intro ds ss h e; cases h; cases e; exact .nil
  | cons v vs ih =>
    intro ds ss h e
    obtain ⟨d, ds, rfl, hv, hr⟩ : ∃ d ds', ds = d :: ds' ∧ VR g φ v d ∧ VRs g φ vs ds' := by cases h with | cons a b => exact ⟨_, _, rfl, a, b⟩
    cases d <;> first | (cases e; done) | skip
    obtain ⟨js, h1, rfl⟩ := Option.map_eq_some_iff.mp e
    obtain ⟨t, rfl⟩ := hv.ofStr
    exact .cons _ t (ih hr h1)
theorem strV_append (x y : List Nat) : strV x ++ strV y = strV (x ++ y) := by
  show Str.append _ _ = _
  simp [Str.append, strV]
theorem join_strV (sep : List Nat) : ∀ ss : List (List Nat), Str.join (strV sep) (ss.map strV) = strV (joinT sep ss)
  | [] => rfl
  | [x] => rfl
  | x :: y :: r => by
    have ih := join_strV sep (y :: r)
    show strV x ++ strV sep ++ Str.join (strV sep) ((y :: r).map strV) = strV (x ++ sep ++ joinT sep (y :: r))
    rw [ih, strV_append, strV_append]
theorem lower_strV {x y : List Nat} (e : lowerT x = some y) : Txt.lower (strV x) = strV y ∧ x.length ≤ 1000000 := by
  unfold lowerT at e
  split at e
  · rename_i h
    cases e
    refine ⟨?_, h.2⟩
    rw [lower_ascii (by simpa [strV] using h.1)]
    simp [strV, lowerN, lo1]
  · cases e

theorem mapSeq_app (its : Array Value) (n : Nat) (ws : Array Value) : ∃ m, Obj.mapSeq (fun x => x ++ ws) { cls := .type "list", data := .seq its n } = { cls := .type "list", data := .seq (its ++ ws) m } := ⟨_, rfl⟩
section
variable {prog : Program} {w : World} {hb : Heap} {C : Addr} {n : Nat} {σ σ' : Store} {A : Around} {s : Shared} {φ : List Addr} {g : Part} {E : Value → Shared → Prop}

set_option maxHeartbeats 2000000 in
theorem sm_get {nd vd : Nat} {m id : String} {x : V} {v : Value} {pl : Sem Bool} {Q : Value × List Value → Shared → Prop} (P : Pats hb nd vd) (e : smId nd vd m σ x = some id) (S : Sim hb C φ σ g s.heap) (hv : VR g φ v x) (q : Q (.builtin id, [v]) s) :
    wpAny (model prog w) A (getMethod v (Str.ofString m) pl) Q E s := by
  unfold smId at e
  split at e
  · obtain ⟨t, rfl⟩ := hv.ofStr
    split at e
    · rename_i h; subst h; cases e; exact GM.of _ (typeIs_str _ _ _) F.slot_str_lower F.type_str_lower GM.noRef q
    · split at e
      · rename_i h; subst h; cases e; exact GM.of _ (typeIs_str _ _ _) F.slot_str_join F.type_str_join GM.noRef q
      · split at e
        · rename_i h; subst h; cases e; exact GM.of _ (typeIs_str _ _ _) F.slot_str_index F.type_str_index GM.noRef q
        · cases e
  · split at e
    · rename_i a h
      obtain ⟨rfl, h⟩ := h
      cases e
      cases hv
      obtain ⟨o, ho, hc, hd⟩ : ∃ o, hb.get? a = some o ∧ o.cls = .type "re.Pattern" ∧ o.dict = none := by
        rcases h with rfl | rfl
        · exact P.pn.obj
        · exact P.pv.obj
      exact getMethod_builtin ⟨o, S.hbk _ _ ho, hc⟩ attrs_re slot_re_search type_re_search (fun a' e => by cases e; exact ⟨o, S.hbk _ _ ho, hd⟩) q
    · cases e
  · rename_i k
    obtain ⟨a, rfl, ha⟩ := hv.ofOwn
    split at e
    · rename_i vs q'
      split at e
      · rename_i h; subst h; cases e
        obtain ⟨ws, ⟨m', ho⟩, hr⟩ := S.own _ _ _ ha q'
        exact getMethod_builtin ⟨_, ho, rfl⟩ F.plainAttrs_list F.slot_list_append F.type_list_append (fun a' e => by cases e; exact ⟨_, ho, rfl⟩) q
      · split at e
        · rename_i h; subst h; cases e
          obtain ⟨ws, ⟨m', ho⟩, hr⟩ := S.own _ _ _ ha q'
          exact getMethod_builtin ⟨_, ho, rfl⟩ F.plainAttrs_list F.slot_list_extend F.type_list_extend (fun a' e => by cases e; exact ⟨_, ho, rfl⟩) q
        · split at e
          · rename_i h; subst h; cases e
            obtain ⟨ws, ⟨m', ho⟩, hr⟩ := S.own _ _ _ ha q'
            exact getMethod_builtin ⟨_, ho, rfl⟩ F.plainAttrs_list F.slot_list_index F.type_list_index (fun a' e => by cases e; exact ⟨_, ho, rfl⟩) q
          · cases e
    · rename_i es q'
      split at e
      · rename_i h; subst h; cases e
        obtain ⟨_, _, ho⟩ := S.own _ _ _ ha q'
        exact getMethod_builtin ⟨_, ho, rfl⟩ F.plainAttrs_dict F.slot_dict_items F.type_dict_items (fun a' e => by cases e; exact ⟨_, ho, rfl⟩) q
      · cases e
    · cases e
  · cases e

noncomputable def smName (m : String) : V → String
  | .str _ => if m = "lower" then "str.lower" else if m = "join" then "str.join" else "str.index"
  | .gl _ => "re.Pattern.search"
  | _ => if m = "append" then "list.append" else if m = "extend" then "list.extend" else if m = "index" then "list.index" else "dict.items"
theorem smId_name {nd vd : Nat} {m id : String} {x : V} (e : smId nd vd m σ x = some id) : id = smName m x ∧ ((∃ y, x = .str y ∧ (m = "lower" ∨ m = "join" ∨ m = "index")) ∨ (∃ a, x = .gl a ∧ m = "search") ∨ (∃ k, x = .own k ∧ (m = "append" ∨ m = "items" ∨ m = "extend" ∨ m = "index"))) := by
  unfold smId at e
  split at e
  · split at e
    · rename_i h; subst h; cases e; exact ⟨rfl, .inl ⟨_, rfl, .inl rfl⟩⟩
    · rename_i h0
      split at e
      · rename_i h; subst h; cases e; exact ⟨rfl, .inl ⟨_, rfl, .inr (.inl rfl)⟩⟩
      · split at e
        · rename_i h; subst h; cases e; exact ⟨rfl, .inl ⟨_, rfl, .inr (.inr rfl)⟩⟩
        · cases e
  · split at e
    · rename_i h; cases e; exact ⟨rfl, .inr (.inl ⟨_, rfl, h.1⟩)⟩
    · cases e
  · split at e
    · split at e
      · rename_i h; subst h; cases e; exact ⟨rfl, .inr (.inr ⟨_, rfl, .inl rfl⟩)⟩
      · split at e
        · rename_i h; subst h; cases e; exact ⟨rfl, .inr (.inr ⟨_, rfl, .inr (.inr (.inl rfl))⟩)⟩
        · split at e
          · rename_i h; subst h; cases e; exact ⟨rfl, .inr (.inr ⟨_, rfl, .inr (.inr (.inr rfl))⟩)⟩
          · cases e
    · split at e
      · rename_i h; subst h; cases e; exact ⟨rfl, .inr (.inr ⟨_, rfl, .inr (.inl rfl)⟩)⟩
      · cases e
    · cases e
  · cases e

theorem dict_nil_of {knd : KeyKind prog w Str} {h : Heap} {a : Addr} (e : h.get? a = some (dictOf [] 0)) : h.DictAt knd a [] 0 := ⟨_, #[], e, ⟨rfl, rfl, rfl⟩, rfl, fun _ h => by simp at h, .nil, List.nodup_nil⟩

theorem intAt_at {z : Int} {us : List Value} : ∀ {is : List Int} {i : Nat}, IntsAre us is → intAt z is = some i → kf_ints us = true ∧ kf_at z us = some i := by
  induction us with
  | nil => intro is i h e; cases h; cases e
  | cons u us ih =>
    intro is i h e
    cases h with
    | cons x t r =>
      have key : ∀ {vs : List Value} {ms : List Int}, IntsAre vs ms → kf_ints vs = true := by
        intro vs
        induction vs with
        | nil => intro _ _; rfl
        | cons v vs ih => intro ms h; cases h with | cons _ _ r => exact ih r
      unfold intAt at e
      refine ⟨key (IntsAre.cons x t r), ?_⟩
      show cond (isInt z (.int x t)) (some 0) (match kf_at z us with
        | some j => some (j + 1)
        | none => none) = some i
      split at e
      · rename_i q
        cases e
        rw [show isInt z (.int x t) = true from beq_iff_eq.mpr q]; rfl
      · rename_i q
        obtain ⟨j, h1, rfl⟩ := Option.map_eq_some_iff.mp e
        rw [(ih r h1).2, show isInt z (.int x t) = false from beq_eq_false_iff_ne.mpr q]; rfl
set_option maxHeartbeats 2000000 in
theorem sm_call {nd vd : Nat} {m id : String} {x d : V} {ds : List V} {v : Value} {vals : List Value} {σ₀ : Store} (P : Pats hb nd vd) (hid : smId nd vd m σ₀ x = some id) (e : smV nd vd m σ x ds = some (d, σ')) (S : Sim hb C φ σ g s.heap) (hv : VR g φ v x) (hvs : VRs g φ vals ds) :
    wpAny (model prog w) A (call (.builtin id) (v :: vals)) (Post hb C φ g s σ' d) E s := by
  obtain ⟨rfl, h⟩ := smId_name hid
  rcases h with ⟨y, rfl, rfl | rfl | rfl⟩ | ⟨a, rfl, rfl⟩ | ⟨k, rfl, rfl | rfl | rfl | rfl⟩
  · -- lower
    have e : (if ds.isEmpty then (lowerT y).map fun y => (V.str y, σ) else none) = some (d, σ') := e
    split at e
    case isFalse => cases e
    rename_i hds
    cases List.isEmpty_iff.mp hds
    cases hvs.inv0
    obtain ⟨z, h1, h2⟩ := Option.map_eq_some_iff.mp e
    cases h2
    obtain ⟨t, rfl⟩ := hv.ofStr
    obtain ⟨hl, hx⟩ := lower_strV h1
    refine SCL.lower (by show y.toArray.size ≤ _; rw [List.size_toArray]; omega) fun _ => ?_
    rw [hl]; exact Post.here S (.str _ _) _
  · -- join
    obtain ⟨d1, rfl, e'⟩ := one1_inv (show one1 ds _ = some (d, σ') from e)
    obtain ⟨u, rfl, hu⟩ := hvs.inv1
    obtain ⟨ws, h1, h2⟩ := Option.bind_eq_some_iff.mp e'
    obtain ⟨ss, h3, h4⟩ := Option.bind_eq_some_iff.mp h2
    split at h4
    · rename_i hl
      cases h4
      obtain ⟨t, rfl⟩ := hv.ofStr
      obtain ⟨a, us, rfl, hL, hr⟩ := lst_at S hu h1
      refine join_list hL (ys := ss.map strV) (strsOf_are hr h3) ?_ fun t' tk => ?_
      · have : ((ss.map strV).map (·.length)) = ss.map (·.length) := by rw [List.map_map]; congr 1
        rw [this, List.length_map]
        show _ + _ * y.toArray.size ≤ _
        rw [List.size_toArray]; exact hl
      · have : Txt.join (strV y) (ss.map strV) = strV (joinT y ss) := by
          rw [← join_strV]; exact eq_of_beq (join_closes rfl)
        rw [this]; exact Post.here S (.str _ _) _
    · cases h4
  · -- index of a text
    obtain ⟨d1, rfl, e1⟩ := one1_inv (show one1 ds _ = some (d, σ') from e)
    rcases Option.or_eq_some_iff.mp e1 with e2 | ⟨-, e2⟩
    case inr => cases e2
    obtain ⟨z, rfl, e3⟩ := strK_inv (show strK d1 _ = some (d, σ') from e2)
    obtain ⟨i, hi, e4⟩ := Option.map_eq_some_iff.mp e3
    cases e4
    obtain ⟨rest, ho⟩ : ∃ rest, Builtin.Str.occurrences (strV y) (strV z) 0 (strV y).length 1 = i :: rest := by
      cases q : Builtin.Str.occurrences (strV y) (strV z) 0 (strV y).length 1 with
      | nil => rw [q] at hi; cases hi
      | cons a r => rw [q] at hi; cases hi; exact ⟨r, rfl⟩
    obtain ⟨u, rfl, hu⟩ := hvs.inv1
    obtain ⟨t, rfl⟩ := hv.ofStr
    obtain ⟨t', rfl⟩ := hu.ofStr
    exact SC.index ho (Post.here S (.int _ _) _)
  · -- search
    obtain ⟨d1, rfl, e5⟩ := one1_inv (show one1 ds _ = some (d, σ') from e)
    obtain ⟨y, rfl, e6⟩ := strK_inv e5
    split at e6
    case isFalse => cases e6
    rename_i hc
    obtain ⟨hl, h⟩ := hc
    cases e6
    obtain ⟨u, rfl, hu⟩ := hvs.inv1
    obtain ⟨t, rfl⟩ := hu.ofStr
    cases hv
    rcases h with ⟨rfl, hy⟩ | ⟨rfl, hy⟩
    · exact search_none (P.pn.keeps S.hbk) rfl rfl rfl (fun c hc seen => rxName_out (List.all_eq_true.mp hy c hc) seen) hl (Post.here S .none s.toks)
    · exact search_none (P.pv.keeps S.hbk) rfl rfl rfl (fun c hc seen => rxValue_out (List.all_eq_true.mp hy c hc) seen) hl (Post.here S .none s.toks)
  · -- append
    obtain ⟨d1, rfl, e7⟩ := one1_inv (show one1 ds _ = some (d, σ') from e)
    obtain ⟨vs, q', e8⟩ := lstK_inv e7
    split at e8
    case isFalse => cases e8
    rename_i hl
    cases e8
    obtain ⟨u, rfl, hu⟩ := hvs.inv1
    obtain ⟨a, rfl, ha⟩ := hv.ofOwn
    obtain ⟨ws, hp, hr⟩ := S.own _ _ _ ha q'
    refine wpAny_list_append_plain hp (fun h' hp' hs' => ?_) (by rw [List.size_toArray, hr.length]; exact Nat.le_trans hl (by decide))
    obtain ⟨S', G'⟩ := S.turn (x := .lst (vs ++ [d1])) ha hs' ⟨ws ++ [u], by simpa using hp', hr.append (.cons hu .nil)⟩
    exact ⟨φ, g, G', S', .none, ⟨h', s.toks, rfl⟩⟩
  · -- items
    obtain ⟨es, q', hds, e'⟩ : ∃ es, σ[k]? = some (.dct es) ∧ ds.isEmpty = true ∧ (V.items k, σ) = (d, σ') := by
      have e : (match σ[k]? with | some (.dct _) => if ds.isEmpty then some (V.items k, σ) else none | _ => none) = some (d, σ') := e
      rcases q : σ[k]? with _ | o
      · rw [q] at e; cases e
      · rw [q] at e
        cases o <;> first | (cases e; done) | skip
        dsimp only at e
        split at e
        · rename_i h; exact ⟨_, rfl, h, Option.some.inj e⟩
        · cases e
    cases e'
    cases List.isEmpty_iff.mp hds
    cases hvs.inv0
    obtain ⟨a, rfl, ha⟩ := hv.ofOwn
    obtain ⟨_, hn, ho⟩ := S.own _ _ _ ha q'
    have hd : s.heap.DictAt (strKind prog w) a [] 0 := dict_nil_of ho
    show wpAny _ _ (call (.builtin "dict.items") [.ref a]) _ _ _
    refine call_meetsIn F.slot_dict_items ⟨_, ho, rfl⟩ F.entry_dict_items (F.args_dict_items_1 _) (meets_dict_items (strKind prog w) a (by simpa using hn)) ⟨?_, ?_⟩
    · exact ⟨[], hd.dictOf⟩
    · obtain ⟨S', G'⟩ := S.put (fresh_none s.heap) (o := { cls := .type "dict_items", data := .fields #[.ref a] }) (h' := s.heap.push { cls := .type "dict_items", data := .fields #[.ref a] }) (Heap.get?_push_size _ rfl) (fun b o e => Heap.get?_push_of_some _ e)
      exact ⟨φ, _, G', S', .items ha (by unfold putG; rw [if_pos rfl]) rfl, ⟨_, _, rfl⟩⟩
  · -- extend
    obtain ⟨d1, rfl, e9⟩ := one1_inv (show one1 ds _ = some (d, σ') from e)
    obtain ⟨j, rfl, e10⟩ := ownK_inv e9
    obtain ⟨vs, h1, e11⟩ := lstK_inv e10
    obtain ⟨ws, h2, e12⟩ := lstK_inv e11
    split at e12
    case isFalse => cases e12
    rename_i hc
    obtain ⟨hne, hl⟩ := hc
    cases e12
    obtain ⟨u, rfl, hu⟩ := hvs.inv1
    obtain ⟨a, rfl, ha⟩ := hv.ofOwn
    obtain ⟨b, rfl, hb⟩ := hu.ofOwn
    obtain ⟨us, ⟨m1, hp⟩, hr⟩ := S.own _ _ _ ha h1
    obtain ⟨us', ⟨m2, hp'⟩, hr'⟩ := S.own _ _ _ hb h2
    have hz : us.length + us'.length ≤ 1000 := by rw [hr.length, hr'.length]; exact hl
    show wpAny _ _ (call (.builtin "list.extend") [.ref a, .ref b]) _ _ _
    refine call_meets F.slot_list_extend ⟨_, hp, rfl⟩ F.entry_list_extend (show argsOk "list.extend" _ from F.args_list_extend_2 _ _) (AutoSeq1.list_extend_list_list_0 a us.toArray m1 b us'.toArray m2 ?_ (by rw [List.size_toArray]; rw [sizeLine_eq]; omega) (by rw [List.size_toArray, List.size_toArray, sizeLine_eq]; omega)) ⟨hp, hp', ?_⟩
    · rw [Bool.and_eq_true]
      intro hc
      have := hc.2
      unfold Builtin.List.listTooLong at this
      simp [sizeLine_eq] at this
      omega
    · obtain ⟨m3, he⟩ := mapSeq_app us.toArray m1 us'.toArray
      obtain ⟨S', G'⟩ := S.turn (x := .lst (vs ++ ws)) ha (Heap.SameBut.update ..) ⟨us ++ us', ⟨m3, by rw [Heap.get?_update_self (Obj.mapSeq fun x => x ++ us'.toArray) hp rfl, he]; simp⟩, hr.append hr'⟩
      exact ⟨φ, g, G', S', .none, ⟨_, s.toks, rfl⟩⟩
  · -- index in a list
    obtain ⟨d1, rfl, e13⟩ := one1_inv (show one1 ds _ = some (d, σ') from e)
    rcases Option.or_eq_some_iff.mp e13 with e14 | ⟨-, e14⟩
    case inl => cases e14
    obtain ⟨z, rfl, e15⟩ := intK_inv (show intK d1 _ = some (d, σ') from e14)
    obtain ⟨vs, h1, e16⟩ := lstK_inv e15
    obtain ⟨is, h2, e17⟩ := Option.bind_eq_some_iff.mp e16
    obtain ⟨i, h3, e18⟩ := Option.bind_eq_some_iff.mp e17
    split at e18
    case isFalse => cases e18
    rename_i hl
    cases e18
    obtain ⟨u, rfl, hu⟩ := hvs.inv1
    obtain ⟨t, rfl⟩ := hu.ofInt
    obtain ⟨a, rfl, ha⟩ := hv.ofOwn
    obtain ⟨us, ⟨m1, hp⟩, hr⟩ := S.own _ _ _ ha h1
    have hI := ints_of hr h2
    obtain ⟨a0, a1⟩ := intAt_at hI h3
    obtain ⟨a1, a2, a3⟩ := kf_at_spec a1
    have hL := hI.length
    show wpAny _ _ (call (.builtin "list.index") [.ref a, .int z t]) _ _ _
    exact call_meets F.slot_list_index ⟨_, hp, rfl⟩ F.entry_list_index (show argsOk "list.index" _ from F.args_list_index_2 _ _)
      (MeetsSeq.list_index a us.toArray m1 (.int z t) (isInt z) (fun y hy => kf_eq a0 y (by simpa using hy)) i (by simpa using a1) (by omega) (by simpa using a2) (fun m hm hlt => by simpa using a3 m (by simpa using hm) hlt)) ⟨hp, Post.here S (.int _ _) _⟩
end
end Mine

namespace Mine

noncomputable def baseOk : Expr → Bool
  | .Call (.Name _ _) [] [] _ => false
  | _ => true
theorem base_eq {o : Expr} {attr : Str} {env : Env} {whole : Sem Value} (h : baseOk o = true) : attributeBase o attr env whole = whole := by
  cases o <;> first | rfl | skip
  rename_i f as ks p
  cases f <;> first | rfl | skip
  cases as <;> first | rfl | skip
  cases ks <;> first | rfl | cases h

noncomputable def isName (e : Expr) : Bool := decide (e.ctorIdx = 23)

section
variable {prog : Program} {w : World} {hb : Heap} {C : Addr} {n : Nat} {env : Env} {ρ : Rho} {σ σ₁ σ₂ σ₃ : Store}

theorem method_form {A : Around} {s : Shared} {E : Value → Shared → Prop} {o : Expr} {name : Str} {apos pos : Pos} {es : List Expr} {ks : List Keyword} {Q : Value → Shared → Prop}
    (hbase : baseOk o = true) (hst : es.all notStar = true) (hkn : (kwNames ks).all (·.isSome) = true) (hlen : es.length + ks.length < 29) (hline : (apos.endLine == pos.line) = true)
    (h : wpAny (model prog w) A (eval o env) (fun ov s₁ => ∀ pl, wpAny (model prog w) A (getMethod ov name pl) (fun fx s₂ => wpAny (model prog w) A (callWith pos fx.1 fx.2 (backTo pos (starEach es env)) (backToKw pos (keywordEach ks env))) Q E s₂) E s₁) E s) :
    wpAny (model prog w) A (eval (.Call (.Attribute o name apos) es ks pos) env) Q E s := by
  rw [arm_eval_Call, base_eq hbase]
  refine wpAny_bind (wpAny_mono h (fun ov s₁ h₁ => wpAny_bind (wpAny_standAt ?_)) fun _ _ x => x)
  have hform : methodCallForm (es.length + ks.length) (backTo pos (starEach es env)) (backToKw pos (keywordEach ks env)) = true := by
    unfold methodCallForm
    have h1 : (backTo pos (starEach es env)).all (!·.1) = true := by
      have := stars_none (env := env) (pos := pos) hst
      rw [List.all_eq_true]; intro x hx
      rw [List.any_eq_false] at this
      simpa using this x hx
    have h2 : (backToKw pos (keywordEach ks env)).all (·.1.isSome) = true := by
      have : (backToKw pos (keywordEach ks env)).all (·.1.isSome) = ((backToKw pos (keywordEach ks env)).map (·.1)).all (·.isSome) := by rw [List.all_map]; rfl
      rw [this, kw_names]; exact hkn
    rw [h1, h2, Bool.true_and, Bool.true_and, decide_eq_true_iff]
    split <;> omega
  unfold methodCall
  rw [hform]
  unfold calleeOf methodCallPos
  simp only [if_true, hline, Bool.not_true, Bool.false_or]
  exact wpAny_bind (wpAny_holding (wpAny_mono (h₁ _) (fun fx s₂ h₂ => wpAny_bind (wpAny_pure h₂)) fun _ _ x => x))

theorem sm_ok {nd vd : Nat} {m id : String} {o : Expr} {apos pos : Pos} {es : List Expr} {x d : V} {ds : List V} (P : Pats hb nd vd) (hbase : baseOk o = true) (hst : es.all notStar = true) (hlen : es.length < 29) (hline : (apos.endLine == pos.line) = true)
    (a : EvOK prog w hb C n env ρ σ o x σ₁) (b : EvsOK prog w hb C n env ρ σ₁ es ds σ₂) (hid : smId nd vd m σ₁ x = some id) (e : smV nd vd m σ₂ x ds = some (d, σ₃)) :
    EvOK prog w hb C n env ρ σ (.Call (.Attribute o (Str.ofString m) apos) es [] pos) d σ₃ := by
  intro A s φ g E hA S R
  refine method_form hbase hst rfl (by simpa using hlen) hline (wpAny_mono (a A s φ g E hA S R) (fun v s₁ h₁ => ?_) fun _ _ e => e)
  obtain ⟨φ₁, g₁, G₁, S₁, V₁, T₁⟩ := h₁
  intro pl
  refine sm_get P hid S₁ V₁ ?_
  refine callWith_mach rfl hst (args_run b evk_nil (show kwIs [] [] from rfl) (stars_head hst) hA S₁ (R.grow G₁) fun y s₂ φ₂ g₂ G₂ S₂ T₂ V₂ K₂ => ?_)
  have hk : y.kw = [] := by have := K₂.1; simpa using this
  rw [hk]
  exact wpAny_mono (sm_call P hid e S₂ (V₁.mono G₂.mono G₂.pre) V₂) (fun _ _ p => (p.trans G₂ T₂).trans G₁ T₁) fun _ _ e => e

structure ClsOK (K : Frag) (hb : Heap) (C : Addr) (FA : String → Option Addr) : Prop where
  kin : K.In hb
  ga : findIn K (.ref C) "__getattribute__" = some (some (.builtin "object.__getattribute__"))
  gattr : findIn K (.ref C) "__getattr__" = some none
  sattr : findIn K (.ref C) "__setattr__" = some (some (.builtin "object.__setattr__"))
  over : plainOver K C = true
  hasD : hasDictIn K C = true
  hdr : findIn K (.ref C) "_headers" = some none
  makes : makesIn K C = true
  meth : ∀ m a, FA ("Headers." ++ m) = some a → findIn K (.ref C) (Str.ofString m) = some (some (.ref a)) ∧ typeIn K (.ref a) = some (.type "function") ∧ (Str.ofString m == ("_headers" : Str)) = false

theorem inst_at {s : Shared} {φ : List Addr} {g : Part} {k : Nat} {v : Value} (S : Sim hb C φ σ g s.heap) (hv : VR g φ v (.own k)) (hi : isInst σ k = true) :
    ∃ a dx es m, v = .ref a ∧ InstAt s.heap a (instObj C dx) C (some (dictOf es m)) ∧ ∀ name : Str, (name == ("_headers" : Str)) = false → getL name es = some none := by
  obtain ⟨a, rfl, ha⟩ := hv.ofOwn
  obtain ⟨_, hi'⟩ := Option.isSome_iff_exists.mp hi
  obtain ⟨d, q, hi'⟩ := instK_inv hi'
  obtain ⟨x, q2, -⟩ := attrsK_inv hi'
  obtain ⟨dx, h1, h2⟩ := S.own _ _ _ ha q
  have h3 := S.own _ _ _ h1 q2
  cases x with
  | none => exact ⟨a, dx, [], 0, rfl, ⟨h2, rfl, rfl, h3⟩, fun _ _ => rfl⟩
  | some x =>
    obtain ⟨hsh, t, u, n, h4, h5⟩ := h3
    refine ⟨a, dx, _, n, rfl, ⟨h2, rfl, rfl, h4⟩, fun name hn => ?_⟩
    have : (Value.str (Str.ofString "_headers") t).isStr name = false := by
      show (Str.ofString "_headers" == name) = false
      rw [Bool.eq_false_iff] at hn ⊢
      intro q; exact hn (by rw [beq_iff_eq] at q ⊢; exact q.symm)
    unfold getL
    rw [List.find?_cons, this]
    rfl

theorem meth_ok {K : Frag} {O : Orc} {FA : String → Option Addr} {m : String} {fa : Addr} {o : Expr} {apos pos : Pos} {es : List Expr} {ks : List Keyword} {k : Nat} {d : V} {ds : List V} {kds : List (String × V)} {σ₄ : Store} (hC : ClsOK K hb C FA) (hO : CallOK prog w hb C FA n O) (hF : FnsOK hb FA) (hf : FA ("Headers." ++ m) = some fa)
    (hbase : baseOk o = true) (hst : es.all notStar = true) (hlen : es.length + ks.length < 29) (hline : (apos.endLine == pos.line) = true)
    (a : EvOK prog w hb C n env ρ σ o (.own k) σ₁) (hi : isInst σ₁ k = true) (b : EvsOK prog w hb C n env ρ σ₁ es ds σ₂) (c : EvKOK prog w hb C n env ρ σ₂ ks kds σ₃) (hk : kwIs ks kds)
    (e : O ("Headers." ++ m) (.own k :: ds) kds σ₃ = some (d, σ₄)) : EvOK prog w hb C n env ρ σ (.Call (.Attribute o (Str.ofString m) apos) es ks pos) d σ₄ := by
  intro A s φ g E hA S R
  refine method_form hbase hst (by rw [hk]; simp) hlen hline (wpAny_mono (a A s φ g E hA S R) (fun v s₁ h₁ => ?_) fun _ _ e => e)
  obtain ⟨φ₁, g₁, G₁, S₁, V₁, T₁⟩ := h₁
  intro pl
  obtain ⟨x, dx, es', m', rfl, I, hn⟩ := inst_at S₁ V₁ hi
  obtain ⟨m1, m2, m3⟩ := hC.meth m fa hf
  refine method_fn (hC.kin.keeps S₁.hbk) I hC.ga hC.gattr m1 m2 (by show (lookIn _ (dictOf es' m')).map _ = _; rw [lookIn_dict, hn _ m3]; rfl) ?_
  obtain ⟨of, fd, ho, hd⟩ := hF _ _ hf
  refine callWith_function_kw (o := of) (fd := fd) (args_run b c hk (stars_head hst) hA S₁ (R.grow G₁) fun y s₂ φ₂ g₂ G₂ S₂ T₂ V₂ K₂ => ?_)
  refine ⟨⟨S₂.hbk fa of ho, hd⟩, ?_⟩
  exact wpAny_mono (hO.run hf e hA.rc S₂ (.cons (V₁.mono G₂.mono G₂.pre) V₂) K₂) (fun _ _ p => (p.trans G₂ T₂).trans G₁ T₁) fun _ _ e => e

theorem handed_ref (v : Value) {g : Part} {φ : List Addr} {d : V} (h : VR g φ v d) : handedIn v = true := by cases h <;> rfl

theorem attr_get {K : Frag} {FA : String → Option Addr} {A : Around} {s : Shared} {φ : List Addr} {g : Part} {E : Value → Shared → Prop} {k d : Nat} {x : V} {v : Value} {expr : Bool} (hC : ClsOK K hb C FA) (S : Sim hb C φ σ g s.heap) (hv : VR g φ v (.own k)) (h1 : σ[k]? = some (.inst d)) (h2 : σ[d]? = some (.attrs (some x))) :
    wpAny (model prog w) A (getAttr v "_headers" expr) (Post hb C φ g s σ x) E s := by
  obtain ⟨a, rfl, ha⟩ := hv.ofOwn
  obtain ⟨dx, h3, h4⟩ := S.own _ _ _ ha h1
  obtain ⟨hsh, t, u, n, h5, h6⟩ := S.own _ _ _ h3 h2
  have I : InstAt s.heap a (instObj C dx) C (some (dictOf [⟨hsh, .str (Str.ofString "_headers") t, u⟩] n)) := ⟨h4, rfl, rfl, h5⟩
  have hl : lookIn ("_headers" : Str) (dictOf [⟨hsh, .str (Str.ofString "_headers") t, u⟩] n) = some (some u) := by
    rw [lookIn_dict]; unfold getL
    have : (Value.str (Str.ofString "_headers") t).isStr ("_headers" : Str) = true := by
      show (Str.ofString "_headers" == Str.ofString "_headers") = true
      simp
    rw [List.find?_cons, this]
  exact get_value (hC.kin.keeps S.hbk) I hC.ga (findObj_own hC.hasD hC.hdr rfl hl) (handed_ref u h6) (Post.here S h6 _)

theorem attr_ok {K : Frag} {FA : String → Option Addr} {o : Expr} {pos : Pos} {k d : Nat} {x : V} (hC : ClsOK K hb C FA) (hbase : isName o = true) (a : EvOK prog w hb C n env ρ σ o (.own k) σ₁) (h1 : σ₁[k]? = some (.inst d)) (h2 : σ₁[d]? = some (.attrs (some x))) :
    EvOK prog w hb C n env ρ σ (.Attribute o "_headers" pos) x σ₁ := by
  intro A s φ g E hA S R
  cases o <;> first | (cases (show false = true from hbase); done) | skip
  rw [arm_eval_Attribute, base_eq rfl]
  refine wpAny_bind (wpAny_mono (a A s φ g E hA S R) (fun v s₁ h₁ => wpAny_bind (wpAny_standAt ?_)) fun _ _ e => e)
  obtain ⟨φ₁, g₁, G₁, S₁, V₁, T₁⟩ := h₁
  refine wpAny_bind (wpAny_holding (wpAny_mono (attr_get hC S₁ V₁ h1 h2) (fun r s₂ h₂ => ?_) fun _ _ e => e))
  exact wpAny_bind (wpAny_pure (wpAny_pure (h₂.trans G₁ T₁)))

theorem new_ok {K : Frag} {O : Orc} {FA : String → Option Addr} {fi : Addr} {x : Str} {p pos : Pos} {es : List Expr} {ds : List V} {σ₂ : Store} (hC : ClsOK K hb C FA) (hO : CallOK prog w hb C FA n O) (hf : FA "Headers.__init__" = some fi)
    (hn : EvOK prog w hb C n env ρ σ (.Name x p) (.gl C) σ) (b : EvsOK prog w hb C n env ρ σ es ds σ₁) (hst : es.all notStar = true)
    (e : O "Headers.__init__" (.own (σ₁.length + 1) :: ds) [] (σ₁ ++ [.attrs none, .inst σ₁.length]) = some (.none, σ₂)) (hkp : keepIn K (.ref C) = true) : EvOK prog w hb C n env ρ σ (.Call (.Name x p) es [] pos) (.own (σ₁.length + 1)) σ₂ := by
  intro A s φ g E hA S R
  refine wpAny_Call_Name_kw (wpAny_mono (hn A s φ g E hA S R) (fun v s₁ h₁ => ?_) fun _ _ e => e)
  obtain ⟨φ₁, g₁, G₁, S₁, V₁, T₁⟩ := h₁
  cases V₁
  refine callWith_of (by rw [stars_none hst]; rfl) (keeps_K hkp) (args_run b evk_nil (show kwIs [] [] from rfl) (stars_head hst) hA S₁ (R.grow G₁) fun y s₂ φ₂ g₂ G₂ S₂ T₂ V₂ K₂ => ⟨hC.kin.keeps S₂.hbk, ?_⟩)
  obtain ⟨m1, m2, m3⟩ := hC.meth "__init__" fi hf
  obtain ⟨hh, gg, dd, tt, os⟩ := s₂
  refine wpAny_call (make_core (makes_of (hC.kin.keeps S₂.hbk) hC.makes) (looks_findIn (hC.kin.keeps S₂.hbk) m1) (fun self => bind_fn (hC.kin.keeps S₂.hbk) self m2) (.inl rfl) ?_)
  obtain ⟨S₃, G₃⟩ := S₂.more (x := .attrs none) (h' := hh.push emptyDict) (fresh_none hh) (fun b o e => Heap.get?_push_of_some _ e) (Heap.get?_push_size _ rfl)
  have hsz : (hh.push emptyDict).objs.size = hh.objs.size + 1 := Heap.size_push ..
  obtain ⟨S₄, G₄⟩ := S₃.more (x := .inst σ₁.length) (h' := (hh.push emptyDict).push (instObj C hh.objs.size)) (fresh_none _) (fun b o e => Heap.get?_push_of_some _ e)
    ⟨hh.objs.size, by rw [List.append_assoc, List.getElem?_append_right (by rw [S₂.len]; exact Nat.le_refl _), S₂.len]; simp, Heap.get?_push_size _ rfl⟩
  rw [hsz] at S₄ G₄
  have hk : φ₂.length = σ₁.length := S₂.len
  have hx : VR g₂ (φ₂ ++ [hh.objs.size] ++ [hh.objs.size + 1]) (.ref (hh.objs.size + 1)) (.own (σ₁.length + 1)) := .own (by rw [List.getElem?_append_right (by simp [hk]), List.length_append, hk]; simp)
  have G₅ := G₃.trans G₄
  have hkw : y.kw = [] := by have := K₂.1; simpa using this
  rw [hkw]
  rw [show σ₁ ++ [OObj.attrs none] ++ [OObj.inst σ₁.length] = σ₁ ++ [.attrs none, .inst σ₁.length] from by simp] at S₄
  refine codeAny_mono (hO "Headers.__init__" fi (.own (σ₁.length + 1) :: ds) [] _ .none σ₂ hf e _ ⟨(hh.push emptyDict).push (instObj C hh.objs.size), gg, dd, tt, os⟩ _ g₂ (.ref (hh.objs.size + 1) :: y.pos) [] (hA.under C y.pos []) S₄ (.cons hx (V₂.mono G₅.mono G₅.pre)) KRs.nil) fun r s' z => ?_
  rcases r with e | (v | _ | _ | _) <;> first | exact z.elim | skip
  obtain ⟨φ₆, g₆, G₆, S₆, V₆, T₆⟩ := z
  cases V₆
  refine ⟨rfl, ?_⟩
  have P : Post hb C φ₂ g₂ ⟨hh, gg, dd, tt, os⟩ σ₂ (.own (σ₁.length + 1)) (.ref (hh.objs.size + 1)) s' := ⟨φ₆, g₆, G₅.trans G₆, S₆, hx.mono G₆.mono G₆.pre, (Rest.mk ⟨hh, gg, dd, tt, os⟩ _ tt).trans T₆⟩
  exact (P.trans G₂ T₂).trans G₁ T₁
end
end Mine

namespace Mine

section
variable {prog : Program} {w : World} {hb : Heap} {C : Addr} {n : Nat} {env : Env} {ρ : Rho} {σ σ₁ σ₂ σ₃ : Store}

noncomputable def Step (hb : Heap) (C : Addr) (φ : List Addr) (g : Part) (s : Shared) (σ' : Store) (s' : Shared) : Prop :=
  ∃ φ' g', Grow φ g s.heap φ' g' s'.heap ∧ Sim hb C φ' σ' g' s'.heap ∧ Rest s s'
theorem Step.trans {φ φ₁ : List Addr} {g g₁ : Part} {s s₁ s' : Shared} {σ' : Store} (x : Grow φ g s.heap φ₁ g₁ s₁.heap) (r : Rest s s₁) (p : Step hb C φ₁ g₁ s₁ σ' s') : Step hb C φ g s σ' s' :=
  let ⟨φ', g', a, b, e⟩ := p; ⟨φ', g', x.trans a, b, r.trans e⟩
theorem Step.here {φ : List Addr} {g : Part} {s : Shared} (S : Sim hb C φ σ g s.heap) (tk : Nat) : Step hb C φ g s σ { s with toks := tk } := ⟨φ, g, Grow.refl .., S, ⟨s.heap, tk, rfl⟩⟩

noncomputable def TestOK (prog : Program) (w : World) (hb : Heap) (C : Addr) (n : Nat) (env : Env) (ρ : Rho) (σ : Store) (e : Expr) (t : Bool) (σ' : Store) : Prop :=
  ∀ A s φ g E, Rm n A → Sim hb C φ σ g s.heap → ER hb φ g s.heap env ρ → wpAny (model prog w) A (isTrue e env (eval e env)) (fun b s' => b = t ∧ Step hb C φ g s σ' s') E s
noncomputable def AllOK (prog : Program) (w : World) (hb : Heap) (C : Addr) (n : Nat) (env : Env) (ρ : Rho) (σ : Store) (op : BoolOp) (es : List Expr) (t : Bool) (σ' : Store) : Prop :=
  ∀ A s φ g E, Rm n A → Sim hb C φ σ g s.heap → ER hb φ g s.heap env ρ → wpAny (model prog w) A (allTrue op es env) (fun b s' => b = t ∧ Step hb C φ g s σ' s') E s
noncomputable def BoolOK (prog : Program) (w : World) (hb : Heap) (C : Addr) (n : Nat) (env : Env) (ρ : Rho) (σ : Store) (op : BoolOp) (es : List Expr) (d : V) (σ' : Store) : Prop :=
  ∀ A s φ g E pos, Rm n A → Sim hb C φ σ g s.heap → ER hb φ g s.heap env ρ → wpAny (model prog w) A (boolOp pos op (evalEach es env)) (Post hb C φ g s σ' d) E s

noncomputable def isPlainTest (e : Expr) : Bool := decide (e.ctorIdx ≠ 3) && decide (e.ctorIdx ≠ 0) && decide (e.ctorIdx ≠ 5) && decide (e.ctorIdx ≠ 15)
theorem isTrue_eq {e : Expr} {whole : Sem Value} (h : isPlainTest e = true) : isTrue e env whole = (do let v ← whole; standAt e.pos; holding [v] (truthy v)) := by
  cases e <;> first | rfl | cases (show false = true from h)

theorem test_plain {e : Expr} {x : V} {t : Bool} (hp : isPlainTest e = true) (a : EvOK prog w hb C n env ρ σ e x σ₁) (ht : truthV σ₁ x = some t) : TestOK prog w hb C n env ρ σ e t σ₁ := by
  intro A s φ g E hA S R
  rw [isTrue_eq hp]
  refine wpAny_bind (wpAny_mono (a A s φ g E hA S R) (fun v s₁ h₁ => wpAny_bind (wpAny_standAt (wpAny_holding ?_))) fun _ _ e => e)
  obtain ⟨φ₁, g₁, G₁, S₁, V₁, T₁⟩ := h₁
  exact truth_op ht S₁ V₁ fun tk => ⟨rfl, Step.trans G₁ T₁ (Step.here S₁ tk)⟩
theorem test_not {e : Expr} {t : Bool} {pos : Pos} (a : TestOK prog w hb C n env ρ σ e t σ₁) : TestOK prog w hb C n env ρ σ (.UnaryOp .Not e pos) (!t) σ₁ :=
  fun A s φ g E hA S R => isTrue_not (wpAny_mono (a A s φ g E hA S R) (fun b s' h => ⟨by rw [h.1], h.2⟩) fun _ _ e => e)
theorem test_bool {op : BoolOp} {es : List Expr} {t : Bool} {pos : Pos} (a : AllOK prog w hb C n env ρ σ op es t σ₁) : TestOK prog w hb C n env ρ σ (.BoolOp op es pos) t σ₁ :=
  fun A s φ g E hA S R => a A s φ g E hA S R
theorem all_nil {op : BoolOp} : AllOK prog w hb C n env ρ σ op [] (op == .And) σ := fun A s φ g E hA S R => wpAny_pure ⟨rfl, Step.here S s.toks⟩
theorem all_stop {op : BoolOp} {e : Expr} {es : List Expr} (a : TestOK prog w hb C n env ρ σ e (!(op == .And)) σ₁) : AllOK prog w hb C n env ρ σ op (e :: es) (!(op == .And)) σ₁ := by
  intro A s φ g E hA S R
  show wpAny _ A (isTrue e env (eval e env) >>= fun b => match op, b with
    | .And, false => pure false
    | .Or, true => pure true
    | _, _ => allTrue op es env) _ _ s
  refine wpAny_bind (wpAny_mono (a A s φ g E hA S R) (fun b s₁ h₁ => ?_) fun _ _ e => e)
  obtain ⟨rfl, h₁⟩ := h₁
  cases op <;> exact wpAny_pure ⟨rfl, h₁⟩
theorem all_go {op : BoolOp} {e : Expr} {es : List Expr} {t : Bool} (a : TestOK prog w hb C n env ρ σ e (op == .And) σ₁) (b : AllOK prog w hb C n env ρ σ₁ op es t σ₂) : AllOK prog w hb C n env ρ σ op (e :: es) t σ₂ := by
  intro A s φ g E hA S R
  show wpAny _ A (isTrue e env (eval e env) >>= fun b => match op, b with
    | .And, false => pure false
    | .Or, true => pure true
    | _, _ => allTrue op es env) _ _ s
  refine wpAny_bind (wpAny_mono (a A s φ g E hA S R) (fun b' s₁ h₁ => ?_) fun _ _ e => e)
  obtain ⟨rfl, φ₁, g₁, G₁, S₁, T₁⟩ := h₁
  have := wpAny_mono (b A s₁ φ₁ g₁ E hA S₁ (R.grow G₁)) (fun b' s' h => (⟨h.1, Step.trans G₁ T₁ h.2⟩ : b' = t ∧ Step hb C φ g s σ₂ s')) fun _ _ e => e
  cases op <;> exact this
theorem test_ife {c a b : Expr} {t u : Bool} {pos : Pos} (hc : TestOK prog w hb C n env ρ σ c t σ₁) (h : TestOK prog w hb C n env ρ σ₁ (if t then a else b) u σ₂) : TestOK prog w hb C n env ρ σ (.IfExp c a b pos) u σ₂ := by
  intro A s φ g E hA S R
  refine isTrue_IfExp (wpAny_mono (hc A s φ g E hA S R) (fun b' s₁ h₁ => ?_) fun _ _ e => e)
  obtain ⟨rfl, φ₁, g₁, G₁, S₁, T₁⟩ := h₁
  have := wpAny_mono (h A s₁ φ₁ g₁ E hA S₁ (R.grow G₁)) (fun b' s' h => (⟨h.1, Step.trans G₁ T₁ h.2⟩ : b' = u ∧ Step hb C φ g s σ₂ s')) fun _ _ e => e
  cases b' <;> exact this
theorem ife_ok {c a b : Expr} {t : Bool} {d : V} {pos : Pos} (hc : TestOK prog w hb C n env ρ σ c t σ₁) (h : EvOK prog w hb C n env ρ σ₁ (if t then a else b) d σ₂) : EvOK prog w hb C n env ρ σ (.IfExp c a b pos) d σ₂ := by
  intro A s φ g E hA S R
  refine wpAny_IfExp (wpAny_mono (hc A s φ g E hA S R) (fun b' s₁ h₁ => ?_) fun _ _ e => e)
  obtain ⟨rfl, φ₁, g₁, G₁, S₁, T₁⟩ := h₁
  have := wpAny_mono (h A s₁ φ₁ g₁ E hA S₁ (R.grow G₁)) (fun v s' h => Post.trans G₁ T₁ h) fun _ _ e => e
  cases b' <;> exact this
theorem test_cmp {l r : Expr} {op : CmpOp} {pos : Pos} {x y d : V} {t : Bool} (a : EvOK prog w hb C n env ρ σ l x σ₁) (b : EvOK prog w hb C n env ρ σ₁ r y σ₂) (hm : behindInMarks op r = false)
    (h : ∀ A s φ g E v u, Rm n A → Sim hb C φ σ₂ g s.heap → VR g φ v x → VR g φ u y → wpAny (model prog w) A (compareOp op v u) (Post hb C φ g s σ₂ d) E s) (ht : truthV σ₂ d = some t) : TestOK prog w hb C n env ρ σ (.Compare l [op] [r] pos) t σ₂ := by
  intro A s φ g E hA S R
  refine wpAny_isTrue_Compare1 (two_ok a b hA S R fun v u s' φ' g' G' S' _ T' V' U' => wpAny_mono (h A s' φ' g' E v u hA S' V' U') (fun c s₃ h₃ => ?_) fun _ _ e => e) hm
  obtain ⟨φ₁, g₁, G₁, S₁, V₁, T₁⟩ := h₃
  exact truth_op ht S₁ V₁ fun tk => ⟨rfl, Step.trans G' T' (Step.trans G₁ T₁ (Step.here S₁ tk))⟩

theorem bool_one {op : BoolOp} {e : Expr} {d : V} (a : EvOK prog w hb C n env ρ σ e d σ₁) : BoolOK prog w hb C n env ρ σ op [e] d σ₁ := fun A s φ g E pos hA S R => a A s φ g E hA S R
theorem bool_stop {op : BoolOp} {e e2 : Expr} {es : List Expr} {d : V} (a : EvOK prog w hb C n env ρ σ e d σ₁) (ht : truthV σ₁ d = some (!(op == .And))) : BoolOK prog w hb C n env ρ σ op (e :: e2 :: es) d σ₁ := by
  intro A s φ g E pos hA S R
  show wpAny _ A (eval e env >>= fun v => standAt pos >>= fun _ => holding [v] (truthy v) >>= fun t => match op, t with
    | .And, false | .Or, true => pure v
    | _, _ => boolOp pos op (evalEach (e2 :: es) env)) _ _ s
  refine wpAny_bind (wpAny_mono (a A s φ g E hA S R) (fun v s₁ h₁ => wpAny_bind (wpAny_standAt (wpAny_bind (wpAny_holding ?_)))) fun _ _ e => e)
  obtain ⟨φ₁, g₁, G₁, S₁, V₁, T₁⟩ := h₁
  refine truth_op ht S₁ V₁ fun tk => ?_
  cases op <;> exact wpAny_pure (Post.trans G₁ T₁ (Post.here S₁ V₁ tk))
theorem bool_go {op : BoolOp} {e e2 : Expr} {es : List Expr} {x d : V} (a : EvOK prog w hb C n env ρ σ e x σ₁) (ht : truthV σ₁ x = some (op == .And)) (b : BoolOK prog w hb C n env ρ σ₁ op (e2 :: es) d σ₂) : BoolOK prog w hb C n env ρ σ op (e :: e2 :: es) d σ₂ := by
  intro A s φ g E pos hA S R
  show wpAny _ A (eval e env >>= fun v => standAt pos >>= fun _ => holding [v] (truthy v) >>= fun t => match op, t with
    | .And, false | .Or, true => pure v
    | _, _ => boolOp pos op (evalEach (e2 :: es) env)) _ _ s
  refine wpAny_bind (wpAny_mono (a A s φ g E hA S R) (fun v s₁ h₁ => wpAny_bind (wpAny_standAt (wpAny_bind (wpAny_holding ?_)))) fun _ _ e => e)
  obtain ⟨φ₁, g₁, G₁, S₁, V₁, T₁⟩ := h₁
  refine truth_op ht S₁ V₁ fun tk => ?_
  have G₂ : Grow φ₁ g₁ s₁.heap φ₁ g₁ ({ s₁ with toks := tk } : Shared).heap := Grow.refl ..
  have := wpAny_mono (b A { s₁ with toks := tk } φ₁ g₁ E pos hA S₁ (R.grow G₁)) (fun v s' h => Post.trans G₁ T₁ (Post.trans (s := s₁) G₂ ⟨_, tk, rfl⟩ h)) fun _ _ e => e
  cases op <;> exact this
theorem boolop_ok {op : BoolOp} {es : List Expr} {d : V} {pos : Pos} (a : BoolOK prog w hb C n env ρ σ op es d σ₁) : EvOK prog w hb C n env ρ σ (.BoolOp op es pos) d σ₁ := fun A s φ g E hA S R => a A s φ g E pos hA S R
end
end Mine

namespace Mine

theorem char_inj {a b : Char} (h : a.toNat = b.toNat) : a = b := by
  rw [← Char.ofNat_toNat a, ← Char.ofNat_toNat b, h]
theorem map_char_inj : ∀ {a b : List Char}, a.map Char.toNat = b.map Char.toNat → a = b
  | [], [], _ => rfl
  | [], _ :: _, h => by cases h
  | _ :: _, [], h => by cases h
  | x :: r, y :: q, h => by
    simp only [List.map_cons, List.cons.injEq] at h
    rw [char_inj h.1, map_char_inj h.2]
theorem ofString_inj {a b : String} (h : Str.ofString a = Str.ofString b) : a = b := by
  rw [Str.ofString_eq_toList, Str.ofString_eq_toList] at h
  have h1 : (a.toList.map Char.toNat) = (b.toList.map Char.toNat) := by
    have := congrArg Str.cps h
    simpa using this
  exact String.toList_inj.mp (map_char_inj h1)

theorem look_setv {x y : String} {v : V} : ∀ {ρ ρ' : Rho}, setv ρ x v = some ρ' → look ρ' y = if y = x then some v else look ρ y
  | [], _, h => by cases h
  | (z, u) :: r, ρ', h => by
    unfold setv at h
    split at h
    · rename_i hx
      cases h
      subst hx
      unfold look
      rw [List.lookup_cons, List.lookup_cons]
      by_cases hy : y = x
      · subst hy; simp
      · have : (y == x) = false := by simpa using hy
        rw [this, if_neg hy]
    · rename_i hx
      obtain ⟨r', h1, rfl⟩ := Option.map_eq_some_iff.mp h
      have ih := look_setv (y := y) h1
      unfold look at ih ⊢
      rw [List.lookup_cons, List.lookup_cons]
      by_cases hy : (y == z) = true
      · rw [hy]
        have : y ≠ x := by rintro rfl; simp at hy; exact hx hy
        rw [if_neg this]
      · rw [Bool.not_eq_true] at hy
        rw [hy]; exact ih

structure GrowX (X : Addr → Prop) (φ : List Addr) (g : Part) (h : Heap) (φ' : List Addr) (g' : Part) (h' : Heap) : Prop where
  pre : φ <+: φ'
  mono : ∀ a o, g a = some o → g' a = some o
  newg : ∀ a o, g' a = some o → g a = some o ∨ h.get? a = none
  newf : ∀ a, a ∈ φ' → a ∈ φ ∨ h.get? a = none
  keep : ∀ a o, h.get? a = some o → a ∉ φ → ¬ X a → h'.get? a = some o
  dom : ∀ a o, h.get? a = some o → ∃ o', h'.get? a = some o'

section
variable {X Y : Addr → Prop} {φ φ₁ φ₂ : List Addr} {g g₁ g₂ : Part} {h h₁ h₂ : Heap}
theorem Grow.toX (x : Grow φ g h φ₁ g₁ h₁) : GrowX X φ g h φ₁ g₁ h₁ := ⟨x.pre, x.mono, x.newg, x.newf, fun a o e n _ => x.keep a o e n, x.dom⟩
theorem GrowX.refl : GrowX X φ g h φ g h := (Grow.refl φ g h).toX
theorem GrowX.wider (x : GrowX X φ g h φ₁ g₁ h₁) (hy : ∀ a, X a → Y a) : GrowX Y φ g h φ₁ g₁ h₁ := ⟨x.pre, x.mono, x.newg, x.newf, fun a o e n m => x.keep a o e n fun q => m (hy a q), x.dom⟩
theorem GrowX.trans (x : GrowX X φ g h φ₁ g₁ h₁) (y : GrowX X φ₁ g₁ h₁ φ₂ g₂ h₂) : GrowX X φ g h φ₂ g₂ h₂ where
  pre := x.pre.trans y.pre
  mono := fun a o e => y.mono a o (x.mono a o e)
  newg := fun a o e => by
    rcases y.newg a o e with e1 | e1
    · exact x.newg a o e1
    · cases q : h.get? a with
      | none => exact .inr rfl
      | some o' => obtain ⟨o'', e2⟩ := x.dom a o' q; rw [e1] at e2; cases e2
  newf := fun a e => by
    rcases y.newf a e with e1 | e1
    · exact x.newf a e1
    · cases q : h.get? a with
      | none => exact .inr rfl
      | some o' => obtain ⟨o'', e2⟩ := x.dom a o' q; rw [e1] at e2; cases e2
  keep := fun a o e n m => by
    refine y.keep a o (x.keep a o e n m) (fun q => ?_) m
    rcases x.newf a q with q | q
    · exact n q
    · rw [q] at e; cases e
  dom := fun a o e => let ⟨o₁, e₁⟩ := x.dom a o e; y.dom a o₁ e₁
theorem GrowX.plain (x : GrowX X φ g h φ₁ g₁ h₁) (hx : ∀ a, X a → h.get? a = none) : Grow φ g h φ₁ g₁ h₁ :=
  ⟨x.pre, x.mono, x.newg, x.newf, fun a o e n => x.keep a o e n fun q => (by rw [hx a q] at e; cases e), x.dom⟩
theorem GrowX.less (x : GrowX Y φ g h φ₁ g₁ h₁) (hx : ∀ a, Y a → X a ∨ h.get? a = none) : GrowX X φ g h φ₁ g₁ h₁ :=
  ⟨x.pre, x.mono, x.newg, x.newf, fun a o e n m => x.keep a o e n fun q => (by rcases hx a q with q | q; exact m q; rw [q] at e; cases e), x.dom⟩
theorem GrowX.off (x : GrowX X φ g h φ₁ g₁ h₁) {a : Addr} {o : Obj} (e : h.get? a = some o) (h1 : a ∉ φ) (h2 : g a = none) : a ∉ φ₁ ∧ g₁ a = none := by
  refine ⟨fun q => ?_, ?_⟩
  · rcases x.newf a q with q | q
    · exact h1 q
    · rw [q] at e; cases e
  · cases q : g₁ a with
    | none => rfl
    | some o' =>
      rcases x.newg a o' q with q | q
      · rw [h2] at q; cases q
      · rw [q] at e; cases e
theorem GrowX.but {a : Addr} {o : Obj} (hx : X a) (he : h₁.get? a = some o) (hs : Heap.ExtBut a h h₁) : GrowX X φ g h φ g h₁ :=
  ⟨List.prefix_refl _, fun _ _ e => e, fun _ _ e => .inl e, fun _ e => .inl e, fun b o' e n m => hs b o' (fun q => m (q ▸ hx)) e, fun b o' e => by
    by_cases q : b = a
    · subst q; exact ⟨o, he⟩
    · exact ⟨o', hs b o' q e⟩⟩
end

section
variable {prog : Program} {w : World} {hb : Heap} {C : Addr} {n : Nat} {env : Env} {ρ ρ' : Rho} {σ σ₁ σ₂ σ₃ : Store} {A : Around} {s : Shared} {φ : List Addr} {g : Part} {E : Value → Shared → Prop} {X : Addr → Prop}

theorem Sim.but {a : Addr} {h' : Heap} (S : Sim hb C φ σ g s.heap) (h1 : a ∉ φ) (h2 : g a = none) (hs : Heap.ExtBut a s.heap h') : Sim hb C φ σ g h' :=
  S.keeps fun b o e m => hs b o (by rintro rfl; rcases m with m | m; exact h1 m; rw [h2] at m; cases m) e

theorem Nsm.uniq {h : Heap} {a : Addr} {m m' : Str → Option Value} (x : h.Ns a m) (y : h.Ns a m') : m = m' := by
  obtain ⟨o, es, ep, h1, h2, _, h3⟩ := x
  obtain ⟨o', es', ep', h1', h2', _, h3'⟩ := y
  rw [h1] at h1'; cases h1'
  rw [h2] at h2'; cases h2'
  funext k; rw [← h3, ← h3']
theorem store_ok {x : String} {d : V} {v : Value} {Q : Unit → Shared → Prop} (hr : setv ρ x d = some ρ') (hk : env.kindOf (Str.ofString x) = some .local ∨ env.kindOf (Str.ofString x) = some .cell) (S : Sim hb C φ σ g s.heap) (R : ER hb φ g s.heap env ρ) (hv : VR g φ v d)
    (hX : X env.locals ∧ (env.kindOf (Str.ofString x) = some .cell → ∀ c, env.cells.lookup (Str.ofString x) = some c → X c))
    (q : ∀ h' tk, GrowX X φ g s.heap φ g h' → Sim hb C φ σ g h' → ER hb φ g h' env ρ' → Q () { s with heap := h', toks := tk }) : wpAny (model prog w) A (storeName env (Str.ofString x) v) Q E s := by
  have hsc : (env.scope.kind == .class || (env.scope.kind == .module && env.locals != env.globals)) = false := by rw [R.kind]; rfl
  rcases hk with hk | hk
  · obtain ⟨m, hm⟩ := R.ns
    refine wpAny_storeName_local hk hm (fun h' hn hs => ?_) hsc
    obtain ⟨o, ho⟩ := Nsm.has hn
    refine q h' _ (GrowX.but hX.1 ho hs.extBut) (S.but R.offL.1 R.offL.2 hs.extBut) ?_
    refine ⟨R.kind, R.glob, R.bl, ⟨_, hn⟩, R.offL, fun y c e => ?_, R.has, fun y e hy hvis => ?_, R.inj⟩
    · obtain ⟨⟨u, hu⟩, h1, h2, h3⟩ := R.cells y c e
      exact ⟨⟨u, Cellm.at hu fun o e => hs.extBut _ o h3 e⟩, h1, h2, h3⟩
    · rw [look_setv hr] at hy
      by_cases hyx : y = x
      · subst hyx
        rw [if_pos rfl] at hy; cases hy
        exact ⟨v, .inl ⟨hk, _, hn, by simp⟩, hv⟩
      · rw [if_neg hyx] at hy
        obtain ⟨u, hu, hr'⟩ := R.sees y e hy hvis
        refine ⟨u, ?_, hr'⟩
        rcases hu with ⟨e1, m', hm', hv'⟩ | ⟨e1, c, hc, hv'⟩
        · have : m' = m := Nsm.uniq hm' hm
          subst this
          refine .inl ⟨e1, _, hn, ?_⟩
          rw [if_neg fun q => hyx (ofString_inj q)]; exact hv'
        · exact .inr ⟨e1, c, hc, Cellm.at hv' fun o e => hs.extBut _ o (R.cells _ c hc).2.2.2 e⟩
  · obtain ⟨c, hc⟩ := R.has _ (.inl hk)
    obtain ⟨⟨u, hu⟩, h1, h2, h3⟩ := R.cells _ c hc
    refine wpAny_storeName_cell R.kind hk hc hu (fun h' hn hs => ?_)
    obtain ⟨o, ho, hd⟩ := id hn
    refine q h' s.toks (GrowX.but (hX.2 hk c hc) ho hs.extBut) (S.but h1 h2 hs.extBut) ?_
    obtain ⟨m, hm⟩ := R.ns
    refine ⟨R.kind, R.glob, R.bl, ⟨m, Nsm.at hm fun o e => hs.extBut _ o (Ne.symm h3) e⟩, R.offL, fun y c' e => ?_, R.has, fun y e hy hvis => ?_, R.inj⟩
    · obtain ⟨⟨u', hu'⟩, h1', h2', h3'⟩ := R.cells y c' e
      refine ⟨?_, h1', h2', h3'⟩
      by_cases hcc : c' = c
      · subst hcc; exact ⟨_, hn⟩
      · exact ⟨u', Cellm.at hu' fun o e => hs.extBut _ o hcc e⟩
    · rw [look_setv hr] at hy
      by_cases hyx : y = x
      · subst hyx
        rw [if_pos rfl] at hy; cases hy
        exact ⟨v, .inr ⟨.inl hk, c, hc, hn⟩, hv⟩
      · rw [if_neg hyx] at hy
        obtain ⟨u', hu', hr'⟩ := R.sees y e hy hvis
        refine ⟨u', ?_, hr'⟩
        rcases hu' with ⟨e1, m', hm', hv'⟩ | ⟨e1, c', hc', hv'⟩
        · exact .inl ⟨e1, m', Nsm.at hm' fun o e => hs.extBut _ o (Ne.symm h3) e, hv'⟩
        · refine .inr ⟨e1, c', hc', Cellm.at hv' fun o e => hs.extBut _ o ?_ e⟩
          rintro rfl
          exact hyx (ofString_inj (R.inj _ _ _ hc' hc))

noncomputable def nmIs (e : Expr) (x : String) : Bool := onName e fun id _ => id == Str.ofString x
theorem nmIs_inv {e : Expr} {x : String} (h : nmIs e x = true) : ∃ p, e = .Name (Str.ofString x) p := by
  obtain ⟨id, p, g, h⟩ := onName_inv h
  exact ⟨p, by rw [g, beq_iff_eq.mp h]⟩
noncomputable def nmsAre : List Expr → List String → Bool
  | [], l => l.isEmpty
  | e :: r, l => match l with
    | [] => false
    | x :: xs => nmIs e x && nmsAre r xs
noncomputable def tgtIs (e : Expr) (m : MT) : Bool := match m with
  | .one x => nmIs e x
  | .tup xs => onTuple e fun es _ _ => nmsAre es xs
noncomputable def storable (env : Env) (xs : List String) : Prop := ∀ x ∈ xs, env.kindOf (Str.ofString x) = some .local ∨ env.kindOf (Str.ofString x) = some .cell
noncomputable def Bears (X : Addr → Prop) (env : Env) (xs : List String) : Prop := X env.locals ∧ ∀ x ∈ xs, env.kindOf (Str.ofString x) = some .cell → ∀ c, env.cells.lookup (Str.ofString x) = some c → X c

theorem order_ok {Q : Unit → Shared → Prop} : ∀ {es : List Expr} {xs : List String} {vs : List Value} {ds : List V} {ρ : Rho} {s : Shared}, nmsAre es xs = true → setTup ρ xs ds = some ρ' → storable env xs → Bears X env xs → VRs g φ vs ds → Sim hb C φ σ g s.heap → ER hb φ g s.heap env ρ →
    (∀ h' tk, GrowX X φ g s.heap φ g h' → Sim hb C φ σ g h' → ER hb φ g h' env ρ' → Q () { s with heap := h', toks := tk }) → wpAny (model prog w) A (assignInOrder ((assignEach es env).map (·.2)) vs) Q E s
  | [], [], vs, ds, ρ, s, _, e, hst, hbe, hvs, S, R, q => by
    cases ds with
    | nil =>
      cases hvs.inv0
      cases e
      exact wpAny_pure (q s.heap s.toks GrowX.refl S R)
    | cons _ _ => cases e
  | [], _ :: _, _, _, _, _, h, _, _, _, _, _, _, _ => by cases h
  | e :: r, [], _, _, _, _, h, _, _, _, _, _, _, _ => by cases h
  | e :: r, x :: xs, vs, ds, ρ, s, h, e', hst, hbe, hvs, S, R, q => by
    have h : (nmIs e x && nmsAre r xs) = true := h
    rw [Bool.and_eq_true] at h
    cases ds with
    | nil => cases e'
    | cons d ds =>
      obtain ⟨v, ws, rfl, hv, hr⟩ := hvs.inv
      obtain ⟨ρ₁, h1, h2⟩ := Option.bind_eq_some_iff.mp (show ((setv ρ x d).bind fun ρ => setTup ρ xs ds) = some ρ' from e')
      obtain ⟨hn, hrest⟩ := h
      obtain ⟨p, rfl⟩ := nmIs_inv hn
      · show wpAny _ A (holding ws (standAt p >>= fun _ => bindName env (Str.ofString x) v) >>= fun _ => assignInOrder ((assignEach r env).map (·.2)) ws) _ _ s
        refine wpAny_bind (wpAny_holding (wpAny_bind (wpAny_standAt (wpAny_bindName (store_ok h1 (hst x (.head _)) S R hv ⟨hbe.1, fun k c hc => hbe.2 x (.head _) k c hc⟩ fun h' tk G' S' R' => ?_)))))
        exact order_ok (s := { s with heap := h', toks := tk }) hrest h2 (fun y hy => hst y (.tail _ hy)) ⟨hbe.1, fun y hy => hbe.2 y (.tail _ hy)⟩ hr S' R' fun h'' tk' G'' S'' R'' => q h'' tk' (G'.trans G'') S'' R''

theorem each_len : ∀ {es : List Expr} {xs : List String}, nmsAre es xs = true → (assignEach es env).length = xs.length ∧ (assignEach es env).findIdx? (·.1) = none
  | [], [], _ => ⟨rfl, rfl⟩
  | [], _ :: _, h => by cases h
  | e :: r, [], h => by cases h
  | e :: r, x :: xs, h => by
    have h : (nmIs e x && nmsAre r xs) = true := h
    rw [Bool.and_eq_true] at h
    obtain ⟨h1, h2⟩ := each_len (es := r) (xs := xs) h.2
    obtain ⟨p, rfl⟩ := nmIs_inv h.1
    · show ((false, assign (.Name (Str.ofString x) p) env) :: assignEach r env).length = _ ∧ ((false, assign (.Name (Str.ofString x) p) env) :: assignEach r env).findIdx? (·.1) = none
      rw [List.length_cons, h1, List.findIdx?_cons, h2]
      exact ⟨rfl, rfl⟩
theorem setTup_len : ∀ {xs : List String} {ds : List V} {ρ : Rho}, setTup ρ xs ds = some ρ' → xs.length = ds.length
  | [], [], _, _ => rfl
  | [], _ :: _, _, h => by cases h
  | _ :: _, [], _, h => by cases h
  | x :: xs, d :: ds, ρ, h => by
    obtain ⟨ρ₁, h1, h2⟩ := Option.bind_eq_some_iff.mp (show ((setv ρ x d).bind fun ρ => setTup ρ xs ds) = some ρ' from h)
    rw [List.length_cons, List.length_cons, setTup_len h2]

theorem assign_ok {t : Expr} {m : MT} {d : V} {v : Value} {Q : Unit → Shared → Prop} (ht : tgtIs t m = true) (hr : setT ρ m d = some ρ') (hst : storable env m.names) (hbe : Bears X env m.names) (hh : A.handled = none) (S : Sim hb C φ σ g s.heap) (R : ER hb φ g s.heap env ρ) (hv : VR g φ v d)
    (q : ∀ h' tk, GrowX X φ g s.heap φ g h' → Sim hb C φ σ g h' → ER hb φ g h' env ρ' → Q () { s with heap := h', toks := tk }) : wpAny (model prog w) A (assign t env v) Q E s := by
  cases m with
  | one x =>
    obtain ⟨p, rfl⟩ := nmIs_inv (show nmIs t x = true from ht)
    · show wpAny _ A (standAt p >>= fun _ => bindName env (Str.ofString x) v) _ _ s
      exact wpAny_bind (wpAny_standAt (wpAny_bindName (store_ok hr (hst x (.head _)) S R hv ⟨hbe.1, fun k c hc => hbe.2 x (.head _) k c hc⟩ q)))
  | tup xs =>
    obtain ⟨es, k, p, rfl, ht'⟩ := onTuple_inv (f := fun es _ _ => nmsAre es xs) ht
    · cases d with
      | tuple ds =>
        obtain ⟨l1, l2⟩ := each_len (env := env) ht'
        obtain ⟨a, us, rfl, hT, hrs⟩ := tup_at S hv
        refine wpAny_assign_Tuple hh hT (by rw [l1, setTup_len (show setTup ρ xs ds = some ρ' from hr), List.size_toArray, hrs.length]) l2 fun h' hs => ?_
        have hk : ∀ b o, s.heap.get? b = some o → h'.get? b = some o := fun b o e => hs b o (Nat.ne_of_lt (Heap.lt_size e)) e
        have G' : Grow φ g s.heap φ g h' := ⟨List.prefix_refl _, fun _ _ e => e, fun _ _ e => .inl e, fun _ e => .inl e, fun b o e _ => hk b o e, fun b o e => ⟨o, hk b o e⟩⟩
        exact order_ok (s := { s with heap := h' }) ht' hr hst hbe (by simpa using hrs) (S.all hk) (R.grow G') fun h'' tk G'' S'' R'' => q h'' tk (G'.toX.trans G'') S'' R''
      | _ => cases hr
end
end Mine

namespace Mine

noncomputable def ItAt (φ : List Addr) (h : Heap) (it : Addr) (v : Value) (i : Nat) : V → Prop
  | .list _ => ∃ a, v = .ref a ∧ h.IsListIter it a i
  | .own _ => ∃ a, v = .ref a ∧ h.IsListIter it a i
  | .tuple _ => ∃ a, v = .ref a ∧ h.IsTupleIter it a i
  | .str x => ∃ t, v = .str (strV x) t ∧ h.IsStrIter it "str_ascii_iterator" (strV x) t i
  | .rng a b c => IsRangeIter h it (a + i * c) (Builtin.Range.rangeSize a b c - i) c
  | .items k => ∃ d, φ[k]? = some d ∧ IsItemIter h it d 0 0 0 .none .none
  | _ => False

section
variable {prog : Program} {w : World} {hb : Heap} {C : Addr} {n : Nat} {env : Env} {ρ ρ' : Rho} {σ σ₁ σ₂ σ₃ : Store} {A : Around} {s : Shared} {φ φ' : List Addr} {g : Part} {E : Value → Shared → Prop} {X : Addr → Prop}

theorem ItAt.keep {h h' : Heap} {it : Addr} {v : Value} {i : Nat} {x : V} (z : ItAt φ h it v i x) (hp : φ <+: φ') (hk : ∀ o, h.get? it = some o → h'.get? it = some o) : ItAt φ' h' it v i x := by
  cases x <;> first | exact z.elim | skip
  · obtain ⟨t, e, o, ho, r⟩ := z; exact ⟨t, e, o, hk _ ho, r⟩
  · obtain ⟨a, e, o, ho, r⟩ := z; exact ⟨a, e, o, hk _ ho, r⟩
  · obtain ⟨a, e, o, ho, r⟩ := z; exact ⟨a, e, o, hk _ ho, r⟩
  · obtain ⟨a, e, o, ho, r⟩ := z; exact ⟨a, e, o, hk _ ho, r⟩
  · exact hk _ z
  · obtain ⟨d, h1, h2⟩ := z; exact ⟨d, pre_get hp h1, hk _ h2⟩
theorem ItAt.obj {h : Heap} {it : Addr} {v : Value} {i : Nat} {x : V} (z : ItAt φ h it v i x) : ∃ o, h.get? it = some o := by
  cases x <;> first | exact z.elim | skip
  · obtain ⟨t, e, o, ho, r⟩ := z; exact ⟨o, ho⟩
  · obtain ⟨a, e, o, ho, r⟩ := z; exact ⟨o, ho⟩
  · obtain ⟨a, e, o, ho, r⟩ := z; exact ⟨o, ho⟩
  · obtain ⟨a, e, o, ho, r⟩ := z; exact ⟨o, ho⟩
  · exact ⟨_, z⟩
  · obtain ⟨d, h1, h2⟩ := z; exact ⟨_, h2⟩

theorem range_small {a b c : Int} (h : (c = 1 ∨ c = -1) ∧ -1000 ≤ a ∧ a ≤ 1000 ∧ -1000 ≤ b ∧ b ≤ 1000) : Builtin.Range.small a b c = true ∧ 0 ≤ Builtin.Range.rangeSize a b c := by
  obtain ⟨hc, h1, h2, h3, h4⟩ := h
  have fits : ∀ z : Int, -5000 ≤ z → z ≤ 5000 → Builtin.Range.rangeFitsLong z = true := fun z l u => by
    unfold Builtin.Range.rangeFitsLong; simp; omega
  have hsz : 0 ≤ Builtin.Range.rangeSize a b c ∧ Builtin.Range.rangeSize a b c ≤ 2000 := by
    unfold Builtin.Range.rangeSize
    rcases hc with rfl | rfl <;> simp <;> omega
  refine ⟨?_, hsz.1⟩
  unfold Builtin.Range.small
  rw [fits a (by omega) (by omega), fits b (by omega) (by omega), fits c (by omega) (by omega), fits _ (by omega) (by omega)]
  simp only [Bool.true_and, Bool.or_eq_true]
  right
  split
  · exact fits _ (by omega) (by omega)
  · exact fits _ (by omega) (by omega)

theorem iter_op {x : V} {v : Value} {vs : List V} {Q : Value → Shared → Prop} (e : iterOf σ x = some vs) (S : Sim hb C φ σ g s.heap) (hv : VR g φ v x)
    (q : ∀ it h', s.heap.get? it = none → (∀ b o, s.heap.get? b = some o → h'.get? b = some o) → ItAt φ h' it v 0 x → Q (.ref it) { s with heap := h' }) : wpAny (model prog w) A (pyIter v) Q E s := by
  have lst : ∀ {ds : List V}, lstOf σ x = some ds → ((∃ a, v = .ref a ∧ (s.heap.push { cls := .type "list_iterator", data := .fields #[v, .int 0 0] }).IsListIter s.heap.objs.size a 0) → ItAt φ (s.heap.push { cls := .type "list_iterator", data := .fields #[v, .int 0 0] }) s.heap.objs.size v 0 x) → wpAny (model prog w) A (pyIter v) Q E s := by
    intro ds h k
    obtain ⟨a, us, rfl, hL, hr⟩ := lst_at S hv h
    refine wpAny_pyIter_list hL (q _ _ (fresh_none _) (fun b o e => Heap.get?_push_of_some _ e) (k ⟨a, rfl, ?_⟩))
    exact ⟨_, Heap.get?_push_size _ rfl, rfl, rfl⟩
  cases x <;> first | (cases e; done) | skip
  · rename_i y
    unfold iterOf at e
    dsimp only at e
    split at e
    · rename_i hc
      obtain ⟨t, rfl⟩ := hv.ofStr
      refine wpAny_pyIter_ascii (by simpa [strV] using hc.1) (q _ _ (fresh_none _) (fun b o e => Heap.get?_push_of_some _ e) ⟨t, rfl, ?_⟩)
      exact ⟨_, Heap.get?_push_size _ rfl, rfl, rfl⟩
    · cases e
  · rename_i ds
    obtain ⟨a, us, rfl, hT, hr⟩ := tup_at S hv
    refine wpAny_pyIter_tuple hT (q _ _ (fresh_none _) (fun b o e => Heap.get?_push_of_some _ e) ⟨a, rfl, ?_⟩)
    exact ⟨_, Heap.get?_push_size _ rfl, rfl, rfl⟩
  · exact lst (ds := vs) e id
  · exact lst (ds := vs) e id
  · rename_i a b c
    unfold iterOf at e
    dsimp only at e
    split at e
    · rename_i hc
      cases hv with
      | rng ho he =>
        subst he
        obtain ⟨hs, hz⟩ := range_small hc
        refine wpAny_pyIter_range (S.keep _ _ ho) hs (q _ _ (fresh_none _) (fun b o e => Heap.get?_push_of_some _ e) ?_)
        show IsRangeIter _ _ (a + (0 : Nat) * c) (Builtin.Range.rangeSize a b c - (0 : Nat)) c
        rw [show a + ((0 : Nat) : Int) * c = a from by simp, show Builtin.Range.rangeSize a b c - ((0 : Nat) : Int) = Builtin.Range.rangeSize a b c from by simp]
        exact Heap.get?_push_size _ rfl
    · cases e
  · rename_i k
    unfold iterOf at e
    dsimp only at e
    split at e
    · rename_i q'
      cases hv with
      | items ha ho he =>
        rename_i a r o
        subst he
        obtain ⟨_, hn, hd⟩ := S.own _ _ _ ha q'
        have hD : s.heap.DictAt (strKind prog w) a [] 0 := dict_nil_of hd
        refine wpAny_pyIter_items (knd := strKind prog w) (d := a) ⟨_, S.keep _ _ ho, rfl, rfl⟩ hD (q _ _ (fresh_none _) (fun b o e => Heap.get?_push_of_some _ e) ⟨a, ha, ?_⟩)
        exact Heap.get?_push_size _ rfl
    · cases e

theorem next_op {x : V} {v : Value} {vs : List V} {it : Addr} {i : Nat} {Q : Option Value → Shared → Prop} (hh : A.handled = none) (e : iterOf σ x = some vs) (S : Sim hb C φ σ g s.heap) (hv : VR g φ v x) (hit : ItAt φ s.heap it v i x) (h1 : it ∉ φ) (h2 : g it = none) (hi : i ≤ vs.length)
    (q1 : ∀ d u h' tk, vs[i]? = some d → VR g φ u d → Heap.ExtBut it s.heap h' → ItAt φ h' it v (i + 1) x → Q (some u) { s with heap := h', toks := tk })
    (q2 : ∀ h' , vs[i]? = none → Heap.ExtBut it s.heap h' → Q none { s with heap := h' }) : wpAny (model prog w) A (pyNext (.ref it)) Q E s := by
  have off : ∀ {a : Addr}, (a ∈ φ ∨ ∃ o, g a = some o) → a ≠ it := by
    rintro a (m | ⟨o, m⟩) rfl
    · exact h1 m
    · rw [h2] at m; cases m
  have lst : lstOf σ x = some vs → (∃ a, v = .ref a ∧ s.heap.IsListIter it a i) → (∀ h', (∃ a, v = .ref a ∧ h'.IsListIter it a (i + 1)) → ItAt φ h' it v (i + 1) x) → wpAny (model prog w) A (pyNext (.ref it)) Q E s := by
    rintro h ⟨a, hva, hit2⟩ k
    subst hva
    obtain ⟨a', us, ha', hL, hr⟩ := lst_at S hv h
    cases ha'
    cases hd : vs[i]? with
    | some d =>
      obtain ⟨u, hu, hru⟩ := hr.get hd
      exact wpAny_pyNext_list_item hit2 hL (by simpa using hu) fun h' hit' hs' => q1 d u h' s.toks hd hru hs'.extBut (k h' ⟨a, rfl, hit'⟩)
    | none =>
      refine wpAny_pyNext_list_end hh hit2 hL ?_ fun h' hs' => q2 h' hd hs'
      simp only [List.getElem?_toArray]
      rw [List.getElem?_eq_none_iff] at hd ⊢
      rw [hr.length]; exact hd
  cases x <;> first | (cases e; done) | skip
  · rename_i y
    unfold iterOf at e
    dsimp only at e
    split at e
    · cases e
      obtain ⟨t, rfl, hit⟩ := hit
      cases hd : y[i]? with
      | some c =>
        exact wpAny_pyNext_ascii_item hit (c := c) (by show y.toArray[i]? = _; rw [List.getElem?_toArray]; exact hd) fun h' hit' hs' => q1 _ _ h' _ (by rw [List.getElem?_map, hd]; rfl) (.str [c] s.toks) hs'.extBut ⟨t, rfl, hit'⟩
      | none =>
        exact wpAny_pyNext_ascii_end hh hit (by show y.toArray[i]? = _; rw [List.getElem?_toArray]; exact hd) fun h' hs' => q2 h' (by rw [List.getElem?_map, hd]; rfl) hs'
    · cases e
  · rename_i ds
    cases e
    obtain ⟨a, rfl, hit⟩ := hit
    obtain ⟨a', us, ha', hT, hr⟩ := tup_at S hv
    cases ha'
    cases hd : vs[i]? with
    | some d =>
      obtain ⟨u, hu, hru⟩ := hr.get hd
      exact wpAny_pyNext_tuple_item hit hT (by simpa using hu) fun h' hit' hs' => q1 d u h' s.toks hd hru hs'.extBut ⟨a, rfl, hit'⟩
    | none =>
      refine wpAny_pyNext_tuple_end hh hit hT ?_ fun h' hs' => q2 h' hd hs'
      simp only [List.getElem?_toArray]
      rw [List.getElem?_eq_none_iff] at hd ⊢
      rw [hr.length]; exact hd
  · exact lst e hit fun _ z => z
  · exact lst e hit fun _ z => z
  · rename_i a b c
    unfold iterOf at e
    dsimp only at e
    split at e
    · rename_i hc
      cases e
      obtain ⟨hs, hz⟩ := range_small hc
      have hit : IsRangeIter s.heap it (a + i * c) (Builtin.Range.rangeSize a b c - i) c := hit
      rw [List.length_map, List.length_range] at hi
      by_cases hlt : i < (Builtin.Range.rangeSize a b c).toNat
      · have hd : ((List.range (Builtin.Range.rangeSize a b c).toNat).map fun (i : Nat) => V.int (a + (i : Int) * c))[i]? = some (.int (a + i * c)) := by
          rw [List.getElem?_map, List.getElem?_range hlt]; rfl
        refine wpAny_pyNext_range_item hit (by omega) fun h' hit' hs' => q1 _ _ h' _ hd (.int _ _) hs'.extBut ?_
        show IsRangeIter h' it (a + (i + 1 : Nat) * c) (Builtin.Range.rangeSize a b c - (i + 1 : Nat)) c
        rw [show a + ((i + 1 : Nat) : Int) * c = a + i * c + c from by rw [Int.natCast_add, Int.add_mul]; simp; omega, show Builtin.Range.rangeSize a b c - ((i + 1 : Nat) : Int) = Builtin.Range.rangeSize a b c - i - 1 from by omega]
        exact hit'
      · refine wpAny_pyNext_range_end hh hit (by omega) fun h' hs' => q2 h' ?_ hs'
        rw [List.getElem?_eq_none_iff, List.length_map, List.length_range]; omega
    · cases e
  · rename_i k
    unfold iterOf at e
    dsimp only at e
    split at e
    · rename_i q'
      cases e
      obtain ⟨d, hd, hit⟩ := hit
      obtain ⟨_, hn, ho⟩ := S.own _ _ _ hd q'
      have hD : s.heap.DictAt (strKind prog w) d [] 0 := dict_nil_of ho
      refine wpAny_pyNext_items_end (knd := strKind prog w) hh hit hD rfl fun h' hs' => q2 h' (by simp) hs'
    · cases e

theorem go_ok {t : Expr} {x : V} {v u : Value} {it : Addr} {i : Nat} {Q : Unit → Shared → Prop} (hit : ItAt φ s.heap it v (i + 1) x) (q : Q () s) (hx : ∀ k, x ≠ .items k) : wpAny (model prog w) A (letOwnedTupleGo t (.ref it) u) Q E s := by
  have key : ∀ {nm : String} {fs : Array Value} {o : Obj}, s.heap.get? it = some o → o.cls = .type nm → o.data = .fields fs → ["enumerate", "zip", "dict_itemiterator", "dict_reverseitemiterator", "odict_iterator", "itertools.zip_longest", "itertools.pairwise"].contains nm = false → wpAny (model prog w) A (letOwnedTupleGo t (.ref it) u) Q E s := by
    intro nm fs o ho hc hd hn
    unfold letOwnedTupleGo
    split
    · split
      · rename_i r a hp
        cases hp
        refine wpAny_bind (wpAny_load ho ?_)
        rw [hc, hd]
        dsimp only
        rw [hn, Bool.false_and]
        exact wpAny_pure q
      · exact wpAny_pure q
    · split
      · rename_i r a hp
        cases hp
        refine wpAny_bind (wpAny_load ho ?_)
        rw [hc, hd]
        dsimp only
        rw [hn, Bool.false_and]
        exact wpAny_pure q
      · exact wpAny_pure q
    · exact wpAny_pure q
  cases x <;> first | exact hit.elim | skip
  · obtain ⟨t, e, o, ho, h1, h2⟩ := hit; exact key ho h1 h2 (by decide)
  · obtain ⟨a, e, o, ho, h1, h2⟩ := hit; exact key ho h1 h2 (by decide)
  · obtain ⟨a, e, o, ho, h1, h2⟩ := hit; exact key ho h1 h2 (by decide)
  · obtain ⟨a, e, o, ho, h1, h2⟩ := hit; exact key ho h1 h2 (by decide)
  · exact key hit rfl rfl (by decide)
  · exact absurd rfl (hx _)
end
end Mine

namespace Mine

section
variable {prog : Program} {w : World} {hb : Heap} {C : Addr} {n : Nat} {env cenv : Env} {ρ ρ' : Rho} {σ σ₁ σ₂ σ₃ : Store} {A : Around} {s : Shared} {φ φ' : List Addr} {g : Part} {E : Value → Shared → Prop} {X : Addr → Prop}

theorem GrowX.step {X : Addr → Prop} {φ φ₁ : List Addr} {g g₁ : Part} {h h₁ : Heap} (x : Grow φ g h φ₁ g₁ h₁) : GrowX X φ g h φ₁ g₁ h₁ := x.toX

theorem closure_go (cells : List (Str × Addr)) : ∀ (names : List (Str × NameKind)) (acc : List (Str × Addr)), env.cells = cells → (∀ x ∈ names, x.2 = .free → ∃ c, cells.lookup x.1 = some c) → (∀ n c, acc.lookup n = some c → cells.lookup n = some c) →
    ∃ cl, (forIn (m := Sem) names acc fun x r => (match x with | (name, kind) => if (kind == .free) = true then do let __do_lift ← cellOf env name; pure (ForInStep.yield ((name, __do_lift) :: r)) else pure (ForInStep.yield r) : Sem (ForInStep (List (Str × Addr))))) = pure cl ∧
      (∀ n c, cl.lookup n = some c → cells.lookup n = some c) ∧ ∀ n, ((n, NameKind.free) ∈ names ∨ (acc.lookup n).isSome = true) → (cl.lookup n).isSome = true
  | [], acc, he, hf, ha => ⟨acc, rfl, ha, fun n h => by rcases h with h | h; cases h; exact h⟩
  | (m, k) :: r, acc, he, hf, ha => by
    cases hk : (k == .free) with
    | true =>
      have hk' : k = .free := by simpa using hk
      subst hk'
      obtain ⟨c, hc⟩ := hf _ (.head _) rfl
      obtain ⟨cl, e1, e2, e3⟩ := closure_go cells r ((m, c) :: acc) he (fun x hx => hf x (.tail _ hx)) (fun n c' h => by
        rw [List.lookup_cons] at h
        split at h
        · rename_i q; cases h; have := beq_iff_eq.mp q; subst this; exact hc
        · exact ha n c' h)
      refine ⟨cl, ?_, e2, fun n h => e3 n ?_⟩
      · rw [List.forIn_cons]
        have : (cellOf env m : Sem Addr) = pure c := by unfold cellOf; rw [he]; dsimp only at hc; rw [hc]
        show (cellOf env m >>= fun x => pure (ForInStep.yield ((m, x) :: acc)) : Sem _) >>= _ = _
        rw [this]; exact e1
      · rcases h with h | h
        · cases h with
          | head => exact .inr (by rw [List.lookup_cons]; simp)
          | tail _ h => exact .inl h
        · refine .inr ?_
          rw [List.lookup_cons]; split
          · rfl
          · exact h
    | false =>
      obtain ⟨cl, e1, e2, e3⟩ := closure_go cells r acc he (fun x hx => hf x (.tail _ hx)) ha
      refine ⟨cl, ?_, e2, fun n h => e3 n ?_⟩
      · rw [List.forIn_cons]
        show (if (k == .free) = true then _ else pure (ForInStep.yield acc) : Sem _) >>= _ = _
        rw [hk]; exact e1
      · rcases h with h | h
        · cases h with
          | head => exact absurd hk (by decide)
          | tail _ h => exact .inl h
        · exact .inr h
theorem closure_ok {scope : Scope} (hf : ∀ x ∈ scope.names, x.2 = .free → ∃ c, env.cells.lookup x.1 = some c) :
    ∃ cl, closureFor scope env = pure cl ∧ (∀ n c, cl.lookup n = some c → env.cells.lookup n = some c) ∧ ∀ n, (n, NameKind.free) ∈ scope.names → (cl.lookup n).isSome = true := by
  obtain ⟨cl, e1, e2, e3⟩ := closure_go env.cells scope.names [] rfl hf (fun n c h => by cases h)
  refine ⟨cl, ?_, e2, fun n h => e3 n (.inl h)⟩
  unfold closureFor
  show (forIn (m := Sem) scope.names [] _ >>= fun cs => pure cs) = pure cl
  have : ∀ t : Sem (List (Str × Addr)), t = pure cl → (t >>= fun cs => pure cs) = (pure cl : Sem _) := fun t h => by rw [h]; rfl
  exact this _ e1

structure CompScope (env : Env) (scope : Scope) (own : List String) : Prop where
  kind : scope.kind = .function
  noCell : ∀ x ∈ scope.names, x.2 ≠ .cell
  once : ∀ x ∈ scope.names, scope.names.lookup x.1 = some x.2
  locals : ∀ x ∈ scope.names, x.2 = .local → ∃ y ∈ own, x.1 = Str.ofString y
  free : ∀ x ∈ scope.names, x.2 = .free → env.kindOf x.1 = some .cell ∨ env.kindOf x.1 = some .free

theorem look_own {own : List String} {x : String} {d : V} (h : look (own.map (fun y => (y, none)) ++ ρ) x = some d) : x ∉ own ∧ look ρ x = some d := by
  induction own with
  | nil => exact ⟨by simp, h⟩
  | cons y r ih =>
    unfold look at h ih ⊢
    rw [List.map_cons, List.cons_append, List.lookup_cons] at h
    cases hxy : (x == y) with
    | true => rw [hxy] at h; cases h
    | false =>
      rw [hxy] at h
      obtain ⟨h1, h2⟩ := ih h
      refine ⟨fun q => ?_, h2⟩
      rcases List.mem_cons.mp q with q | q
      · rw [q] at hxy; simp at hxy
      · exact h1 q

theorem relabel_lookup {scope : Scope} {x : Str} {k : NameKind} (h : (relabel scope env).names.lookup x = some k) : ∃ k₀, (x, k₀) ∈ scope.names ∧ scope.names.lookup x = some k₀ ∧ k = if (k₀ == .free && env.scope.kind == .function && env.kindOf x == some .cell) then .cell else k₀ := by
  obtain ⟨knd, names, b, c, d⟩ := scope
  unfold relabel at h
  dsimp only at h ⊢
  induction names with
  | nil => cases h
  | cons p r ih =>
    obtain ⟨m, k₁⟩ := p
    rw [List.map_cons] at h
    dsimp only at h
    by_cases hx : (x == m) = true
    · have hx' := beq_iff_eq.mp hx
      subst hx'
      refine ⟨k₁, .head _, by rw [List.lookup_cons]; simp, ?_⟩
      split at h
      · rename_i q
        rw [List.lookup_cons] at h; simp at h; rw [if_pos q]; exact h.symm
      · rename_i q
        rw [List.lookup_cons] at h; simp at h; rw [if_neg q]; exact h.symm
    · rw [Bool.not_eq_true] at hx
      have h' : List.lookup x (r.map fun x => match x with | (n, k) => if (k == .free && env.scope.kind == .function && env.kindOf n == some .cell) = true then (n, NameKind.cell) else (n, k)) = some k := by
        split at h <;> (rw [List.lookup_cons, hx] at h; exact h)
      obtain ⟨k₀, i1, i2, i3⟩ := ih h'
      exact ⟨k₀, .tail _ i1, by rw [List.lookup_cons, hx]; exact i2, i3⟩

theorem comp_er {scope : Scope} {own : List String} {cl : List (Str × Addr)} {L : Addr} {h h' : Heap} (Z : CompScope env scope own) (S : Sim hb C φ σ g h) (R : ER hb φ g h env ρ) (hcl : ∀ n c, cl.lookup n = some c → env.cells.lookup n = some c) (hcl' : ∀ n, (n, NameKind.free) ∈ scope.names → (cl.lookup n).isSome = true)
    (hL : h.get? L = none) (hk : ∀ b o, h.get? b = some o → h'.get? b = some o) (hn : h'.Ns L (fun _ => none)) : ER hb φ g h' (compEnvC scope cl L env) (own.map (fun y => (y, none)) ++ ρ) where
  kind := Z.kind
  glob := R.glob
  bl := R.bl
  ns := ⟨_, hn⟩
  offL := ⟨S.fresh_f hL, S.fresh_g hL⟩
  cells := fun m c e => by
    obtain ⟨⟨v, hv⟩, h1, h2, h3⟩ := R.cells m c (hcl m c e)
    refine ⟨⟨v, Cellm.at hv fun o e => hk _ o e⟩, h1, h2, ?_⟩
    rintro rfl
    obtain ⟨o, ho, _⟩ := hv
    rw [hL] at ho; cases ho
  has := fun m hm => by
    have : ∃ k, (relabel scope env).names.lookup m = some k ∧ (k = .cell ∨ k = .free) := by
      rcases hm with hm | hm
      · exact ⟨_, hm, .inl rfl⟩
      · exact ⟨_, hm, .inr rfl⟩
    obtain ⟨k, hk1, hk2⟩ := this
    obtain ⟨k₀, i1, i2, i3⟩ := relabel_lookup hk1
    have hk0 : k₀ = .free := by
      have := Z.noCell _ i1
      split at i3
      · rename_i q; simp only [Bool.and_eq_true, beq_iff_eq] at q; exact q.1.1
      · rcases hk2 with hk2 | hk2
        · exact absurd (i3.symm.trans hk2) this
        · exact i3.symm.trans hk2
    subst hk0
    exact Option.isSome_iff_exists.mp (hcl' m i1)
  sees := fun x d hx hv => by
    obtain ⟨h1, h2⟩ := look_own hx
    have hv' : ∃ k, (relabel scope env).names.lookup (Str.ofString x) = some k ∧ (k = .local ∨ k = .cell ∨ k = .free) := by
      have hv2 : vis ((relabel scope env).names.lookup (Str.ofString x)) = true := hv
      cases q : (relabel scope env).names.lookup (Str.ofString x) with
      | none => rw [q] at hv2; cases hv2
      | some k => rw [q] at hv2; refine ⟨k, rfl, ?_⟩; cases k <;> first | exact .inl rfl | exact .inr (.inl rfl) | exact .inr (.inr rfl) | cases hv2
    obtain ⟨k, hk1, hk2⟩ := hv'
    obtain ⟨k₀, i1, i2, i3⟩ := relabel_lookup hk1
    have hk0 : k₀ = .free := by
      have c1 := Z.noCell _ i1
      have c2 : k₀ ≠ .local := fun q => by
        obtain ⟨y, hy1, hy2⟩ := Z.locals _ i1 q
        exact h1 ((ofString_inj hy2) ▸ hy1)
      split at i3
      · rename_i q; simp only [Bool.and_eq_true, beq_iff_eq] at q; exact q.1.1
      · rcases hk2 with hk2 | hk2 | hk2
        · exact absurd (i3.symm.trans hk2) c2
        · exact absurd (i3.symm.trans hk2) c1
        · exact i3.symm.trans hk2
    subst hk0
    have hvis : vis (env.kindOf (Str.ofString x)) = true := by rcases Z.free _ i1 rfl with q | q <;> (rw [q]; rfl)
    obtain ⟨v, hs, hr⟩ := R.sees x d h2 hvis
    refine ⟨v, .inr ?_, hr⟩
    rcases hs with ⟨e1, _⟩ | ⟨e1, c, hc, hv1⟩
    · rcases Z.free _ i1 rfl with q | q <;> (rw [show env.kindOf (Str.ofString x) = _ from e1] at q; cases q)
    · obtain ⟨c', hc'⟩ := Option.isSome_iff_exists.mp (hcl' _ i1)
      have : c' = c := by have := hcl _ _ hc'; rw [hc] at this; exact (Option.some.inj this).symm
      subst this
      refine ⟨?_, c', hc', Cellm.at hv1 fun o e => hk _ o e⟩
      rcases e1 with e1 | ⟨e1, e2⟩
      · left
        show (relabel scope env).names.lookup (Str.ofString x) = _
        rw [hk1, i3, if_pos (by simp [R.kind, e1])]
      · right
        refine ⟨?_, e2⟩
        show (relabel scope env).names.lookup (Str.ofString x) = _
        rw [hk1, i3, if_neg (by simp [e1])]
  inj := fun m m' c e1 e2 => R.inj m m' c (hcl _ _ e1) (hcl _ _ e2)
end
end Mine

namespace Mine

structure CS (hb : Heap) (C : Addr) (φ : List Addr) (g : Part) (h : Heap) (cenv : Env) (ρ : Rho) (σ : Store) (D : Addr) (acc : List V) : Prop where
  sim : Sim hb C φ σ g h
  er : ER hb φ g h cenv ρ
  acc : ∃ vs : List Value, h.PlainList D vs.toArray ∧ VRs g φ vs acc
  offD : D ∉ φ ∧ g D = none
  neL : D ≠ cenv.locals
  neC : ∀ n c, cenv.cells.lookup n = some c → D ≠ c

noncomputable def innerW (prog : Program) (w : World) (A : Around) (e elt : Expr) (gens : List Comprehension) (acc : Value) (cenv : Env) (j : Nat) (Q : Shared → Prop) (E : Value → Shared → Prop) (s : Shared) : Prop := match gens[j]? with
  | some g' => wpAny (model prog w) A (eval g'.iter cenv) (fun x s₁ => wpAny (model prog w) A (pyIter x) (fun it s₂ => codeAny (model prog w) A (.compStart e j it acc cenv) (fun r s' => match r with | .ok _ => Q s' | .error _ => False) s₂) E s₁) E s
  | none => wpAny (model prog w) A (eval elt cenv) (fun v s₁ => wpAny (model prog w) A (call (.builtin "list.append") [acc, v]) (fun _ s₂ => Q s₂) E s₁) E s
noncomputable def notSet (e : Expr) : Bool := decide (e.ctorIdx ≠ 7)
theorem folded_ok {e : Expr} {env : Env} {x : Value} (h : notSet e = true) : foldedSetIterable e env x = pure x := by
  cases e <;> first | rfl | cases (show false = true from h)

noncomputable def tests (ifs : List Expr) (cenv : Env) (b : Bool) : Sem Bool := forIn ifs b fun c r => if r = true then do let ok ← isTrue c cenv (eval c cenv); pure (ForInStep.yield ok) else pure (ForInStep.yield r)

theorem turn_wp {prog : Program} {w : World} {A : Around} {s : Shared} {E : Value → Shared → Prop} {Q : Fin → Shared → Prop} {elt : Expr} {gens : List Comprehension} {scope : Scope} {pos : Pos} {j : Nat} {t itx : Expr} {ifs : List Expr} {itv acc : Value} {cenv : Env} (hg : gens[j]? = some ⟨t, itx, ifs, 0⟩) (hs : ∀ g', gens[j + 1]? = some g' → g'.is_async = 0 ∧ notSet g'.iter = true)
    (h : wpAny (model prog w) A (pyNext itv) (fun r s₁ => match r with
      | none => Q (.done .next) s₁
      | some v => wpAny (model prog w) A (letOwnedTupleGo t itv v) (fun _ s₂ => wpAny (model prog w) A (assign t cenv v) (fun _ s₃ => wpAny (model prog w) A (tests ifs cenv true) (fun ok s₄ =>
        if ok = true then innerW prog w A (.ListComp elt gens scope pos) elt gens acc cenv (j + 1) (fun s₅ => Q (.again (.compLoop (.ListComp elt gens scope pos) j itv acc cenv)) s₅) E s₄
        else Q (.again (.compLoop (.ListComp elt gens scope pos) j itv acc cenv)) s₄) E s₃) E s₂) E s₁) E s) :
    wpAny (model prog w) A (compTurn (.ListComp elt gens scope pos) j itv acc cenv) Q E s := by
  unfold compTurn
  dsimp only
  rw [hg]
  dsimp only
  rw [if_neg (show ¬ ((0 : Int) != 0) = true by decide), if_neg (show ¬ ((0 : Int) != 0) = true by decide)]
  refine wpAny_bind (wpAny_standAt (wpAny_bind (wpAny_mono h (fun r s₁ h₁ => ?_) fun _ _ e => e)))
  cases r with
  | none => exact wpAny_pure h₁
  | some v =>
    dsimp only at h₁ ⊢
    refine wpAny_bind (wpAny_mono h₁ (fun _ s₂ h₂ => wpAny_bind (wpAny_mono h₂ (fun _ s₃ h₃ => wpAny_bind (wpAny_mono h₃ (fun ok s₄ h₄ => ?_) fun _ _ e => e)) fun _ _ e => e)) fun _ _ e => e)
    cases ok with
    | false => rw [if_neg (by decide)] at h₄ ⊢; exact wpAny_pure h₄
    | true =>
      rw [if_pos rfl] at h₄ ⊢
      unfold innerW at h₄
      cases q : gens[j + 1]? with
      | none =>
        rw [q] at h₄
        exact wpAny_bind (wpAny_bind (wpAny_mono h₄ (fun v s₅ h₅ => wpAny_bind (wpAny_mono h₅ (fun _ s₆ h₆ => wpAny_pure (wpAny_pure h₆)) fun _ _ e => e)) fun _ _ e => e))
      | some g' =>
        rw [q] at h₄
        dsimp only at h₄ ⊢
        rw [(hs g' q).1]
        simp only [bne_self_eq_false, Bool.false_eq_true, if_false]
        refine wpAny_bind (wpAny_mono h₄ (fun x s₅ h₅ => wpAny_bind (wpAny_standAt (wpAny_bind (wpAny_of_eq (folded_ok (hs g' q).2) (wpAny_bind (wpAny_holding (wpAny_mono h₅ (fun it s₆ h₆ => wpAny_bind (wpAny_runOwn (codeAny_mono h₆ fun r s' z => ?_))) fun _ _ e => e))))))) fun _ _ e => e)
        cases r with
        | ok f => exact wpAny_pure z
        | error e => exact z.elim

section
variable {prog : Program} {w : World} {hb : Heap} {C : Addr} {n : Nat} {env cenv : Env} {ρ ρ' : Rho} {σ σ₁ σ₂ σ₃ : Store} {A : Around} {s : Shared} {φ φ' : List Addr} {g : Part} {E : Value → Shared → Prop} {X : Addr → Prop} {D : Addr}

noncomputable def X0 (cenv : Env) (D : Addr) (a : Addr) : Prop := a = cenv.locals ∨ a = D

theorem ER.growX {φ₁ : List Addr} {g₁ : Part} {h h₁ : Heap} (R : ER hb φ g h env ρ) (G : GrowX X φ g h φ₁ g₁ h₁) (h1 : ¬ X env.locals) (h2 : ∀ n c, env.cells.lookup n = some c → ¬ X c) : ER hb φ₁ g₁ h₁ env ρ where
  kind := R.kind
  glob := R.glob
  bl := R.bl
  ns := let ⟨m, hm⟩ := R.ns; ⟨m, Nsm.at hm fun o e => G.keep _ o e R.offL.1 h1⟩
  offL := by
    obtain ⟨m, hm⟩ := R.ns
    obtain ⟨o, ho⟩ := Nsm.has hm
    exact G.off ho R.offL.1 R.offL.2
  cells := fun n c e => by
    obtain ⟨⟨v, hv⟩, h3, h4, h5⟩ := R.cells n c e
    obtain ⟨o, ho, hd⟩ := id hv
    obtain ⟨h6, h7⟩ := G.off ho h3 h4
    exact ⟨⟨v, Cellm.at hv fun o e' => G.keep _ o e' h3 (h2 n c e)⟩, h6, h7, h5⟩
  has := R.has
  sees := fun x d e v => by
    obtain ⟨y, hy, hr⟩ := R.sees x d e v
    refine ⟨y, ?_, hr.mono G.mono G.pre⟩
    rcases hy with ⟨e1, m, hm, hv⟩ | ⟨e1, c, hc, hv⟩
    · exact .inl ⟨e1, m, Nsm.at hm fun o e => G.keep _ o e R.offL.1 h1, hv⟩
    · exact .inr ⟨e1, c, hc, Cellm.at hv fun o e' => G.keep _ o e' (R.cells _ c hc).2.1 (h2 _ c hc)⟩
  inj := R.inj

theorem CS.grow {φ₁ : List Addr} {g₁ : Part} {h h₁ : Heap} {acc : List V} (Z : CS hb C φ g h cenv ρ σ D acc) (G : Grow φ g h φ₁ g₁ h₁) (S : Sim hb C φ₁ σ₁ g₁ h₁) : CS hb C φ₁ g₁ h₁ cenv ρ σ₁ D acc := by
  obtain ⟨vs, ⟨m, ho⟩, hr⟩ := Z.acc
  exact ⟨S, Z.er.grow G, ⟨vs, ⟨m, G.keep _ _ ho Z.offD.1⟩, hr.mono G.mono G.pre⟩, GrowX.off (X := fun _ => False) G.toX ho Z.offD.1 Z.offD.2, Z.neL, Z.neC⟩

noncomputable def CPost (hb : Heap) (C : Addr) (X : Addr → Prop) (φ : List Addr) (g : Part) (s : Shared) (cenv : Env) (ρ' : Rho) (σ' : Store) (D : Addr) (acc' : List V) (s' : Shared) : Prop :=
  ∃ φ' g', GrowX X φ g s.heap φ' g' s'.heap ∧ CS hb C φ' g' s'.heap cenv ρ' σ' D acc' ∧ Rest s s'
theorem CPost.trans {φ₁ : List Addr} {g₁ : Part} {s₁ s' : Shared} {acc' : List V} {σ' : Store} (G : GrowX X φ g s.heap φ₁ g₁ s₁.heap) (T : Rest s s₁) (p : CPost hb C X φ₁ g₁ s₁ cenv ρ' σ' D acc' s') : CPost hb C X φ g s cenv ρ' σ' D acc' s' :=
  let ⟨φ', g', a, b, c⟩ := p; ⟨φ', g', G.trans a, b, T.trans c⟩
theorem CPost.wider {Y : Addr → Prop} {s' : Shared} {acc' : List V} {σ' : Store} (p : CPost hb C X φ g s cenv ρ' σ' D acc' s') (h : ∀ a, X a → Y a) : CPost hb C Y φ g s cenv ρ' σ' D acc' s' :=
  let ⟨φ', g', a, b, c⟩ := p; ⟨φ', g', a.wider h, b, c⟩

noncomputable def IfsOK (prog : Program) (w : World) (hb : Heap) (C : Addr) (n : Nat) (env : Env) (ρ : Rho) (σ : Store) (ifs : List Expr) (t : Bool) (σ' : Store) : Prop :=
  ∀ A s φ g E, Rm n A → Sim hb C φ σ g s.heap → ER hb φ g s.heap env ρ → wpAny (model prog w) A (tests ifs env true) (fun b s' => b = t ∧ Step hb C φ g s σ' s') E s
theorem tests_false {ifs : List Expr} {Q : Bool → Shared → Prop} (q : Q false s) : wpAny (model prog w) A (tests ifs env false) Q E s := by
  induction ifs with
  | nil => exact wpAny_pure q
  | cons c r ih =>
    unfold tests at ih ⊢
    rw [List.forIn_cons]
    exact wpAny_bind (wpAny_pure ih)
theorem ifs_nil : IfsOK prog w hb C n env ρ σ [] true σ := fun A s φ g E hA S R => wpAny_pure ⟨rfl, Step.here S s.toks⟩
theorem ifs_stop {c : Expr} {r : List Expr} (a : TestOK prog w hb C n env ρ σ c false σ₁) : IfsOK prog w hb C n env ρ σ (c :: r) false σ₁ := by
  intro A s φ g E hA S R
  unfold tests
  rw [List.forIn_cons]
  refine wpAny_bind ?_
  rw [if_pos rfl]
  refine wpAny_bind (wpAny_mono (a A s φ g E hA S R) (fun b s₁ h₁ => wpAny_pure ?_) fun _ _ e => e)
  obtain ⟨rfl, h₁⟩ := h₁
  exact tests_false ⟨rfl, h₁⟩
theorem ifs_go {c : Expr} {r : List Expr} {t : Bool} (a : TestOK prog w hb C n env ρ σ c true σ₁) (b : IfsOK prog w hb C n env ρ σ₁ r t σ₂) : IfsOK prog w hb C n env ρ σ (c :: r) t σ₂ := by
  intro A s φ g E hA S R
  unfold tests
  rw [List.forIn_cons]
  refine wpAny_bind ?_
  rw [if_pos rfl]
  refine wpAny_bind (wpAny_mono (a A s φ g E hA S R) (fun b' s₁ h₁ => wpAny_pure ?_) fun _ _ e => e)
  obtain ⟨rfl, φ₁, g₁, G₁, S₁, T₁⟩ := h₁
  exact wpAny_mono (b A s₁ φ₁ g₁ E hA S₁ (R.grow G₁)) (fun b' s' h => ⟨h.1, Step.trans G₁ T₁ h.2⟩) fun _ _ e => e

noncomputable def InnerOK (prog : Program) (w : World) (hb : Heap) (C : Addr) (n : Nat) (cenv : Env) (D : Addr) (e elt : Expr) (gens : List Comprehension) (j : Nat) (m : Rho → List V → Store → Option (Rho × List V × Store)) : Prop :=
  ∀ ρ acc σ ρ' acc' σ', m ρ acc σ = some (ρ', acc', σ') → ∀ A s φ g E, Rm n A → CS hb C φ g s.heap cenv ρ σ D acc → innerW prog w A e elt gens (.ref D) cenv j (CPost hb C (X0 cenv D) φ g s cenv ρ' σ' D acc') E s

theorem inner_end {e elt : Expr} {gens : List Comprehension} {j : Nat} {el : Rho → Store → Option (V × Store)} (hg : gens[j]? = none) (hel : ∀ ρ σ d σ', el ρ σ = some (d, σ') → EvOK prog w hb C n cenv ρ σ elt d σ') :
    InnerOK prog w hb C n cenv D e elt gens j fun ρ acc σ => (el ρ σ).bind fun (v, σ) => if acc.length ≤ 1000 then some (ρ, acc ++ [v], σ) else none := by
  intro ρ acc σ ρ' acc' σ' h A s φ g E hA Z
  obtain ⟨⟨d, σ₁⟩, h1, h2⟩ := Option.bind_eq_some_iff.mp h
  dsimp only at h2
  split at h2
  · rename_i hl
    cases h2
    unfold innerW
    rw [hg]
    refine wpAny_mono (hel _ _ _ _ h1 A s φ g E hA Z.sim Z.er) (fun v s₁ h₁ => ?_) fun _ _ e => e
    obtain ⟨φ₁, g₁, G₁, S₁, V₁, T₁⟩ := h₁
    have Z₁ := Z.grow G₁ S₁
    obtain ⟨vs, hp, hr⟩ := Z₁.acc
    refine wpAny_list_append_plain hp (fun h' hp' hs' => ?_) (by rw [List.size_toArray, hr.length]; exact Nat.le_trans hl (by decide))
    have G₂ : GrowX (X0 cenv D) φ₁ g₁ s₁.heap φ₁ g₁ h' := GrowX.but (.inr rfl) hp'.choose_spec hs'.extBut
    refine CPost.trans G₁.toX T₁ ⟨φ₁, g₁, G₂, ⟨S₁.but Z₁.offD.1 Z₁.offD.2 hs'.extBut, ?_, ⟨vs ++ [v], by simpa using hp', hr.append (.cons V₁ .nil)⟩, Z₁.offD, Z.neL, Z.neC⟩, ⟨_, s₁.toks, rfl⟩⟩
    have G₃ : GrowX (fun a => a = D) φ₁ g₁ s₁.heap φ₁ g₁ h' := GrowX.but rfl hp'.choose_spec hs'.extBut
    exact Z₁.er.growX G₃ (Ne.symm Z.neL) fun n c hc q => Z.neC n c hc q.symm
  · cases h2

theorem innerW_mono {e elt : Expr} {gens : List Comprehension} {acc : Value} {j : Nat} {Q Q' : Shared → Prop} (h : innerW prog w A e elt gens acc cenv j Q E s) (hq : ∀ s', Q s' → Q' s') : innerW prog w A e elt gens acc cenv j Q' E s := by
  unfold innerW at h ⊢
  split
  · rename_i g' q
    rw [q] at h
    exact wpAny_mono h (fun _ _ h₁ => wpAny_mono h₁ (fun _ _ h₂ => codeAny_mono h₂ fun r s' z => by cases r with | ok f => exact hq _ z | error e => exact z.elim) fun _ _ e => e) fun _ _ e => e
  · rename_i q
    rw [q] at h
    exact wpAny_mono h (fun _ _ h₁ => wpAny_mono h₁ (fun _ _ h₂ => hq _ h₂) fun _ _ e => e) fun _ _ e => e

theorem ER.buts {W : Addr → Prop} {h h' : Heap} (R : ER hb φ g h env ρ) (he : ∀ b o, ¬ W b → h.get? b = some o → h'.get? b = some o) (h1 : ¬ W env.locals) (h2 : ∀ n c, env.cells.lookup n = some c → ¬ W c) : ER hb φ g h' env ρ where
  kind := R.kind
  glob := R.glob
  bl := R.bl
  ns := let ⟨m, hm⟩ := R.ns; ⟨m, Nsm.at hm fun o e => he _ o h1 e⟩
  offL := R.offL
  cells := fun n c e => by
    obtain ⟨⟨v, hv⟩, h3⟩ := R.cells n c e
    exact ⟨⟨v, Cellm.at hv fun o e' => he _ o (h2 n c e) e'⟩, h3⟩
  has := R.has
  sees := fun x d e v => by
    obtain ⟨y, hy, hr⟩ := R.sees x d e v
    refine ⟨y, ?_, hr⟩
    rcases hy with ⟨e1, m, hm, hv⟩ | ⟨e1, c, hc, hv⟩
    · exact .inl ⟨e1, m, Nsm.at hm fun o e => he _ o h1 e, hv⟩
    · exact .inr ⟨e1, c, hc, Cellm.at hv fun o e' => he _ o (h2 _ c hc) e'⟩
  inj := R.inj
theorem ER.but {h h' : Heap} {it : Addr} (R : ER hb φ g h env ρ) (he : Heap.ExtBut it h h') (h1 : it ≠ env.locals) (h2 : ∀ n c, env.cells.lookup n = some c → it ≠ c) : ER hb φ g h' env ρ :=
  R.buts (W := fun a => a = it) he (Ne.symm h1) fun n c e => Ne.symm (h2 n c e)
theorem CS.buts {W : Addr → Prop} {h h' : Heap} {acc : List V} (Z : CS hb C φ g h cenv ρ σ D acc) (he : ∀ b o, ¬ W b → h.get? b = some o → h'.get? b = some o) (h1 : ∀ a, W a → a ∉ φ ∧ g a = none) (h3 : ¬ W D) (h4 : ¬ W cenv.locals) (h5 : ∀ n c, cenv.cells.lookup n = some c → ¬ W c) : CS hb C φ g h' cenv ρ σ D acc :=
  let ⟨us, ⟨m', ho⟩, hrs⟩ := Z.acc
  ⟨Z.sim.keeps fun b o e m => he b o (fun w => by rcases m with m | m; exact (h1 b w).1 m; rw [(h1 b w).2] at m; cases m) e, Z.er.buts he h4 h5, ⟨us, ⟨m', he _ _ h3 ho⟩, hrs⟩, Z.offD, Z.neL, Z.neC⟩
theorem CS.but {h h' : Heap} {it : Addr} {acc : List V} (Z : CS hb C φ g h cenv ρ σ D acc) (he : Heap.ExtBut it h h') (h1 : it ∉ φ) (h2 : g it = none) (h3 : it ≠ D) (h4 : it ≠ cenv.locals) (h5 : ∀ n c, cenv.cells.lookup n = some c → it ≠ c) : CS hb C φ g h' cenv ρ σ D acc :=
  Z.buts (W := fun a => a = it) he (fun a e => e ▸ ⟨h1, h2⟩) (Ne.symm h3) (Ne.symm h4) fun n c e => Ne.symm (h5 n c e)

theorem iter_items {x : V} {vs : List V} {d : V} {i : Nat} (h : iterOf σ x = some vs) (hd : vs[i]? = some d) : ∀ k, x ≠ .items k := by
  rintro k rfl
  unfold iterOf at h
  dsimp only at h
  split at h
  · cases h; simp at hd
  · cases h

theorem GrowX.ends {X W : Addr → Prop} {φ₀ φ : List Addr} {g₀ g : Part} {h₀ h h' : Heap} (G : GrowX X φ₀ g₀ h₀ φ g h) (hn : ∀ a, W a → h₀.get? a = none) (he : ∀ b o, ¬ W b → h.get? b = some o → h'.get? b = some o) : GrowX X φ₀ g₀ h₀ φ g h' where
  pre := G.pre
  mono := G.mono
  newg := G.newg
  newf := G.newf
  keep := fun a o e n m => he a o (fun w => by rw [hn a w] at e; cases e) (G.keep a o e n m)
  dom := fun a o e => let ⟨o', e'⟩ := G.dom a o e; ⟨o', he a o' (fun w => by rw [hn a w] at e; cases e) e'⟩
theorem GrowX.end_ {X : Addr → Prop} {φ₀ φ : List Addr} {g₀ g : Part} {h₀ h h' : Heap} {it : Addr} (G : GrowX X φ₀ g₀ h₀ φ g h) (hn : h₀.get? it = none) (he : Heap.ExtBut it h h') : GrowX X φ₀ g₀ h₀ φ g h' :=
  G.ends (W := fun a => a = it) (fun a e => e ▸ hn) he

theorem loop_ok {elt : Expr} {gens : List Comprehension} {scope : Scope} {pos : Pos} {j : Nat} {t itx : Expr} {ifs : List Expr} {mt : MT} {x : V} {v : Value} {vs : List V} {it : Addr} {fi : Rho → Store → Option (Bool × Store)} {mm : Rho → List V → Store → Option (Rho × List V × Store)} {σ₀ : Store} {s₀ : Shared} {φ₀ : List Addr} {g₀ : Part} {ρ' : Rho} {acc' : List V} {σ' : Store}
    (hg : gens[j]? = some ⟨t, itx, ifs, 0⟩) (hs' : ∀ g', gens[j + 1]? = some g' → g'.is_async = 0 ∧ notSet g'.iter = true) (ht : tgtIs t mt = true) (hloc : ∀ y ∈ mt.names, cenv.kindOf (Str.ofString y) = some .local) (hvs : iterOf σ₀ x = some vs)
    (hfi : ∀ ρ σ b σ', fi ρ σ = some (b, σ') → IfsOK prog w hb C n cenv ρ σ ifs b σ') (hin : InnerOK prog w hb C n cenv D (.ListComp elt gens scope pos) elt gens (j + 1) mm) (hA : Rm n A) (hn0 : s₀.heap.get? it = none) :
    ∀ (rest : List V) (i : Nat) (ρ : Rho) (acc : List V) (σ : Store) (s : Shared) (φ : List Addr) (g : Part), rest = vs.drop i → i ≤ vs.length →
      compM (fun v ρ acc σ => (setT ρ mt v).bind fun ρ => (fi ρ σ).bind fun (b, σ) => if b then mm ρ acc σ else some (ρ, acc, σ)) (still x vs) rest ρ acc σ = some (ρ', acc', σ') →
      GrowX (X0 cenv D) φ₀ g₀ s₀.heap φ g s.heap → Rest s₀ s → CS hb C φ g s.heap cenv ρ σ D acc → VR g φ v x → ItAt φ s.heap it v i x → it ∉ φ → g it = none → it ≠ D → it ≠ cenv.locals → (∀ n c, cenv.cells.lookup n = some c → it ≠ c) →
      codeAny (model prog w) A (.compLoop (.ListComp elt gens scope pos) j (.ref it) (.ref D) cenv) (fun r s' => match r with | .ok _ => CPost hb C (X0 cenv D) φ₀ g₀ s₀ cenv ρ' σ' D acc' s' | .error _ => False) s := by
  intro rest
  induction rest with
  | nil =>
    intro i ρ acc σ s φ g hr hi h G0 T0 Z hv hit h1 h2 h3 h4 h5
    unfold compM at h
    split at h
    · rename_i hs
      cases h
      refine codeAny_of_tree ?_
      show wpAny _ A ((compTurn (.ListComp elt gens scope pos) j (.ref it) (.ref D) cenv).onRaise (fun x => do noteFrame x cenv; theTreesLotGoes x)) _ _ s
      refine wpAny_noted (turn_wp hg hs' ?_)
      refine next_op hA.handled (still_iter hvs hs) Z.sim hv hit h1 h2 hi (fun d u h' tk hd => ?_) fun h' hd he => ?_
      · have : vs.length ≤ i := by
          have := congrArg List.length hr
          rw [List.length_drop, List.length_nil] at this; omega
        rw [List.getElem?_eq_none_iff.mpr this] at hd; cases hd
      · exact ⟨φ, g, G0.end_ hn0 he, Z.but he h1 h2 h3 h4 h5, T0.trans ⟨_, s.toks, rfl⟩⟩
    · cases h
  | cons d rest ih =>
    intro i ρ acc σ s φ g hr hi h G0 T0 Z hv hit h1 h2 h3 h4 h5
    have hlt : i < vs.length := by
      have := congrArg List.length hr
      rw [List.length_drop, List.length_cons] at this; omega
    rw [List.drop_eq_getElem_cons hlt] at hr
    obtain ⟨hd0, hr0⟩ := List.cons.inj hr
    have hdi : vs[i]? = some d := by rw [List.getElem?_eq_getElem hlt, ← hd0]
    unfold compM at h
    split at h
    · rename_i hs
      obtain ⟨⟨ρ₂, acc₂, σ₂⟩, k1, k2⟩ := Option.bind_eq_some_iff.mp h
      obtain ⟨ρ₁, k3, k4⟩ := Option.bind_eq_some_iff.mp k1
      obtain ⟨⟨b, σ₁⟩, k5, k6⟩ := Option.bind_eq_some_iff.mp k4
      have hvs' := still_iter hvs hs
      dsimp only at k2 k6
      refine codeAny_of_tree ?_
      show wpAny _ A ((compTurn (.ListComp elt gens scope pos) j (.ref it) (.ref D) cenv).onRaise (fun x => do noteFrame x cenv; theTreesLotGoes x)) _ _ s
      refine wpAny_noted (turn_wp hg hs' ?_)
      refine next_op hA.handled hvs' Z.sim hv hit h1 h2 hi (fun d' u h' tk hd' hu he hit' => ?_) fun h' hd' => by rw [hdi] at hd'; cases hd'
      rw [hdi] at hd'; cases hd'
      refine go_ok (s := { s with heap := h', toks := tk }) hit' ?_ (iter_items hvs' hdi)
      have Z₁ := Z.but he h1 h2 h3 h4 h5
      obtain ⟨oi, hoi⟩ := hit'.obj
      have GA : GrowX (fun a => X0 cenv D a ∨ a = it) φ g s.heap φ g h' := GrowX.but (.inr rfl) hoi he
      refine assign_ok (s := { s with heap := h', toks := tk }) (X := fun a => a = cenv.locals) ht k3 (fun y hy => .inl (hloc y hy)) ⟨rfl, fun y hy q => by rw [hloc y hy] at q; cases q⟩ hA.handled Z₁.sim Z₁.er hu fun h₂ tk₂ G₂ S₂ R₂ => ?_
      have Z₂ : CS hb C φ g h₂ cenv ρ₁ σ D acc := by
        obtain ⟨us, ⟨m', ho⟩, hrs⟩ := Z₁.acc
        exact ⟨S₂, R₂, ⟨us, ⟨m', G₂.keep _ _ ho Z.offD.1 Z.neL⟩, hrs⟩, Z.offD, Z.neL, Z.neC⟩
      have hit₂ : ItAt φ h₂ it v (i + 1) x := hit'.keep (List.prefix_refl _) fun o e => G₂.keep _ o e h1 h4
      refine wpAny_mono (hfi _ _ _ _ k5 A { s with heap := h₂, toks := tk₂ } φ g _ hA S₂ R₂) (fun ok s₃ h₃ => ?_) fun _ _ e => e
      obtain ⟨rfl, φ₃, g₃, G₃, S₃, T₃⟩ := h₃
      have Z₃ := Z₂.grow G₃ S₃
      have hit₃ : ItAt φ₃ s₃.heap it v (i + 1) x := hit₂.keep G₃.pre fun o e => G₃.keep _ o e h1
      obtain ⟨o₂, ho₂⟩ := hit₂.obj
      obtain ⟨h1', h2'⟩ := GrowX.off (X := fun _ => False) G₃.toX ho₂ h1 h2
      have GB : GrowX (fun a => X0 cenv D a ∨ a = it) φ g s.heap φ₃ g₃ s₃.heap := (GA.trans (G₂.wider fun a q => .inl (.inl q))).trans G₃.toX
      have TB : Rest s s₃ := (Rest.mk s h₂ tk₂).trans T₃
      have lessen : ∀ {φ₄ g₄ h₄}, GrowX (fun a => X0 cenv D a ∨ a = it) φ g s.heap φ₄ g₄ h₄ → GrowX (X0 cenv D) φ₀ g₀ s₀.heap φ₄ g₄ h₄ := fun G4 =>
        ((G0.wider fun a q => .inl q).trans G4).less fun a q => q.elim .inl fun e => .inr (by rw [e]; exact hn0)
      cases ok with
      | false =>
        rw [if_neg (by decide)]
        rw [if_neg (by decide)] at k6
        cases k6
        exact ⟨rfl, ih (i + 1) _ _ _ s₃ φ₃ g₃ hr0 hlt k2 (lessen GB) (T0.trans TB) Z₃ (hv.mono G₃.mono G₃.pre) hit₃ h1' h2' h3 h4 h5⟩
      | true =>
        rw [if_pos rfl]
        rw [if_pos rfl] at k6
        refine innerW_mono (hin _ _ _ _ _ _ k6 A s₃ φ₃ g₃ _ hA Z₃) fun s₄ h₄ => ?_
        obtain ⟨φ₄, g₄, G₄, Z₄, T₄⟩ := h₄
        obtain ⟨o₃, ho₃⟩ := hit₃.obj
        obtain ⟨h1'', h2''⟩ := G₄.off ho₃ h1' h2'
        have nX : ¬ X0 cenv D it := fun q => q.elim h4 h3
        exact ⟨rfl, ih (i + 1) ρ₂ acc₂ σ₂ s₄ φ₄ g₄ hr0 hlt k2 (lessen (GB.trans (G₄.wider fun a q => .inl q))) ((T0.trans TB).trans T₄) Z₄ ((hv.mono G₃.mono G₃.pre).mono G₄.mono G₄.pre) (hit₃.keep G₄.pre fun o e => G₄.keep _ o e h1' nX) h1'' h2'' h3 h4 h5⟩
    · cases h

theorem start_ok {elt : Expr} {gens : List Comprehension} {scope : Scope} {pos : Pos} {j : Nat} {t itx : Expr} {ifs : List Expr} {R : Result → Shared → Prop} {x : V} {v : Value} {vs : List V} {it : Addr} {i : Nat} (hg : gens[j]? = some ⟨t, itx, ifs, 0⟩) (hit : ItAt φ s.heap it v i x) (hx : ∀ k, x ≠ .items k)
    (h : codeAny (model prog w) A (.compLoop (.ListComp elt gens scope pos) j (.ref it) (.ref D) cenv) R s) : codeAny (model prog w) A (.compStart (.ListComp elt gens scope pos) j (.ref it) (.ref D) cenv) R s := by
  refine codeAny_of_tree ?_
  show wpAny _ _ ((compStart (.ListComp elt gens scope pos) j (.ref it) (.ref D) cenv).onRaise (fun x => do noteFrame x cenv; standAt theWindowsPlace)) _ _ s
  refine wpAny_notedAt ?_
  have self : ∀ {A E} {Q : Value → Shared → Prop}, Q (.ref it) s → wpAny (model prog w) A (pyIter (.ref it)) Q E s := by
    intro A E Q q
    cases x <;> first | exact hit.elim | skip
    · obtain ⟨t, e, r⟩ := hit; exact wpAny_pyIter_striter_ascii r q
    · obtain ⟨a, e, r⟩ := hit; exact wpAny_pyIter_tupleiter r q
    · obtain ⟨a, e, r⟩ := hit; exact wpAny_pyIter_listiter r q
    · obtain ⟨a, e, r⟩ := hit; exact wpAny_pyIter_listiter r q
    · exact wpAny_pyIter_rangeiter hit q
    · exact absurd rfl (hx _)
  unfold compStart
  have hcl : (clausesOf (.ListComp elt gens scope pos))[j]? = some ⟨t, itx, ifs, 0⟩ := hg
  rw [hcl]
  simp only [Option.elim, bne_self_eq_false, Bool.false_eq_true, if_false]
  refine wpAny_bind (wpAny_askSetting (wpAny_ite ?_))
  split
  · exact wpAny_pure ⟨rfl, h⟩
  · exact wpAny_bind (wpAny_rule (wpAny_bind (wpAny_standAt (wpAny_bind (self (wpAny_pure ⟨rfl, h⟩))))))
end
end Mine

namespace Mine

section
variable {prog : Program} {w : World} {hb : Heap} {C : Addr} {n : Nat} {env cenv : Env} {ρ ρ' : Rho} {σ σ₁ σ₂ σ₃ : Store} {A : Around} {s : Shared} {φ φ' : List Addr} {g : Part} {E : Value → Shared → Prop} {X : Addr → Prop} {D : Addr}

theorem Grow.same {h h' : Heap} (hk : ∀ b o, h.get? b = some o → h'.get? b = some o) : Grow φ g h φ g h' :=
  ⟨List.prefix_refl _, fun _ _ e => e, fun _ _ e => .inl e, fun _ e => .inl e, fun b o e _ => hk b o e, fun b o e => ⟨o, hk b o e⟩⟩
theorem iterC_iter {x : V} {vs : List V} (h : iterC σ x = some vs) : iterOf σ x = some vs ∧ ∀ k, x ≠ .items k := by
  unfold iterC at h
  split at h
  · cases h
  · rename_i hx; exact ⟨h, fun k q => hx k q⟩

theorem inner_more {elt : Expr} {gens : List Comprehension} {scope : Scope} {pos : Pos} {j : Nat} {t itx : Expr} {ifs : List Expr} {mt : MT} {ev : Rho → Store → Option (V × Store)} {fi : Rho → Store → Option (Bool × Store)} {mm : Rho → List V → Store → Option (Rho × List V × Store)}
    (hg : gens[j]? = some ⟨t, itx, ifs, 0⟩) (hs' : ∀ g', gens[j + 1]? = some g' → g'.is_async = 0 ∧ notSet g'.iter = true) (ht : tgtIs t mt = true) (hloc : ∀ y ∈ mt.names, cenv.kindOf (Str.ofString y) = some .local)
    (hev : ∀ ρ σ d σ', ev ρ σ = some (d, σ') → EvOK prog w hb C n cenv ρ σ itx d σ')
    (hfi : ∀ ρ σ b σ', fi ρ σ = some (b, σ') → IfsOK prog w hb C n cenv ρ σ ifs b σ') (hin : InnerOK prog w hb C n cenv D (.ListComp elt gens scope pos) elt gens (j + 1) mm) :
    InnerOK prog w hb C n cenv D (.ListComp elt gens scope pos) elt gens j fun ρ acc σ => (ev ρ σ).bind fun (x, σ) => (iterC σ x).bind fun vs =>
      compM (fun v ρ acc σ => (setT ρ mt v).bind fun ρ => (fi ρ σ).bind fun (b, σ) => if b then mm ρ acc σ else some (ρ, acc, σ)) (still x vs) vs ρ acc σ := by
  intro ρ acc σ ρ' acc' σ' h A s φ g E hA Z
  obtain ⟨⟨x, σ₁⟩, k1, k2⟩ := Option.bind_eq_some_iff.mp h
  obtain ⟨vs, k3, k4⟩ := Option.bind_eq_some_iff.mp k2
  dsimp only at k3 k4
  obtain ⟨k3, kx⟩ := iterC_iter k3
  unfold innerW
  rw [hg]
  refine wpAny_mono (hev _ _ _ _ k1 A s φ g E hA Z.sim Z.er) (fun v s₁ h₁ => ?_) fun _ _ e => e
  obtain ⟨φ₁, g₁, G₁, S₁, V₁, T₁⟩ := h₁
  have Z₁ := Z.grow G₁ S₁
  refine iter_op k3 S₁ V₁ fun it h' hn hk hit => ?_
  have G₂ : Grow φ₁ g₁ s₁.heap φ₁ g₁ h' := Grow.same hk
  have Z₂ := Z₁.grow (h₁ := h') G₂ (S₁.all hk)
  refine start_ok (s := { s₁ with heap := h' }) (vs := vs) hg hit kx ?_
  obtain ⟨us, ⟨m', ho⟩, _⟩ := Z₁.acc
  obtain ⟨m, hm⟩ := Z₁.er.ns
  obtain ⟨oL, hoL⟩ := Nsm.has hm
  refine codeAny_mono (loop_ok (s₀ := s₁) (φ₀ := φ₁) (g₀ := g₁) hg hs' ht hloc k3 hfi hin hA hn vs 0 ρ acc σ₁ { s₁ with heap := h' } φ₁ g₁ rfl (Nat.zero_le _) k4 G₂.toX ⟨_, s₁.toks, rfl⟩ Z₂ V₁ hit (S₁.fresh_f hn) (S₁.fresh_g hn)
    (by rintro rfl; rw [hn] at ho; cases ho) (by rintro rfl; rw [hn] at hoL; cases hoL) (fun y c hc => by rintro rfl; obtain ⟨⟨u, o, ho, _⟩, _⟩ := Z₁.er.cells y _ hc; rw [hn] at ho; cases ho)) fun r s' z => ?_
  cases r with
  | ok f => exact CPost.trans G₁.toX T₁ z
  | error e => exact z

theorem Sim.adoptG {h : Heap} {a : Addr} {o : Obj} (S : Sim hb C φ σ g h) (h1 : a ∉ φ) (h2 : g a = none) (ho : h.get? a = some o) : Sim hb C φ σ (putG g a o) h := by
  have mono : ∀ b o', g b = some o' → putG g a o b = some o' := fun b o' e => by
    unfold putG
    rw [if_neg (by rintro rfl; rw [h2] at e; cases e)]; exact e
  refine ⟨fun b o' e => mono _ _ (S.base _ _ e), fun b o' e => ?_, S.len, fun b m => ?_, fun k b o' e1 e2 => (S.own k b o' e1 e2).grow mono (List.prefix_refl _) fun o' e => e, S.nodup⟩
  · unfold putG at e
    split at e
    · rename_i q; subst q; cases e; exact ho
    · exact S.keep _ _ e
  · unfold putG
    rw [if_neg (by rintro rfl; exact h1 m)]; exact S.off b m
theorem Sim.adoptF {h : Heap} {a : Addr} {x : OObj} (S : Sim hb C φ σ g h) (h1 : a ∉ φ) (h2 : g a = none) (hx : OR C g (φ ++ [a]) h a x) : Sim hb C (φ ++ [a]) (σ ++ [x]) g h := by
  have pre : φ <+: φ ++ [a] := List.prefix_append ..
  refine ⟨S.base, S.keep, by simp [S.len], fun b m => ?_, fun k b o e1 e2 => ?_, ?_⟩
  · rcases List.mem_append.mp m with m | m
    · exact S.off b m
    · rw [List.mem_singleton.mp m]; exact h2
  · by_cases hlt : k < φ.length
    · rw [List.getElem?_append_left hlt] at e1
      rw [List.getElem?_append_left (S.len ▸ hlt)] at e2
      exact (S.own k b o e1 e2).grow (fun _ _ e => e) pre fun o' e => e
    · have hl : φ.length = σ.length := S.len
      have : k < (φ ++ [a]).length := (List.getElem?_eq_some_iff.mp e1).1
      rw [List.length_append, List.length_singleton] at this
      have hk' : k = φ.length := by omega
      subst hk'
      rw [List.getElem?_append_right (Nat.le_refl _)] at e1
      rw [hl, List.getElem?_append_right (Nat.le_refl _)] at e2
      simp at e1 e2
      subst e1 e2
      exact hx
  · rw [List.nodup_append]
    exact ⟨S.nodup, by simp, fun b m c n => by rw [List.mem_singleton.mp n]; rintro rfl; exact h1 m⟩
theorem Grow.adoptG {φ₀ : List Addr} {g₀ : Part} {h₀ h : Heap} {a : Addr} {o : Obj} (G : Grow φ₀ g₀ h₀ φ g h) (h2 : g a = none) (hn : h₀.get? a = none) : Grow φ₀ g₀ h₀ φ (putG g a o) h :=
  ⟨G.pre, fun b o' e => by unfold putG; rw [if_neg (by rintro rfl; rw [G.mono _ _ e] at h2; cases h2)]; exact G.mono b o' e, fun b o' e => by
    unfold putG at e
    split at e
    · rename_i q; subst q; exact .inr hn
    · exact G.newg b o' e, G.newf, G.keep, G.dom⟩
theorem Grow.adoptF {φ₀ : List Addr} {g₀ : Part} {h₀ h : Heap} {a : Addr} (G : Grow φ₀ g₀ h₀ φ g h) (hn : h₀.get? a = none) : Grow φ₀ g₀ h₀ (φ ++ [a]) g h :=
  ⟨G.pre.trans (List.prefix_append ..), G.mono, G.newg, fun b m => by
    rcases List.mem_append.mp m with m | m
    · exact G.newf b m
    · rw [List.mem_singleton.mp m]; exact .inr hn, G.keep, G.dom⟩

theorem adopt_list {φ₀ : List Addr} {g₀ : Part} {h₀ h : Heap} {vs : List Value} {ds : List V} {own : Bool} {d : V} {σ' : Store} (e : newL own ds σ = some (d, σ')) (S : Sim hb C φ σ g h) (G : Grow φ₀ g₀ h₀ φ g h) (h1 : D ∉ φ) (h2 : g D = none) (hn : h₀.get? D = none) (hp : h.PlainList D vs.toArray) (hr : VRs g φ vs ds) :
    ∃ φ' g', Grow φ₀ g₀ h₀ φ' g' h ∧ Sim hb C φ' σ' g' h ∧ VR g' φ' (.ref D) d ∧ ∀ a, a ≠ D → (a ∉ φ → a ∉ φ') ∧ (g a = none → g' a = none) := by
  unfold newL at e
  split at e
  · split at e
    · cases e
      refine ⟨φ ++ [D], g, G.adoptF hn, S.adoptF h1 h2 ⟨vs, hp, hr.mono (fun _ _ e => e) (List.prefix_append ..)⟩, .own ?_, fun a ha => ⟨fun m q => ?_, id⟩⟩
      · rw [← S.len, List.getElem?_append_right (Nat.le_refl _)]; simp
      · rcases List.mem_append.mp q with q | q
        · exact m q
        · exact ha (List.mem_singleton.mp q)
    · cases e
      obtain ⟨o, ho, hc, m, hd⟩ := hp.isList
      have G' := G.adoptG (o := o) h2 hn
      refine ⟨φ, putG g D o, G', S.adoptG h1 h2 ho, .list (by unfold putG; rw [if_pos rfl]) hc hd (hr.mono (fun b o' e => ?_) (List.prefix_refl _)), fun a ha => ⟨id, fun q => ?_⟩⟩
      · unfold putG; rw [if_neg (by rintro rfl; rw [h2] at e; cases e)]; exact e
      · unfold putG; rw [if_neg ha]; exact q
  · cases e

theorem comp_core {elt : Expr} {gs : List Comprehension} {scope : Scope} {pos pos' : Pos} {t itx : Expr} {ifs : List Expr} {mt : MT} {own : List String} {fi : Rho → Store → Option (Bool × Store)} {mm : Rho → List V → Store → Option (Rho × List V × Store)} {x d : V} {vs acc' : List V} {ownL : Bool} {use : Option (Value → Sem Unit)} {Q : Value → Shared → Prop}
    (Zs : CompScope env scope own) (hs' : ∀ g', gs[0]? = some g' → g'.is_async = 0 ∧ notSet g'.iter = true) (ht : tgtIs t mt = true) (hset : notSet itx = true) (hloc : ∀ y ∈ mt.names, scope.names.lookup (Str.ofString y) = some .local)
    (hev : EvOK prog w hb C n env ρ σ itx x σ₁) (hx : iterC σ₁ x = some vs)
    (hfi : ∀ L cl ρ σ b σ', fi ρ σ = some (b, σ') → IfsOK prog w hb C n (compEnvC scope cl L env) ρ σ ifs b σ') (hin : ∀ L cl D, InnerOK prog w hb C n (compEnvC scope cl L env) D (.ListComp elt (⟨t, itx, ifs, 0⟩ :: gs) scope pos) elt (⟨t, itx, ifs, 0⟩ :: gs) 1 mm)
    (hm : compM (fun v ρ acc σ => (setT ρ mt v).bind fun ρ => (fi ρ σ).bind fun (b, σ) => if b then mm ρ acc σ else some (ρ, acc, σ)) (still x vs) vs (own.map (fun y => (y, none)) ++ ρ) [] σ₁ = some (ρ', acc', σ₂)) (hd : newL ownL acc' σ₂ = some (d, σ₃))
    (hA : Rm n A) (S : Sim hb C φ σ g s.heap) (R : ER hb φ g s.heap env ρ)
    (hq : ∀ (s' : Shared) φ' g' L m v f, Grow φ g s.heap φ' g' s'.heap → Sim hb C φ' σ₃ g' s'.heap → VR g' φ' v d → Rest s s' → L ∉ φ' → g' L = none → s.heap.get? L = none → s'.heap.Ns L m → compPost (model prog w) A E use Q v L (.ok f) s') :
    wpAny (model prog w) A (comprehension (.ListComp elt (⟨t, itx, ifs, 0⟩ :: gs) scope pos) scope env pos' (newList []) false (firstIter (⟨t, itx, ifs, 0⟩ :: gs) env) use) Q E s := by
  obtain ⟨cl, c1, c2, c3⟩ := closure_ok (env := env) (scope := scope) (fun y hy hk => R.has _ (Zs.free y hy hk))
  obtain ⟨hx, kx⟩ := iterC_iter hx
  refine wpAny_comprehension_free (g := ⟨t, itx, ifs, 0⟩) (gs := gs) rfl (fun y => folded_ok hset) c1 Zs.kind (fun y hy hk => by rw [Zs.once y hy, hk]) ?_
  show wpAny _ A (eval itx env) _ _ s
  refine wpAny_mono (hev A s φ g E hA S R) (fun v s₁ h₁ => ?_) fun _ _ e => e
  obtain ⟨φ₁, g₁, G₁, S₁, V₁, T₁⟩ := h₁
  have R₁ := R.grow G₁
  refine iter_op hx S₁ V₁ fun it h₂ hn hk hit => ?_
  refine wpAny_newObj_type (wpAny_newFunctionEnv Zs.noCell (by intro y hy; simp at hy) (fun h₄ hns hsb => ?_) Zs.kind)
  dsimp only at hns hsb ⊢
  generalize hH3 : h₂.push { cls := .type "list", dict := none, data := .seq ([] : List Value).toArray } = H3 at hns hsb ⊢
  have hL : H3.objs.size = h₂.objs.size + 1 := by rw [← hH3, Heap.size_push]
  have hk3 : ∀ b o, h₂.get? b = some o → H3.get? b = some o := fun b o e => by rw [← hH3]; exact Heap.get?_push_of_some _ e
  have hk4 : ∀ b o, H3.get? b = some o → h₄.get? b = some o := fun b o e => hsb.extBut b o (Nat.ne_of_lt (Heap.lt_size e)) (Heap.get?_push_of_some _ e)
  have hk24 : ∀ b o, h₂.get? b = some o → h₄.get? b = some o := fun b o e => hk4 b o (hk3 b o e)
  have hk14 : ∀ b o, s₁.heap.get? b = some o → h₄.get? b = some o := fun b o e => hk24 b o (hk b o e)
  have none2 : ∀ a, h₂.objs.size ≤ a → s₁.heap.get? a = none := fun a ha => by
    cases q : s₁.heap.get? a with
    | none => rfl
    | some o => exact absurd (Heap.lt_size (hk a o q)) (Nat.not_lt.mpr ha)
  have none0 : ∀ a, s₁.heap.get? a = none → s.heap.get? a = none := fun a ha => by
    cases q : s.heap.get? a with
    | none => rfl
    | some o => obtain ⟨o', q'⟩ := G₁.dom a o q; rw [ha] at q'; cases q'
  have nD := none2 h₂.objs.size (Nat.le_refl _)
  have nL := none2 H3.objs.size (by rw [hL]; exact Nat.le_succ _)
  obtain ⟨mE, hmE⟩ := R₁.ns
  obtain ⟨oE, hoE⟩ := Nsm.has hmE
  have R₄ : ER hb φ₁ g₁ h₄ (compEnvC scope cl H3.objs.size env) (own.map (fun y => (y, none)) ++ ρ) :=
    comp_er Zs S₁ R₁ c2 c3 nL hk14 hns
  have S₄ : Sim hb C φ₁ σ₁ g₁ h₄ := S₁.all hk14
  have hacc : h₄.PlainList h₂.objs.size #[] := ⟨_, hk4 _ _ (by rw [← hH3]; exact Heap.get?_push_size _ rfl)⟩
  have Z₄ : CS hb C φ₁ g₁ h₄ (compEnvC scope cl H3.objs.size env) (own.map (fun y => (y, none)) ++ ρ) σ₁ h₂.objs.size [] := by
    refine ⟨S₄, R₄, ⟨[], hacc, .nil⟩, ⟨S₁.fresh_f nD, S₁.fresh_g nD⟩, ?_, fun y c hc => ?_⟩
    · show h₂.objs.size ≠ H3.objs.size
      rw [hL]; exact Nat.ne_of_lt (Nat.lt_succ_self _)
    · rintro rfl
      obtain ⟨⟨u, o, ho, _⟩, _⟩ := R₁.cells y _ (c2 _ _ hc)
      rw [nD] at ho; cases ho
  have hit₄ : ItAt φ₁ h₄ it v 0 x := hit.keep (List.prefix_refl _) fun o e => hk24 _ o e
  obtain ⟨oi, hoi⟩ := hit.obj
  refine start_ok (s := { s₁ with heap := h₄, toks := s₁.toks + ([] : List (Str × Value)).length }) (cenv := compEnvC scope cl H3.objs.size env) (vs := vs) (j := 0) rfl hit₄ kx ?_
  have G4 : GrowX (X0 (compEnvC scope cl H3.objs.size env) h₂.objs.size) φ₁ g₁ s₁.heap φ₁ g₁ h₄ := (Grow.same hk14).toX
  refine codeAny_mono (loop_ok (s₀ := s₁) (φ₀ := φ₁) (g₀ := g₁) (cenv := compEnvC scope cl H3.objs.size env) (D := h₂.objs.size) (j := 0) rfl hs' ht (fun y hy => lookup_relabel_local (hloc y hy)) hx (fun ρ σ b σ' h => hfi _ _ ρ σ b σ' h) (hin _ _ _) hA hn vs 0 _ [] σ₁
    { s₁ with heap := h₄, toks := s₁.toks + ([] : List (Str × Value)).length } φ₁ g₁ rfl (Nat.zero_le _) hm G4 ⟨_, _, rfl⟩ Z₄ V₁ hit₄ (S₁.fresh_f hn) (S₁.fresh_g hn) (Nat.ne_of_lt (Heap.lt_size hoi))
    (by show it ≠ H3.objs.size; rw [hL]; exact Nat.ne_of_lt (Nat.lt_succ_of_lt (Heap.lt_size hoi))) (fun y c hc => by rintro rfl; obtain ⟨⟨u, o, ho, _⟩, _⟩ := R₁.cells y _ (c2 _ _ hc); rw [hn] at ho; cases ho)) fun r s' z => ?_
  cases r with
  | error e => exact z.elim
  | ok f =>
    obtain ⟨φ₅, g₅, G₅, Z₅, T₅⟩ := z
    have G5' : Grow φ₁ g₁ s₁.heap φ₅ g₅ s'.heap := G₅.plain fun a q => by rcases q with rfl | rfl; exact nL; exact nD
    obtain ⟨us, hp, hr⟩ := Z₅.acc
    obtain ⟨φ₆, g₆, G₆, S₆, V₆, off⟩ := adopt_list hd Z₅.sim (G₁.trans G5') Z₅.offD.1 Z₅.offD.2 (none0 _ nD) hp hr
    obtain ⟨m5, hm5⟩ := Z₅.er.ns
    have hne : H3.objs.size ≠ h₂.objs.size := by rw [hL]; exact Ne.symm (Nat.ne_of_lt (Nat.lt_succ_self _))
    exact hq s' φ₆ g₆ H3.objs.size m5 _ f G₆ S₆ V₆ (T₁.trans T₅) ((off _ hne).1 Z₅.er.offL.1) ((off _ hne).2 Z₅.er.offL.2) (none0 _ nL) hm5

theorem Post.but {L : Addr} {d : V} {v : Value} {h' : Heap} {s' : Shared} {φ' : List Addr} {g' : Part} (G : Grow φ g s.heap φ' g' s'.heap) (S : Sim hb C φ' σ g' s'.heap) (hv : VR g' φ' v d) (T : Rest s s') (h1 : L ∉ φ') (h2 : g' L = none) (hn : s.heap.get? L = none) (hs : Heap.SameBut L s'.heap h') :
    Post hb C φ g s σ d v { s' with heap := h' } := by
  refine ⟨φ', g', ⟨G.pre, G.mono, G.newg, G.newf, fun a o e m => hs.extBut a o (by rintro rfl; rw [hn] at e; cases e) (G.keep a o e m), fun a o e => ?_⟩, S.but h1 h2 hs.extBut, hv, T.trans ⟨_, s'.toks, rfl⟩⟩
  obtain ⟨o', e'⟩ := G.dom a o e
  exact ⟨o', hs.extBut a o' (by rintro rfl; rw [hn] at e; cases e) e'⟩
end
end Mine

namespace Mine

section
variable {prog : Program} {w : World} {hb : Heap} {C : Addr} {n : Nat} {env cenv : Env} {ρ ρ' : Rho} {σ σ₁ σ₂ σ₃ : Store} {A : Around} {s : Shared} {φ φ' : List Addr} {g : Part} {E : Value → Shared → Prop} {X : Addr → Prop} {D : Addr} {z TI TO i1 i2 l1 l2 : Addr} {us ws : List Value} {ds es : List V}

noncomputable def zipped (ds es : List V) : List V := List.zipWith (fun a b => V.tuple [a, b]) ds es
noncomputable def ZW (z TI TO i1 i2 : Addr) (a : Addr) : Prop := a = z ∨ a = TI ∨ a = TO ∨ a = i1 ∨ a = i2
noncomputable def ZAt (z TI TO i1 i2 l1 l2 : Addr) (us ws : List Value) (i : Nat) (h : Heap) : Prop :=
  IsZip h z TI TO .none ∧ IsPair h TI (.ref i1) (.ref i2) ∧ (∃ a b, IsPair h TO a b) ∧ h.IsListIter i1 l1 i ∧ h.IsListIter i2 l2 i ∧ h.IsList l1 us.toArray ∧ h.IsList l2 ws.toArray
theorem ZW.wr {a : Addr} (h : a ∈ [z, TO, i1, i2]) : ZW z TI TO i1 i2 a := by
  simp only [List.mem_cons, List.not_mem_nil, or_false] at h
  rcases h with h | h | h | h
  · exact .inl h
  · exact .inr (.inr (.inl h))
  · exact .inr (.inr (.inr (.inl h)))
  · exact .inr (.inr (.inr (.inr h)))
structure ZOff (φ : List Addr) (g : Part) (cenv : Env) (D : Addr) (z TI TO i1 i2 l1 l2 : Addr) : Prop where
  own : ∀ a, ZW z TI TO i1 i2 a → a ∉ φ ∧ g a = none ∧ a ≠ D ∧ a ≠ cenv.locals ∧ ∀ n c, cenv.cells.lookup n = some c → a ≠ c
  l1 : ∃ o, g l1 = some o
  l2 : ∃ o, g l2 = some o
theorem ZOff.fp (o : ZOff φ g cenv D z TI TO i1 i2 l1 l2) (S : Sim hb C φ σ g s.heap) (hD : g D = none) (hL : g cenv.locals = none) {b : Addr} (hm : b ∈ [z, TI, TO, i1, i2, l1, l2]) : b ∉ φ ∧ b ≠ D ∧ b ≠ cenv.locals := by
  have lst : ∀ {l : Addr}, (∃ o, g l = some o) → l ∉ φ ∧ l ≠ D ∧ l ≠ cenv.locals := fun {l} ⟨o, e⟩ =>
    ⟨fun m => (by rw [S.off _ m] at e; cases e), (by rintro rfl; rw [hD] at e; cases e), (by rintro rfl; rw [hL] at e; cases e)⟩
  have ow : ∀ {a : Addr}, ZW z TI TO i1 i2 a → a ∉ φ ∧ a ≠ D ∧ a ≠ cenv.locals := fun {a} h => let r := o.own a h; ⟨r.1, r.2.2.1, r.2.2.2.1⟩
  simp only [List.mem_cons, List.not_mem_nil, or_false] at hm
  rcases hm with rfl | rfl | rfl | rfl | rfl | rfl | rfl
  · exact ow (.inl rfl)
  · exact ow (.inr (.inl rfl))
  · exact ow (.inr (.inr (.inl rfl)))
  · exact ow (.inr (.inr (.inr (.inl rfl))))
  · exact ow (.inr (.inr (.inr (.inr rfl))))
  · exact lst o.l1
  · exact lst o.l2
theorem ZOff.grow {φ₁ : List Addr} {g₁ : Part} {hp h₁ : Heap} {i : Nat} (o : ZOff φ g cenv D z TI TO i1 i2 l1 l2) (G : GrowX X φ g hp φ₁ g₁ h₁) (hz : ZAt z TI TO i1 i2 l1 l2 us ws i hp) : ZOff φ₁ g₁ cenv D z TI TO i1 i2 l1 l2 := by
  obtain ⟨a1, a2, ⟨_, _, a3⟩, ⟨_, a4, _⟩, ⟨_, a5, _⟩, -⟩ := hz
  refine ⟨fun a h => ?_, let ⟨x, e⟩ := o.l1; ⟨x, G.mono _ _ e⟩, let ⟨x, e⟩ := o.l2; ⟨x, G.mono _ _ e⟩⟩
  have r := o.own a h
  obtain ⟨ob, hob⟩ : ∃ ob, hp.get? a = some ob := by
    rcases h with rfl | rfl | rfl | rfl | rfl
    · exact ⟨_, a1⟩
    · exact ⟨_, a2⟩
    · exact ⟨_, a3⟩
    · exact ⟨_, a4⟩
    · exact ⟨_, a5⟩
  obtain ⟨x1, x2⟩ := G.off hob r.1 r.2.1
  exact ⟨x1, x2, r.2.2⟩

theorem zstart_ok {elt itx : Expr} {scope : Scope} {pos : Pos} {t : Expr} {ifs : List Expr} {R : Result → Shared → Prop} (hz : IsZip s.heap z TI TO .none)
    (h : codeAny (model prog w) A (.compLoop (.ListComp elt [⟨t, itx, ifs, 0⟩] scope pos) 0 (.ref z) (.ref D) cenv) R s) : codeAny (model prog w) A (.compStart (.ListComp elt [⟨t, itx, ifs, 0⟩] scope pos) 0 (.ref z) (.ref D) cenv) R s := by
  refine codeAny_of_tree ?_
  show wpAny _ _ ((compStart (.ListComp elt [⟨t, itx, ifs, 0⟩] scope pos) 0 (.ref z) (.ref D) cenv).onRaise (fun x => do noteFrame x cenv; standAt theWindowsPlace)) _ _ s
  refine wpAny_notedAt ?_
  unfold compStart
  have hcl : (clausesOf (.ListComp elt [⟨t, itx, ifs, 0⟩] scope pos))[0]? = some ⟨t, itx, ifs, 0⟩ := rfl
  rw [hcl]
  simp only [Option.elim, bne_self_eq_false, Bool.false_eq_true, if_false]
  refine wpAny_bind (wpAny_askSetting (wpAny_ite ?_))
  split
  · exact wpAny_pure ⟨rfl, h⟩
  · exact wpAny_bind (wpAny_rule (wpAny_bind (wpAny_standAt (wpAny_bind (wpAny_pyIter_zip hz (wpAny_pure ⟨rfl, h⟩))))))
theorem zip_loop {elt itx : Expr} {scope : Scope} {pos : Pos} {t : Expr} {ifs : List Expr} {xn : List String} {fi : Rho → Store → Option (Bool × Store)} {mm : Rho → List V → Store → Option (Rho × List V × Store)} {s₀ : Shared} {φ₀ : List Addr} {g₀ : Part} {acc' : List V} {σ' : Store}
    (ht : tgtIs t (.tup xn) = true) (hloc : ∀ y ∈ xn, cenv.kindOf (Str.ofString y) = some .local)
    (hfi : ∀ ρ σ b σ', fi ρ σ = some (b, σ') → IfsOK prog w hb C n cenv ρ σ ifs b σ') (hin : InnerOK prog w hb C n cenv D (.ListComp elt [⟨t, itx, ifs, 0⟩] scope pos) elt [⟨t, itx, ifs, 0⟩] 1 mm) (hA : Rm n A)
    (hn0 : ∀ a, ZW z TI TO i1 i2 a → s₀.heap.get? a = none) (ap : ZipApart z TI TO i1 i2 l1 l2) :
    ∀ (rest : List V) (i : Nat) (ρ : Rho) (acc : List V) (σ : Store) (s : Shared) (φ : List Addr) (g : Part), rest = (zipped ds es).drop i → i ≤ (zipped ds es).length →
      compM (fun v ρ acc σ => (setT ρ (.tup xn) v).bind fun ρ => (fi ρ σ).bind fun (b, σ) => if b then mm ρ acc σ else some (ρ, acc, σ)) (fun _ => true) rest ρ acc σ = some (ρ', acc', σ') →
      GrowX (X0 cenv D) φ₀ g₀ s₀.heap φ g s.heap → Rest s₀ s → CS hb C φ g s.heap cenv ρ σ D acc → VRs g φ us ds → VRs g φ ws es → ZAt z TI TO i1 i2 l1 l2 us ws i s.heap → ZOff φ g cenv D z TI TO i1 i2 l1 l2 →
      codeAny (model prog w) A (.compLoop (.ListComp elt [⟨t, itx, ifs, 0⟩] scope pos) 0 (.ref z) (.ref D) cenv) (fun r s' => match r with | .ok _ => CPost hb C (X0 cenv D) φ₀ g₀ s₀ cenv ρ' σ' D acc' s' | .error _ => False) s := by
  intro rest
  have WK := WalksT.zip2 (prog := prog) (w := w) hA.handled z TI TO i1 i2 l1 l2 ap us.toArray ws.toArray
  have hg : [(⟨t, itx, ifs, 0⟩ : Comprehension)][0]? = some ⟨t, itx, ifs, 0⟩ := rfl
  have hs' : ∀ g', [(⟨t, itx, ifs, 0⟩ : Comprehension)][0 + 1]? = some g' → g'.is_async = 0 ∧ notSet g'.iter = true := fun g' e => by cases e
  obtain ⟨tes, tk0, tp, rfl, -⟩ := onTuple_inv (f := fun es _ _ => nmsAre es xn) ht
  induction rest with
  | nil =>
    intro i ρ acc σ s φ g hr hi h G0 T0 Z hu hw hz ho
    unfold compM at h
    rw [if_pos rfl] at h
    cases h
    have hiz : i = min us.toArray.size ws.toArray.size := by
      have := congrArg List.length hr
      unfold zipped at this hi
      rw [List.length_drop, List.length_nil, List.length_zipWith] at this
      rw [List.length_zipWith] at hi
      rw [List.size_toArray, List.size_toArray, hu.length, hw.length]; omega
    subst hiz
    refine codeAny_of_tree ?_
    show wpAny _ A ((compTurn _ 0 (.ref z) (.ref D) cenv).onRaise (fun x => do noteFrame x cenv; theTreesLotGoes x)) _ _ s
    refine wpAny_noted (turn_wp hg hs' ?_)
    refine WK.done s _ _ hz fun h' tk he => ?_
    have he' : ∀ b o, ¬ b ∈ [z, TO, i1, i2] → s.heap.get? b = some o → h'.get? b = some o := he
    exact ⟨φ, g, G0.ends (W := fun a => a ∈ [z, TO, i1, i2]) (fun a m => hn0 a (ZW.wr m)) he',
      Z.buts he' (fun a m => let r := ho.own a (ZW.wr m); ⟨r.1, r.2.1⟩) (fun m => (ho.own _ (ZW.wr m)).2.2.1 rfl) (fun m => (ho.own _ (ZW.wr m)).2.2.2.1 rfl) (fun k c e m => (ho.own _ (ZW.wr m)).2.2.2.2 k c e rfl), T0.trans ⟨_, tk, rfl⟩⟩
  | cons d rest ih =>
    intro i ρ acc σ s φ g hr hi h G0 T0 Z hu hw hz ho
    have hlt : i < (zipped ds es).length := by
      have := congrArg List.length hr
      rw [List.length_drop, List.length_cons] at this; omega
    rw [List.drop_eq_getElem_cons hlt] at hr
    obtain ⟨hd0, hr0⟩ := List.cons.inj hr
    have hdi : (zipped ds es)[i]? = some d := by rw [List.getElem?_eq_getElem hlt, ← hd0]
    unfold compM at h
    rw [if_pos rfl] at h
    obtain ⟨⟨ρ₂, acc₂, σ₂⟩, k1, k2⟩ := Option.bind_eq_some_iff.mp h
    obtain ⟨ρ₁, k3, k4⟩ := Option.bind_eq_some_iff.mp k1
    obtain ⟨⟨b, σ₁⟩, k5, k6⟩ := Option.bind_eq_some_iff.mp k4
    dsimp only at k2 k6
    refine codeAny_of_tree ?_
    show wpAny _ A ((compTurn _ 0 (.ref z) (.ref D) cenv).onRaise (fun x => do noteFrame x cenv; theTreesLotGoes x)) _ _ s
    refine wpAny_noted (turn_wp hg hs' ?_)
    have hlt' : i < min us.toArray.size ws.toArray.size := by
      have := hlt
      unfold zipped at this
      rw [List.length_zipWith] at this
      rw [List.size_toArray, List.size_toArray, hu.length, hw.length]; exact this
    refine WK.item i s _ _ hlt' hz fun T vals h' tk hvals hTn hT hmid hk1 => ?_
    dsimp only
    refine WK.go tes tk0 tp i T { s with heap := h', toks := tk } _ _ hmid fun h'' hz'' hk2 => ?_
    have hTw := WK.apart _ _ _ hmid
    have hk : ∀ b o, ¬ b ∈ [z, TO, i1, i2] → s.heap.get? b = some o → h''.get? b = some o := fun b o m e => hk2 b o m (hk1 b o m e)
    have nT : s.heap.get? T = none := Heap.get?_none_of_le hTn
    obtain ⟨oT, hoT, hcT, mT, hdT⟩ := hT
    have hoT := hk2 T oT hTw hoT
    obtain ⟨vx, vy, hx, hy, rfl⟩ := hvals
    rw [List.getElem?_toArray] at hx hy
    obtain ⟨dx, hdx, hvx⟩ := hu.get' hx
    obtain ⟨dy, hdy, hvy⟩ := hw.get' hy
    have hd : d = .tuple [dx, dy] := by
      unfold zipped at hdi
      rw [List.getElem?_zipWith, hdx, hdy] at hdi
      exact (Option.some.inj hdi).symm
    subst hd
    have S1 : Sim hb C φ σ g h'' := Z.sim.keeps fun b o e m => hk b o (fun q => by
      have r := ho.own b (ZW.wr q)
      rcases m with m | m
      · exact r.1 m
      · rw [r.2.1] at m; cases m) e
    have fT := Z.sim.fresh_f nT
    have gT := Z.sim.fresh_g nT
    have S2 := S1.adoptG fT gT hoT
    have mono : ∀ b o, g b = some o → putG g T oT b = some o := fun b o e => by unfold putG; rw [if_neg (by rintro rfl; rw [gT] at e; cases e)]; exact e
    have GA : GrowX (ZW z TI TO i1 i2) φ g s.heap φ (putG g T oT) h'' := by
      refine ⟨List.prefix_refl _, mono, fun b o e => ?_, fun _ e => .inl e, fun b o e _ m => hk b o (fun q => m (ZW.wr q)) e, fun b o e => ?_⟩
      · unfold putG at e
        split at e
        · rename_i q; subst q; exact .inr nT
        · exact .inl e
      · by_cases q : b ∈ [z, TO, i1, i2]
        · obtain ⟨a1, a2, ⟨_, _, a3⟩, ⟨_, a4, _⟩, ⟨_, a5, _⟩, -⟩ := hz''
          simp only [List.mem_cons, List.not_mem_nil, or_false] at q
          rcases q with rfl | rfl | rfl | rfl
          · exact ⟨_, a1⟩
          · exact ⟨_, a3⟩
          · exact ⟨_, a4⟩
          · exact ⟨_, a5⟩
        · exact ⟨o, hk b o q e⟩
    have hnL : ¬ ZW z TI TO i1 i2 cenv.locals := fun q => (ho.own _ q).2.2.2.1 rfl
    have hnD : ¬ ZW z TI TO i1 i2 D := fun q => (ho.own _ q).2.2.1 rfl
    have R2 := Z.er.growX GA hnL fun k c e q => (ho.own _ q).2.2.2.2 k c e rfl
    have offD2 : D ∉ φ ∧ putG g T oT D = none := by
      obtain ⟨us', ⟨m', hp⟩, -⟩ := Z.acc
      refine ⟨Z.offD.1, ?_⟩
      unfold putG
      rw [if_neg (by rintro rfl; rw [nT] at hp; cases hp)]; exact Z.offD.2
    have ho2 := ho.grow GA hz
    have vT : VR (putG g T oT) φ (.ref T) (.tuple [dx, dy]) := .tuple (vs := [vx, vy]) (by unfold putG; rw [if_pos rfl]) hcT hdT (.cons (hvx.mono mono (List.prefix_refl _)) (.cons (hvy.mono mono (List.prefix_refl _)) .nil))
    refine assign_ok (s := { s with heap := h'', toks := tk }) (X := fun a => a = cenv.locals) ht k3 (fun y hy => .inl (hloc y hy)) ⟨rfl, fun y hy q => by rw [hloc y hy] at q; cases q⟩ hA.handled S2 R2 vT fun h₂ tk₂ G₂ S₂ R₂ => ?_
    have Z₂ : CS hb C φ (putG g T oT) h₂ cenv ρ₁ σ D acc := by
      obtain ⟨us', ⟨m', hp⟩, hrs⟩ := Z.acc
      exact ⟨S₂, R₂, ⟨us', ⟨m', G₂.keep _ _ (hk _ _ (fun q => hnD (ZW.wr q)) hp) Z.offD.1 Z.neL⟩, hrs.mono mono (List.prefix_refl _)⟩, offD2, Z.neL, Z.neC⟩
    have fp2 : ∀ {σ' : Store} {h : Heap} {φ g}, ZOff φ g cenv D z TI TO i1 i2 l1 l2 → Sim hb C φ σ' g h → g D = none → g cenv.locals = none → ∀ b ∈ [z, TI, TO, i1, i2, l1, l2], b ∉ φ ∧ b ≠ D ∧ b ≠ cenv.locals := fun o S a b c m => ZOff.fp (s := { s with heap := _ }) o S a b m
    have hz₂ : ZAt z TI TO i1 i2 l1 l2 us ws (i + 1) h₂ := WK.frame _ _ _ hz'' fun b m o e => let r := fp2 ho2 S2 offD2.2 R2.offL.2 b m; G₂.keep b o e r.1 r.2.2
    refine wpAny_mono (hfi _ _ _ _ k5 A { s with heap := h₂, toks := tk₂ } φ _ _ hA S₂ R₂) (fun ok s₃ h₃ => ?_) fun _ _ e => e
    obtain ⟨rfl, φ₃, g₃, G₃, S₃, T₃⟩ := h₃
    have Z₃ := Z₂.grow G₃ S₃
    have hz₃ : ZAt z TI TO i1 i2 l1 l2 us ws (i + 1) s₃.heap := WK.frame _ _ _ hz₂ fun b m o e => let r := fp2 ho2 S₂ offD2.2 R₂.offL.2 b m; G₃.keep b o e r.1
    have ho₃ := ho2.grow (X := fun _ => False) G₃.toX hz₂
    have GB : GrowX (fun a => X0 cenv D a ∨ ZW z TI TO i1 i2 a) φ g s.heap φ₃ g₃ s₃.heap := ((GA.wider fun a q => .inr q).trans (G₂.wider fun a q => .inl (.inl q))).trans G₃.toX
    have TB : Rest s s₃ := (Rest.mk s h₂ tk₂).trans T₃
    have hu₃ := (hu.mono mono (List.prefix_refl _)).mono G₃.mono G₃.pre
    have hw₃ := (hw.mono mono (List.prefix_refl _)).mono G₃.mono G₃.pre
    have lessen : ∀ {φ₄ g₄ h₄}, GrowX (fun a => X0 cenv D a ∨ ZW z TI TO i1 i2 a) φ g s.heap φ₄ g₄ h₄ → GrowX (X0 cenv D) φ₀ g₀ s₀.heap φ₄ g₄ h₄ := fun G4 =>
      ((G0.wider fun a q => .inl q).trans G4).less fun a q => q.elim .inl fun e => .inr (hn0 a e)
    cases ok with
    | false =>
      rw [if_neg (by decide)]
      rw [if_neg (by decide)] at k6
      cases k6
      exact ⟨rfl, ih (i + 1) _ _ _ s₃ φ₃ g₃ hr0 hlt k2 (lessen GB) (T0.trans TB) Z₃ hu₃ hw₃ hz₃ ho₃⟩
    | true =>
      rw [if_pos rfl]
      rw [if_pos rfl] at k6
      refine innerW_mono (hin _ _ _ _ _ _ k6 A s₃ φ₃ g₃ _ hA Z₃) fun s₄ h₄ => ?_
      obtain ⟨φ₄, g₄, G₄, Z₄, T₄⟩ := h₄
      have hz₄ : ZAt z TI TO i1 i2 l1 l2 us ws (i + 1) s₄.heap := WK.frame _ _ _ hz₃ fun b m o e => by
        have r := fp2 ho₃ S₃ Z₃.offD.2 Z₃.er.offL.2 b m
        exact G₄.keep b o e r.1 fun q => q.elim r.2.2 r.2.1
      exact ⟨rfl, ih (i + 1) ρ₂ acc₂ σ₂ s₄ φ₄ g₄ hr0 hlt k2 (lessen (GB.trans (G₄.wider fun a q => .inl q))) ((T0.trans TB).trans T₄) Z₄ (hu₃.mono G₄.mono G₄.pre) (hw₃.mono G₄.mono G₄.pre) hz₄ (ho₃.grow G₄ hz₃)⟩

theorem zip_core {elt : Expr} {scope : Scope} {pos pos' cp np : Pos} {t : Expr} {es' : List Expr} {ifs : List Expr} {xn own : List String} {fi : Rho → Store → Option (Bool × Store)} {mm : Rho → List V → Store → Option (Rho × List V × Store)} {d : V} {acc' : List V} {ownL : Bool} {use : Option (Value → Sem Unit)} {Q : Value → Shared → Prop} {mg mb : Str → Option Value}
    (hgn : hb.Ns mainGlobals mg) (hbl : hb.Ns builtinsNs mb) (hx : env.kindOf (Str.ofString "zip") = some .globalImplicit) (hm1 : mg (Str.ofString "zip") = none) (hm2 : mb (Str.ofString "zip") = some (.type "zip"))
    (Zs : CompScope env scope own) (ht : tgtIs t (.tup xn) = true) (hloc : ∀ y ∈ xn, scope.names.lookup (Str.ofString y) = some .local)
    (hev : EvsOK prog w hb C n env ρ σ es' [.list ds, .list es] σ₁) (hst : es'.all notStar = true)
    (hfi : ∀ L cl ρ σ b σ', fi ρ σ = some (b, σ') → IfsOK prog w hb C n (compEnvC scope cl L env) ρ σ ifs b σ') (hin : ∀ L cl D, InnerOK prog w hb C n (compEnvC scope cl L env) D (.ListComp elt [⟨t, .Call (.Name (Str.ofString "zip") np) es' [] cp, ifs, 0⟩] scope pos) elt [⟨t, .Call (.Name (Str.ofString "zip") np) es' [] cp, ifs, 0⟩] 1 mm)
    (hm : compM (fun v ρ acc σ => (setT ρ (.tup xn) v).bind fun ρ => (fi ρ σ).bind fun (b, σ) => if b then mm ρ acc σ else some (ρ, acc, σ)) (fun _ => true) (zipped ds es) (own.map (fun y => (y, none)) ++ ρ) [] σ₁ = some (ρ', acc', σ₂)) (hd : newL ownL acc' σ₂ = some (d, σ₃))
    (hA : Rm n A) (S : Sim hb C φ σ g s.heap) (R : ER hb φ g s.heap env ρ)
    (hq : ∀ (s' : Shared) φ' g' L m v f, Grow φ g s.heap φ' g' s'.heap → Sim hb C φ' σ₃ g' s'.heap → VR g' φ' v d → Rest s s' → L ∉ φ' → g' L = none → s.heap.get? L = none → s'.heap.Ns L m → compPost (model prog w) A E use Q v L (.ok f) s') :
    wpAny (model prog w) A (comprehension (.ListComp elt [⟨t, .Call (.Name (Str.ofString "zip") np) es' [] cp, ifs, 0⟩] scope pos) scope env pos' (newList []) false (firstIter [⟨t, .Call (.Name (Str.ofString "zip") np) es' [] cp, ifs, 0⟩] env) use) Q E s := by
  obtain ⟨cl, c1, c2, c3⟩ := closure_ok (env := env) (scope := scope) (fun y hy hk => R.has _ (Zs.free y hy hk))
  refine wpAny_comprehension_free (g := ⟨t, .Call (.Name (Str.ofString "zip") np) es' [] cp, ifs, 0⟩) (gs := []) rfl (fun y => folded_ok rfl) c1 Zs.kind (fun y hy hk => by rw [Zs.once y hy, hk]) ?_
  show wpAny _ A (eval (.Call (.Name (Str.ofString "zip") np) es' [] cp) env) _ _ s
  refine wpAny_Call_Name_kw (name_blt hgn hbl hx hm1 hm2 (by decide) S R ?_)
  refine callWith_mach (f := .type "zip") rfl hst (args_run hev evk_nil (show kwIs [] [] from rfl) (stars_head hst) hA S R fun x s₁ φ₁ g₁ G₁ S₁ T₁ V₁ K₁ => ?_)
  have hk0 : x.kw = [] := by have := K₁.1; simpa using this
  rw [hk0, List.nil_append]
  obtain ⟨va, vb, hxp, hva, hvb⟩ := V₁.inv2
  rw [hxp]
  obtain ⟨la, usv, rfl, hL1, hr1⟩ := lst_at S₁ hva rfl
  obtain ⟨lb, wsv, rfl, hL2, hr2⟩ := lst_at S₁ hvb rfl
  have gl1 : ∃ o, g₁ la = some o := by cases hva with | list h => exact ⟨_, h⟩
  have gl2 : ∃ o, g₁ lb = some o := by cases hvb with | list h => exact ⟨_, h⟩
  have R₁ := R.grow G₁
  refine call_zip_2 hL1 hL2 fun h₂ b1 b2 b3 b4 b5 bsz hk => ?_
  refine wpAny_pyIter_zip b1 ?_
  refine wpAny_newObj_type (wpAny_newFunctionEnv Zs.noCell (by intro y hy; simp at hy) (fun h₄ hns hsb => ?_) Zs.kind)
  dsimp only at hns hsb ⊢
  generalize hH3 : h₂.push { cls := .type "list", dict := none, data := .seq ([] : List Value).toArray } = H3 at hns hsb ⊢
  have hL : H3.objs.size = h₂.objs.size + 1 := by rw [← hH3, Heap.size_push]
  have hk3 : ∀ b o, h₂.get? b = some o → H3.get? b = some o := fun b o e => by rw [← hH3]; exact Heap.get?_push_of_some _ e
  have hk4 : ∀ b o, H3.get? b = some o → h₄.get? b = some o := fun b o e => hsb.extBut b o (Nat.ne_of_lt (Heap.lt_size e)) (Heap.get?_push_of_some _ e)
  have hk24 : ∀ b o, h₂.get? b = some o → h₄.get? b = some o := fun b o e => hk4 b o (hk3 b o e)
  have hk14 : ∀ b o, s₁.heap.get? b = some o → h₄.get? b = some o := fun b o e => hk24 b o (hk b o e)
  have none0 : ∀ a, s₁.heap.get? a = none → s.heap.get? a = none := fun a ha => by
    cases q : s.heap.get? a with
    | none => rfl
    | some o => obtain ⟨o', q'⟩ := G₁.dom a o q; rw [ha] at q'; cases q'
  have nD : s₁.heap.get? h₂.objs.size = none := Heap.get?_none_of_le (by rw [bsz]; omega)
  have nL : s₁.heap.get? H3.objs.size = none := Heap.get?_none_of_le (by rw [hL, bsz]; omega)
  have R₄ : ER hb φ₁ g₁ h₄ (compEnvC scope cl H3.objs.size env) (own.map (fun y => (y, none)) ++ ρ) :=
    comp_er Zs S₁ R₁ c2 c3 nL hk14 hns
  have S₄ : Sim hb C φ₁ σ₁ g₁ h₄ := S₁.all hk14
  have hacc : h₄.PlainList h₂.objs.size #[] := ⟨_, hk4 _ _ (by rw [← hH3]; exact Heap.get?_push_size _ rfl)⟩
  have Z₄ : CS hb C φ₁ g₁ h₄ (compEnvC scope cl H3.objs.size env) (own.map (fun y => (y, none)) ++ ρ) σ₁ h₂.objs.size [] := by
    refine ⟨S₄, R₄, ⟨[], hacc, .nil⟩, ⟨S₁.fresh_f nD, S₁.fresh_g nD⟩, ?_, fun y c hc => ?_⟩
    · show h₂.objs.size ≠ H3.objs.size
      rw [hL]; exact Nat.ne_of_lt (Nat.lt_succ_self _)
    · rintro rfl
      obtain ⟨⟨u, o, ho, _⟩, _⟩ := R₁.cells y _ (c2 _ _ hc)
      rw [nD] at ho; cases ho
  have la1 : la < s₁.heap.objs.size := by obtain ⟨o, e, _⟩ := hL1; exact Heap.lt_size e
  have lb1 : lb < s₁.heap.objs.size := by obtain ⟨o, e, _⟩ := hL2; exact Heap.lt_size e
  have ap := zipApart_new la1 lb1
  have hz4 : ZAt (s₁.heap.objs.size + 4) (s₁.heap.objs.size + 2) (s₁.heap.objs.size + 3) s₁.heap.objs.size (s₁.heap.objs.size + 1) la lb usv wsv 0 h₄ :=
    ⟨hk24 _ _ b1, hk24 _ _ b2, ⟨_, _, hk24 _ _ b3⟩, b4.at fun o e => hk24 _ o e, b5.at fun o e => hk24 _ o e, hL1.at fun o e => hk14 _ o e, hL2.at fun o e => hk14 _ o e⟩
  have hw5 : ∀ a : Nat, ZW (s₁.heap.objs.size + 4) (s₁.heap.objs.size + 2) (s₁.heap.objs.size + 3) s₁.heap.objs.size (s₁.heap.objs.size + 1) a → s₁.heap.objs.size ≤ a ∧ a < s₁.heap.objs.size + 5 := fun a h => by
    rcases h with h | h | h | h | h <;> (have h : a = (_ : Nat) := h; omega)
  have hn5 : ∀ a, ZW (s₁.heap.objs.size + 4) (s₁.heap.objs.size + 2) (s₁.heap.objs.size + 3) s₁.heap.objs.size (s₁.heap.objs.size + 1) a → s₁.heap.get? a = none := fun a h => Heap.get?_none_of_le (hw5 a h).1
  have ho4 : ZOff φ₁ g₁ (compEnvC scope cl H3.objs.size env) h₂.objs.size (s₁.heap.objs.size + 4) (s₁.heap.objs.size + 2) (s₁.heap.objs.size + 3) s₁.heap.objs.size (s₁.heap.objs.size + 1) la lb := by
    refine ⟨fun a h => ⟨S₁.fresh_f (hn5 a h), S₁.fresh_g (hn5 a h), ?_, ?_, fun y c hc => ?_⟩, gl1, gl2⟩
    · have := hw5 a h
      exact Nat.ne_of_lt (by rw [bsz]; exact this.2)
    · have := hw5 a h
      exact Nat.ne_of_lt (by rw [hL, bsz]; exact Nat.lt_succ_of_lt this.2)
    · rintro rfl
      obtain ⟨⟨u, o, ho, _⟩, _⟩ := R₁.cells y _ (c2 _ _ hc)
      rw [hn5 _ h] at ho; cases ho
  refine zstart_ok (s := { s₁ with heap := h₄, toks := s₁.toks + ([] : List (Str × Value)).length }) hz4.1 ?_
  have G4 : GrowX (X0 (compEnvC scope cl H3.objs.size env) h₂.objs.size) φ₁ g₁ s₁.heap φ₁ g₁ h₄ := (Grow.same hk14).toX
  refine codeAny_mono (zip_loop (s₀ := s₁) (φ₀ := φ₁) (g₀ := g₁) (cenv := compEnvC scope cl H3.objs.size env) (D := h₂.objs.size) ht (fun y hy => lookup_relabel_local (hloc y hy)) (fun ρ σ b σ' h => hfi _ _ ρ σ b σ' h) (hin _ _ _) hA hn5 ap (zipped ds es) 0 _ [] σ₁
    { s₁ with heap := h₄, toks := s₁.toks + ([] : List (Str × Value)).length } φ₁ g₁ rfl (Nat.zero_le _) hm G4 ⟨_, _, rfl⟩ Z₄ hr1 hr2 hz4 ho4) fun r s' z => ?_
  cases r with
  | error e => exact z.elim
  | ok f =>
    obtain ⟨φ₅, g₅, G₅, Z₅, T₅⟩ := z
    have G5' : Grow φ₁ g₁ s₁.heap φ₅ g₅ s'.heap := G₅.plain fun a q => by rcases q with rfl | rfl; exact nL; exact nD
    obtain ⟨us', hp, hr⟩ := Z₅.acc
    obtain ⟨φ₆, g₆, G₆, S₆, V₆, off⟩ := adopt_list hd Z₅.sim (G₁.trans G5') Z₅.offD.1 Z₅.offD.2 (none0 _ nD) hp hr
    obtain ⟨m5, hm5⟩ := Z₅.er.ns
    have hne : H3.objs.size ≠ h₂.objs.size := by rw [hL]; exact Ne.symm (Nat.ne_of_lt (Nat.lt_succ_self _))
    exact hq s' φ₆ g₆ H3.objs.size m5 _ f G₆ S₆ V₆ (T₁.trans T₅) ((off _ hne).1 Z₅.er.offL.1) ((off _ hne).2 Z₅.er.offL.2) (none0 _ nL) hm5
end
end Mine

namespace Mine

section
variable {prog : Program} {w : World} {A : Around} {E : Value → Shared → Prop} {s : Shared}

theorem mapSeq_plain (its : Array Value) (n : Nat) (f : Array Value → Array Value) : ∃ m, Obj.mapSeq f { cls := .type "list", data := .seq its n } = { cls := .type "list", data := .seq (f its) m } := ⟨_, rfl⟩

theorem setall_op {l sl b : Addr} {items news : Array Value} {Q : Unit → Shared → Prop} (hl : s.heap.PlainList l items) (hs : s.heap.IsSliceOf sl .none .none .none) (hv : s.heap.IsList b news) (hne : l ≠ b) (hz : items.size + news.size ≤ 4000)
    (hQ : ∀ h', h'.PlainList l news → Heap.SameBut l s.heap h' → Q () { s with heap := h' }) : wpAny (model prog w) A (setItem (.ref l) (.ref sl) (.ref b)) Q E s := by
  obtain ⟨n, ho⟩ := id hl
  obtain ⟨os, hos, hcs, hds⟩ := id hs
  obtain ⟨ob, hob, hcb, nb, hdb⟩ := id hv
  have hTs : s.TypeIs (.ref sl) "slice" := ⟨os, hos, hcs⟩
  have hlT : s.TypeIs (.ref l) "list" := hl.isList.typeIs
  unfold setItem
  try with_reducible refine wpAny_holding ?_
  first | refine wpAny_bind (wpAny_pure ?_) | skip
  refine wpAny_bind (wpAny_sequenceKey hlT (by decide) ?_)
  refine wpAny_bind (wpAny_callSpecial?_slot (name := Str.ofString "__setitem__") hlT slot_list_setitem
    (wpAny_call_entry slot_list_setitem hlT entry_list_setitem ?_ (args_list_setitem _ _ _)))
  show wpAny _ _ (Builtin.List.listSubscript? (.ref sl) >>= _) _ _ s
  refine wpAny_bind ?_
  unfold Builtin.List.listSubscript?
  refine wpAny_bind (wpAny_specialOf hTs slice_no_index ?_)
  simp only [Option.isNone_none, if_true]
  refine wpAny_pure ?_
  show wpAny _ _ (typeOf (.ref sl) >>= _) _ _ s
  refine wpAny_bind (wpAny_typeOf hTs ?_)
  rw [if_neg (by decide)]
  refine wpAny_bind ?_
  rw [listSliceParts_eq]
  refine wpAny_bind (wpAny_field hos hds (x := .none) rfl (wpAny_bind (wpAny_listPart .none ?_)))
  rw [if_neg (by decide)]
  refine wpAny_bind (wpAny_field hos hds (x := .none) rfl (wpAny_bind (wpAny_listPart .none ?_)))
  refine wpAny_bind (wpAny_field hos hds (x := .none) rfl (wpAny_bind (wpAny_listPart .none (wpAny_pure ?_))))
  dsimp only
  rw [if_neg (show ¬ Builtin.List.listSameRef (.ref l) (.ref b) = true by unfold Builtin.List.listSameRef; simpa using hne)]
  refine wpAny_bind ?_
  unfold Builtin.List.listAllItems
  refine wpAny_bind (wpAny_typeOf hv.typeIs ?_)
  rw [if_pos (by decide)]
  have items_ : ∀ {x : Addr} {ox : Obj} {its : Array Value} {k : Nat} {Q : Array Value → Shared → Prop} {A E}, s.heap.get? x = some ox → ox.data = .seq its k → Q its s → wpAny (model prog w) A (Builtin.List.listItems (.ref x)) Q E s := by
    intro x ox its k Q A E h1 h2 q
    unfold Builtin.List.listItems
    exact wpAny_bind (wpAny_seqItems h1 h2 (wpAny_pure q))
  refine items_ hob hdb (wpAny_bind (items_ ho rfl ?_))
  refine wpAny_bind (wpAny_of_eq (a := sliceBounds none none none items.size) (sliceIndices_raw none none none items.size (by simp)) ?_)
  show wpAny _ _ (if ((1 : Int) == 1) = true then _ else _) _ _ s
  rw [if_pos (by decide)]
  refine wpAny_bind (wpAny_rule ?_)
  rw [if_neg (by unfold Builtin.List.listTooLong; simp [sizeLine_eq]; omega)]
  refine wpAny_bind ?_
  show wpAny _ _ (updateSeq l _) _ _ s
  obtain ⟨m, hm⟩ := mapSeq_plain items n (fun xs => xs.extract 0 (0 : Int).toNat ++ news ++ xs.extract (max 0 ((items.size : Nat) : Int)).toNat xs.size)
  have hres : items.extract 0 (0 : Int).toNat ++ news ++ items.extract (max 0 ((items.size : Nat) : Int)).toNat items.size = news := by
    have : (max 0 ((items.size : Nat) : Int)).toNat = items.size := by omega
    rw [this]; simp
  have hz' : (items.extract 0 (0 : Int).toNat ++ news ++ items.extract (max 0 ((items.size : Nat) : Int)).toNat items.size).size ≤ sizeLine + 1 := by rw [hres, sizeLine_eq]; omega
  refine wpAny_updateSeq ho rfl (wpAny_bind (wpAny_letGo (wpAny_pure ⟨.none, rfl, wpAny_pure (hQ _ ⟨m, ?_⟩ (Heap.SameBut.update ..))⟩))) (by rw [sizeLine_eq]; omega) hz'
  rw [hres] at hm
  refine (Heap.get?_update_self _ ho ?_).trans (congrArg some hm)
  show (Obj.mapSeq (fun xs => xs.extract 0 (0 : Int).toNat ++ news ++ xs.extract (max 0 ((items.size : Nat) : Int)).toNat xs.size) _).isFreed = false
  rw [hm]; rfl
end

section
variable {prog : Program} {w : World} {hb : Heap} {C : Addr} {n : Nat} {env : Env} {ρ : Rho} {σ σ₁ σ₂ σ₃ : Store} {A : Around} {s : Shared} {φ : List Addr} {g : Part} {E : Value → Shared → Prop}

theorem setall_ok {k : Nat} {vs ws : List V} {v u : Value} {sl : Addr} {Q : Unit → Shared → Prop} (S : Sim hb C φ σ g s.heap) (hv : VR g φ v (.own k)) (hk : σ[k]? = some (.lst vs)) (hu : VR g φ u (.list ws)) (hs : s.heap.IsSliceOf sl .none .none .none) (hz : vs.length + ws.length ≤ 4000)
    (q : ∀ h', Grow φ g s.heap φ g h' → Sim hb C φ (σ.set k (.lst ws)) g h' → Q () { s with heap := h' }) : wpAny (model prog w) A (setItem v (.ref sl) u) Q E s := by
  obtain ⟨a, rfl, ha⟩ := hv.ofOwn
  obtain ⟨us, hp, hr⟩ := S.own _ _ _ ha hk
  obtain ⟨b, xs, rfl, hL, hr2⟩ := lst_at S hu rfl
  have hne : a ≠ b := by
    rintro rfl
    cases hu with
    | list ho _ _ _ => rw [S.off a (List.mem_of_getElem? ha)] at ho; cases ho
  refine setall_op hp hs hL hne (by rw [List.size_toArray, List.size_toArray, hr.length, hr2.length]; exact hz) fun h' hp' hs' => ?_
  obtain ⟨S', G'⟩ := S.turn (x := .lst ws) ha hs' ⟨xs, hp', hr2⟩
  exact q h' G' S'

theorem inst_setitem {K : Frag} {O : Orc} {FA : String → Option Addr} {fa : Addr} {k : Nat} {v i u : Value} {y z d : V} {Q : Unit → Shared → Prop} (hC : ClsOK K hb C FA) (hO : CallOK prog w hb C FA n O) (hns : noSeq K C = true) (hf : FA "Headers.__setitem__" = some fa) (hA : Rm n A) (S : Sim hb C φ σ g s.heap) (hv : VR g φ v (.own k)) (hi : isInst σ k = true) (hy : VR g φ i y) (hz : VR g φ u z)
    (e : O "Headers.__setitem__" [.own k, y, z] [] σ = some (d, σ₁)) (q : ∀ s', Step hb C φ g s σ₁ s' → Q () s') : wpAny (model prog w) A (setItem v i u) Q E s := by
  obtain ⟨x, dx, es', m', rfl, I, hn⟩ := inst_at S hv hi
  obtain ⟨m1, m2, m3⟩ := hC.meth "__setitem__" fa hf
  have X := hC.kin.keeps S.hbk
  unfold setItem sequenceKey
  refine wpAny_holding (wpAny_bind (wpAny_bind (I.type.here ?_)))
  refine wpAny_bind ((anyM_none X hns).here ?_)
  rw [if_pos (show (!false) = true from rfl)]
  refine wpAny_pure (wpAny_bind (special_fn X I m1 m2 (wpAny_mono (hO.run hf e hA.rc S (.cons hv (.cons hy (.cons hz .nil))) KRs.nil) (fun r s' p => wpAny_pure ?_) fun _ _ z => z)))
  obtain ⟨φ', g', G', S', V', T'⟩ := p
  exact q s' ⟨φ', g', G', S', T'⟩
theorem inst_delitem {K : Frag} {O : Orc} {FA : String → Option Addr} {fa : Addr} {k : Nat} {v i : Value} {y d : V} {Q : Unit → Shared → Prop} (hC : ClsOK K hb C FA) (hO : CallOK prog w hb C FA n O) (hns : noSeq K C = true) (hf : FA "Headers.__delitem__" = some fa) (hA : Rm n A) (S : Sim hb C φ σ g s.heap) (hv : VR g φ v (.own k)) (hi : isInst σ k = true) (hy : VR g φ i y)
    (e : O "Headers.__delitem__" [.own k, y] [] σ = some (d, σ₁)) (q : ∀ s', Step hb C φ g s σ₁ s' → Q () s') : wpAny (model prog w) A (delItem v i) Q E s := by
  obtain ⟨x, dx, es', m', rfl, I, hn⟩ := inst_at S hv hi
  obtain ⟨m1, m2, m3⟩ := hC.meth "__delitem__" fa hf
  have X := hC.kin.keeps S.hbk
  unfold delItem sequenceKey
  refine wpAny_holding (wpAny_bind (wpAny_bind (I.type.here ?_)))
  refine wpAny_bind ((anyM_none X hns).here ?_)
  rw [if_pos (show (!false) = true from rfl)]
  refine wpAny_pure (wpAny_bind (special_fn X I m1 m2 (wpAny_mono (hO.run hf e hA.rc S (.cons hv (.cons hy .nil)) KRs.nil) (fun r s' p => wpAny_pure ?_) fun _ _ z => z)))
  obtain ⟨φ', g', G', S', V', T'⟩ := p
  exact q s' ⟨φ', g', G', S', T'⟩

theorem setattr_ok {K : Frag} {FA : String → Option Addr} {k dk : Nat} {v u : Value} {d : V} {Q : Unit → Shared → Prop} (hC : ClsOK K hb C FA) (S : Sim hb C φ σ g s.heap) (hv : VR g φ v (.own k)) (h1 : σ[k]? = some (.inst dk)) (h2 : σ[dk]? = some (.attrs none)) (hu : VR g φ u d)
    (q : ∀ h' tk, Grow φ g s.heap φ g h' → Sim hb C φ (σ.set dk (.attrs (some d))) g h' → Q () { s with heap := h', toks := tk }) : wpAny (model prog w) A (setAttr v "_headers" u) Q E s := by
  obtain ⟨a, rfl, ha⟩ := hv.ofOwn
  obtain ⟨dx, h3, h4⟩ := S.own _ _ _ ha h1
  have h5 : s.heap.get? dx = some (dictOf [] 0) := S.own _ _ _ h3 h2
  have X := hC.kin.keeps S.hbk
  have I : InstAt s.heap a (instObj C dx) C (some (dictOf [] 0)) := ⟨h4, rfl, rfl, h5⟩
  have ht : takerIn K C "_headers" = some none := by unfold takerIn; rw [hC.hdr]; rfl
  refine set_plain X I hC.sattr (osa_open (s := { s with toks := s.toks + 1 }) X I hC.over ht fun b => ?_)
  obtain ⟨cd, hc, hd'⟩ := any_some hC.hasD
  dsimp only
  refine wpAny_bind (wpAny_pure (wpAny_bind (wpAny_bind (wpAny_loadPart h4 (wpAny_bind (Looks.here (s := { s with toks := s.toks + 1 }) (looks_clsIn X hc) ?_))))))
  rw [hd']
  refine wpAny_pure (a := some dx) (wpAny_bind (wpAny_pure (wpAny_bind ?_)))
  unfold nsSet
  refine wpAny_bind (wpAny_bind (wpAny_askSetting (wpAny_pure (wpAny_bind (wpAny_mkText (wpAny_bind (wpAny_loadPart h5 ?_)))))))
  dsimp only
  rw [aRefKeyMayBeTheName_at]
  have hput := putName_dict ("_headers" : Str) (PyData.keyHash w.params "_headers") (.str "_headers" (s.toks + 1)) u [] 0
  have hget : (s.heap.update dx (Obj.putName ("_headers" : Str) (PyData.keyHash w.params "_headers") (.str "_headers" (s.toks + 1)) u)).get? dx = some (dictOf [⟨PyData.keyHash w.params "_headers", .str "_headers" (s.toks + 1), u⟩] (putN "_headers" [] 0)) := by
    rw [Heap.get?_update_self _ h5 (by rw [hput]; rfl), hput]; rfl
  rw [if_neg (by simp)]
  refine wpAny_updatePart (s := { s with toks := s.toks + 1 + 1 }) h5 ?_
  refine wpAny_bind (wpAny_lookBehind hget (by exact pastItsLine_dict (by simp [sizeLine_eq])) ?_)
  obtain ⟨S', G'⟩ := S.turn (x := .attrs (some d)) h3 (Heap.SameBut.update s.heap dx (Obj.putName ("_headers" : Str) (PyData.keyHash w.params "_headers") (.str "_headers" (s.toks + 1)) u)) ⟨_, _, _, _, hget, hu⟩
  exact wpAny_pure (q _ _ G' S')
end
end Mine

namespace Mine

noncomputable def XF (env : Env) (a : Addr) : Prop := a = env.locals ∨ ∃ n, env.cells.lookup n = some a
noncomputable def FlR (g : Part) (φ : List Addr) : Flow → Fl → Prop
  | .next, .next => True
  | .ret v, .ret d => VR g φ v d
  | _, _ => False
noncomputable def ExPost (hb : Heap) (C : Addr) (env : Env) (φ : List Addr) (g : Part) (s : Shared) (fl : Fl) (ρ' : Rho) (σ' : Store) (f : Flow) (s' : Shared) : Prop :=
  ∃ φ' g', GrowX (XF env) φ g s.heap φ' g' s'.heap ∧ Sim hb C φ' σ' g' s'.heap ∧ ER hb φ' g' s'.heap env ρ' ∧ Rest s s' ∧ FlR g' φ' f fl

section
variable {prog : Program} {w : World} {hb : Heap} {C : Addr} {n : Nat} {env : Env} {ρ ρ' ρ₁ ρ₂ : Rho} {σ σ₁ σ₂ σ₃ : Store} {A : Around} {s : Shared} {φ : List Addr} {g : Part} {E : Value → Shared → Prop}

noncomputable def ExOK (prog : Program) (w : World) (hb : Heap) (C : Addr) (n : Nat) (env : Env) (ρ : Rho) (σ : Store) (st : Stmt) (fl : Fl) (ρ' : Rho) (σ' : Store) : Prop :=
  ∀ A s φ g E, Rm n A → Sim hb C φ σ g s.heap → ER hb φ g s.heap env ρ → wpAny (model prog w) A (exec st env) (ExPost hb C env φ g s fl ρ' σ') E s
noncomputable def ExsOK (prog : Program) (w : World) (hb : Heap) (C : Addr) (n : Nat) (env : Env) (ρ : Rho) (σ : Store) (st : List Stmt) (fl : Fl) (ρ' : Rho) (σ' : Store) : Prop :=
  ∀ A s φ g E, Rm n A → Sim hb C φ σ g s.heap → ER hb φ g s.heap env ρ → wpAny (model prog w) A (execs st env) (ExPost hb C env φ g s fl ρ' σ') E s

theorem ExPost.trans {φ₁ : List Addr} {g₁ : Part} {s₁ s' : Shared} {fl : Fl} {σ' : Store} {f : Flow} (G : GrowX (XF env) φ g s.heap φ₁ g₁ s₁.heap) (T : Rest s s₁) (p : ExPost hb C env φ₁ g₁ s₁ fl ρ' σ' f s') : ExPost hb C env φ g s fl ρ' σ' f s' :=
  let ⟨φ', g', a, b, c, d, e⟩ := p; ⟨φ', g', G.trans a, b, c, T.trans d, e⟩
theorem ExPost.here {h' : Heap} {tk : Nat} (G : GrowX (XF env) φ g s.heap φ g h') (S : Sim hb C φ σ g h') (R : ER hb φ g h' env ρ) : ExPost hb C env φ g s .next ρ σ .next { s with heap := h', toks := tk } := ⟨φ, g, G, S, R, ⟨_, _, rfl⟩, trivial⟩

theorem exs_nil : ExsOK prog w hb C n env ρ σ [] .next ρ σ := fun A s φ g E hA S R => wpAny_execs_nil ⟨φ, g, GrowX.refl, S, R, Rest.refl s, trivial⟩
theorem exs_next {st : Stmt} {r : List Stmt} {fl : Fl} (a : ExOK prog w hb C n env ρ σ st .next ρ₁ σ₁) (b : ExsOK prog w hb C n env ρ₁ σ₁ r fl ρ₂ σ₂) : ExsOK prog w hb C n env ρ σ (st :: r) fl ρ₂ σ₂ := by
  intro A s φ g E hA S R
  refine wpAny_execs_cons (wpAny_mono (a A s φ g E hA S R) (fun f s₁ h₁ => ?_) fun _ _ e => e)
  obtain ⟨φ₁, g₁, G₁, S₁, R₁, T₁, F₁⟩ := h₁
  cases f <;> first | exact F₁.elim | skip
  exact wpAny_mono (b A s₁ φ₁ g₁ E hA S₁ R₁) (fun f s' p => p.trans G₁ T₁) fun _ _ e => e
theorem exs_ret {st : Stmt} {r : List Stmt} {v : V} (a : ExOK prog w hb C n env ρ σ st (.ret v) ρ₁ σ₁) : ExsOK prog w hb C n env ρ σ (st :: r) (.ret v) ρ₁ σ₁ := by
  intro A s φ g E hA S R
  refine wpAny_execs_cons (wpAny_mono (a A s φ g E hA S R) (fun f s₁ h₁ => ?_) fun _ _ e => e)
  obtain ⟨φ₁, g₁, G₁, S₁, R₁, T₁, F₁⟩ := h₁
  cases f <;> first | exact F₁.elim | skip
  exact ⟨φ₁, g₁, G₁, S₁, R₁, T₁, F₁⟩

theorem ret_ok {e : Expr} {pos : Pos} {d : V} (a : EvOK prog w hb C n env ρ σ e d σ₁) : ExOK prog w hb C n env ρ σ (.Return (some e) pos) (.ret d) ρ σ₁ := by
  intro A s φ g E hA S R
  refine wpAny_Return_some (wpAny_mono (a A s φ g E hA S R) (fun v s₁ h₁ => ?_) fun _ _ e => e)
  obtain ⟨φ₁, g₁, G₁, S₁, V₁, T₁⟩ := h₁
  exact ⟨φ₁, g₁, G₁.toX, S₁, R.grow G₁, T₁, V₁⟩
theorem ret0_ok {pos : Pos} : ExOK prog w hb C n env ρ σ (.Return none pos) (.ret .none) ρ σ :=
  fun A s φ g E hA S R => wpAny_Return_none ⟨φ, g, GrowX.refl, S, R, Rest.refl s, .none⟩

noncomputable def notComp (e : Expr) : Bool := decide (e.ctorIdx ≠ 8) && decide (e.ctorIdx ≠ 9) && decide (e.ctorIdx ≠ 10)
theorem swaps_no {e : Expr} {t : Option Expr} {l : Nat} (h : notComp e = true) : swapsWith e t l env = pure false := by
  cases e <;> first | rfl | cases (show false = true from h)
theorem not_interactive (R : ER hb φ g s.heap env ρ) : interactive env = false := by unfold interactive; rw [R.kind]; rfl
theorem expr_ok {e : Expr} {pos : Pos} {d : V} (hc : notComp e = true) (a : EvOK prog w hb C n env ρ σ e d σ₁) : ExOK prog w hb C n env ρ σ (.Expr e pos) .next ρ σ₁ := by
  intro A s φ g E hA S R
  refine wpAny_Expr_any (wpAny_mono (a A s φ g E hA S R) (fun v s₁ h₁ => ?_) fun _ _ e => e) (not_interactive R) (swaps_no hc)
  obtain ⟨φ₁, g₁, G₁, S₁, V₁, T₁⟩ := h₁
  exact ⟨φ₁, g₁, G₁.toX, S₁, R.grow G₁, T₁, trivial⟩
theorem if_ok {c : Expr} {a b : List Stmt} {pos : Pos} {t : Bool} {fl : Fl} (hc : TestOK prog w hb C n env ρ σ c t σ₁) (h : ExsOK prog w hb C n env ρ σ₁ (if t then a else b) fl ρ' σ₂) : ExOK prog w hb C n env ρ σ (.If c a b pos) fl ρ' σ₂ := by
  intro A s φ g E hA S R
  refine wpAny_If (wpAny_mono (hc A s φ g E hA S R) (fun b' s₁ h₁ => ?_) fun _ _ e => e)
  obtain ⟨rfl, φ₁, g₁, G₁, S₁, T₁⟩ := h₁
  have := wpAny_mono (h A s₁ φ₁ g₁ E hA S₁ (R.grow G₁)) (fun f s' p => p.trans G₁.toX T₁) fun _ _ e => e
  cases b' <;> exact this

theorem xf_bears (xs : List String) : Bears (XF env) env xs := ⟨.inl rfl, fun x _ _ c hc => .inr ⟨_, hc⟩⟩
noncomputable def notPair (t e : Expr) : Bool := !((decide (t.ctorIdx = 25) || decide (t.ctorIdx = 24)) && decide (e.ctorIdx = 25))
theorem stores_no {t e : Expr} (h : notPair t e = true) : swappedStores [t] e env = pure none := by
  unfold swappedStores
  cases t <;> first | rfl | (cases e <;> first | rfl | cases (show false = true from h))
theorem each_one {t : Expr} {m : MT} (h : tgtIs t m = true) : (assignEach [t] env).map (·.2) = [assign t env] := by
  cases m with
  | one x => obtain ⟨p, rfl⟩ := nmIs_inv (show nmIs t x = true from h); rfl
  | tup xs => obtain ⟨es, k, p, rfl, _⟩ := onTuple_inv (f := fun es _ _ => nmsAre es xs) h; rfl

theorem assign_plain {t e : Expr} {m : MT} {pos : Pos} {d : V} (ht : tgtIs t m = true) (hsw : swapsWith e (some t) pos.line env = pure false) (hp : notPair t e = true) (hst : storable env m.names) (a : EvOK prog w hb C n env ρ σ e d σ₁) (hr : setT ρ m d = some ρ') : ExOK prog w hb C n env ρ σ (.Assign [t] e pos) .next ρ' σ₁ := by
  intro A s φ g E hA S R
  refine wpAny_Assign_stores (wpAny_mono (a A s φ g E hA S R) (fun v s₁ h₁ => ?_) fun _ _ e => e) hsw (stores_no hp)
  obtain ⟨φ₁, g₁, G₁, S₁, V₁, T₁⟩ := h₁
  rw [each_one ht]
  exact assign_ok ht hr hst (xf_bears _) hA.handled S₁ (R.grow G₁) V₁ fun h' tk G' S' R' => ExPost.trans G₁.toX T₁ (ExPost.here G' S' R')

noncomputable def UseOK (prog : Program) (w : World) (hb : Heap) (C : Addr) (n : Nat) (env : Env) (ρ : Rho) (σ : Store) (e : Expr) (d : V) (σ' : Store) : Prop :=
  ∀ (u : Value → Sem Unit) A s φ g E (Q : Unit → Shared → Prop), Rm n A → Sim hb C φ σ g s.heap → ER hb φ g s.heap env ρ →
    (∀ (s' : Shared) φ' g' L m v, Grow φ g s.heap φ' g' s'.heap → Sim hb C φ' σ' g' s'.heap → VR g' φ' v d → Rest s s' → L ∉ φ' → g' L = none → s.heap.get? L = none → s'.heap.Ns L m →
      wpAny (model prog w) A (u v) (fun _ s'' => ∃ m, s''.heap.Ns L m ∧ ∀ h', Heap.SameBut L s''.heap h' → Q () { s'' with heap := h' }) E s') → wpAny (model prog w) A (evalThenUse e env u) Q E s

theorem assign_used {t e : Expr} {x : String} {pos : Pos} {d : V} (ht : tgtIs t (.one x) = true) (hsw : swapsWith e (some t) pos.line env = pure true) (hst : storable env [x]) (a : UseOK prog w hb C n env ρ σ e d σ₁) (hr : setv ρ x d = some ρ') : ExOK prog w hb C n env ρ σ (.Assign [t] e pos) .next ρ' σ₁ := by
  intro A s φ g E hA S R
  rw [arm_exec_Assign, each_one ht]
  refine wpAny_bind (wpAny_standAt (wpAny_bind (wpAny_of_eq (a := true) hsw ?_)))
  rw [if_pos rfl]
  refine wpAny_bind (a _ A s φ g E _ hA S R fun s' φ' g' L m v G' S' V' T' l1 l2 l3 hm => ?_)
  have R' := R.grow G'
  obtain ⟨oL, hoL⟩ := Nsm.has hm
  have nL : ¬ XF env L := by
    rintro (rfl | ⟨y, hy⟩)
    · obtain ⟨m', hm'⟩ := R.ns
      obtain ⟨o, ho⟩ := Nsm.has hm'
      rw [l3] at ho; cases ho
    · obtain ⟨⟨u, o, ho, _⟩, _⟩ := R.cells y L hy
      rw [l3] at ho; cases ho
  refine assign_ok (X := XF env) ht (show setT ρ (.one x) d = some ρ' from hr) hst (xf_bears _) hA.handled S' R' V' fun h₂ tk G₂ S₂ R₂ => ?_
  refine ⟨m, Nsm.at hm fun o e => G₂.keep _ o e l1 nL, fun h₃ hs₃ => wpAny_pure ?_⟩
  have neL : L ≠ env.locals := fun q => nL (.inl q)
  have neC : ∀ y c, env.cells.lookup y = some c → L ≠ c := fun y c hc q => nL (.inr ⟨y, q ▸ hc⟩)
  exact ⟨φ', g', (G'.toX.trans G₂).end_ l3 hs₃.extBut, Sim.but (s := { s' with heap := h₂ }) S₂ l1 l2 hs₃.extBut, R₂.but hs₃.extBut neL neC, T'.trans ⟨_, tk, rfl⟩, trivial⟩

theorem assign_comp {t e : Expr} {x : String} {pos : Pos} {d : V} (ht : tgtIs t (.one x) = true) (hp : notPair t e = true) (hst : storable env [x]) (a : EvOK prog w hb C n env ρ σ e d σ₁) (b : UseOK prog w hb C n env ρ σ e d σ₁) (hb' : ∃ v, swapsWith e (some t) pos.line env = pure v) (hr : setv ρ x d = some ρ') : ExOK prog w hb C n env ρ σ (.Assign [t] e pos) .next ρ' σ₁ := by
  obtain ⟨v, hv⟩ := hb'
  cases v with
  | false => exact assign_plain ht hv hp hst a hr
  | true => exact assign_used ht hv hst b hr
end
end Mine

namespace Mine

section
variable {prog : Program} {w : World} {hb : Heap} {C : Addr} {n : Nat} {env : Env} {ρ ρ' ρ₁ ρ₂ : Rho} {σ σ₁ σ₂ σ₃ σ₄ : Store} {A : Around} {s : Shared} {φ : List Addr} {g : Part} {E : Value → Shared → Prop}

theorem swaps_sub {e o i : Expr} {p : Pos} {l : Nat} : swapsWith e (some (.Subscript o i p)) l env = pure false := by cases e <;> rfl
theorem swaps_attr {e o : Expr} {a : Str} {p : Pos} {l : Nat} : swapsWith e (some (.Attribute o a p)) l env = pure false := by cases e <;> rfl

theorem ExPost.ofStep {s' : Shared} (R : ER hb φ g s.heap env ρ) (p : Step hb C φ g s σ s') : ExPost hb C env φ g s .next ρ σ .next s' :=
  let ⟨φ', g', G, S, T⟩ := p; ⟨φ', g', G.toX, S, R.grow G, T, trivial⟩

theorem three_ok {e o i : Expr} {z x y : V} {Q : Value → Value → Value → Shared → Prop} (a : EvOK prog w hb C n env ρ σ e z σ₁) (b : EvOK prog w hb C n env ρ σ₁ o x σ₂) (c : EvOK prog w hb C n env ρ σ₂ i y σ₃) (hA : Rm n A) (S : Sim hb C φ σ g s.heap) (R : ER hb φ g s.heap env ρ)
    (k : ∀ v u t s' φ' g', Grow φ g s.heap φ' g' s'.heap → Sim hb C φ' σ₃ g' s'.heap → ER hb φ' g' s'.heap env ρ → Rest s s' → VR g' φ' v z → VR g' φ' u x → VR g' φ' t y → Q v u t s') :
    wpAny (model prog w) A (eval e env) (fun v s₁ => wpAny (model prog w) A (eval o env) (fun u s₂ => wpAny (model prog w) A (eval i env) (fun t s₃ => Q v u t s₃) E s₂) E s₁) E s := by
  refine two_ok a b hA S R fun v u s₂ φ₂ g₂ G₂ S₂ R₂ T₂ V₂ U₂ => ?_
  refine wpAny_mono (c A s₂ φ₂ g₂ E hA S₂ R₂) (fun t s₃ h₃ => ?_) fun _ _ e => e
  obtain ⟨φ₃, g₃, G₃, S₃, V₃, T₃⟩ := h₃
  exact k v u t s₃ φ₃ g₃ (G₂.trans G₃) S₃ (R₂.grow G₃) (T₂.trans T₃) (V₂.mono G₃.mono G₃.pre) (U₂.mono G₃.mono G₃.pre) V₃

theorem set_inst_ok {K : Frag} {O : Orc} {FA : String → Option Addr} {fa : Addr} {e o i : Expr} {p pos : Pos} {k : Nat} {y z d : V} (hC : ClsOK K hb C FA) (hO : CallOK prog w hb C FA n O) (hns : noSeq K C = true) (hf : FA "Headers.__setitem__" = some fa)
    (a : EvOK prog w hb C n env ρ σ e z σ₁) (b : EvOK prog w hb C n env ρ σ₁ o (.own k) σ₂) (c : EvOK prog w hb C n env ρ σ₂ i y σ₃) (hi : isInst σ₃ k = true) (eo : O "Headers.__setitem__" [.own k, y, z] [] σ₃ = some (d, σ₄)) :
    ExOK prog w hb C n env ρ σ (.Assign [.Subscript o i p] e pos) .next ρ σ₄ := by
  intro A s φ g E hA S R
  refine wpAny_Assign_Subscript (three_ok a b c hA S R fun v u t s' φ' g' G' S' R' T' V' U' W' => ?_) swaps_sub
  exact inst_setitem hC hO hns hf hA S' U' hi W' V' eo fun s'' p => ExPost.trans G'.toX T' (ExPost.ofStep R' p)
theorem set_all_ok {e o : Expr} {q p pos : Pos} {k : Nat} {vs ws : List V}
    (a : EvOK prog w hb C n env ρ σ e (.list ws) σ₁) (b : EvOK prog w hb C n env ρ σ₁ o (.own k) σ₂) (hk : σ₂[k]? = some (.lst vs)) (hz : vs.length + ws.length ≤ 4000) :
    ExOK prog w hb C n env ρ σ (.Assign [.Subscript o (.Slice none none none q) p] e pos) .next ρ (σ₂.set k (.lst ws)) := by
  intro A s φ g E hA S R
  refine wpAny_Assign_Subscript (two_ok a b hA S R fun v u s' φ' g' G' S' R' T' V' U' => ?_) swaps_sub
  show wpAny _ A (do
    let l ← valueOrNone none
    let u ← holding [l] (valueOrNone none)
    let s ← holding [l, u] (valueOrNone none)
    newFields "slice" [l, u, s]) _ _ s'
  refine wpAny_bind (wpAny_pure (wpAny_bind (wpAny_holding (wpAny_pure (wpAny_bind (wpAny_holding (wpAny_pure ?_)))))))
  refine wpAny_newObj_type ?_ (by size_fits)
  have hk' : ∀ b o, s'.heap.get? b = some o → (s'.heap.push { cls := .type "slice", data := .fields #[.none, .none, .none] }).get? b = some o := fun b o e => Heap.get?_push_of_some _ e
  have G₂ : Grow φ' g' s'.heap φ' g' (s'.heap.push { cls := .type "slice", data := .fields #[.none, .none, .none] }) := Grow.same hk'
  refine setall_ok (s := { s' with heap := s'.heap.push { cls := .type "slice", data := .fields #[.none, .none, .none] } }) (S'.all hk') U' hk V' (Heap.IsSliceOf.new _ _ _ _) hz fun h' G₃ S₃ => ?_
  exact ExPost.trans G'.toX T' (ExPost.ofStep R' ⟨φ', g', G₂.trans G₃, S₃, ⟨_, s'.toks, rfl⟩⟩)
theorem set_attr_ok {K : Frag} {FA : String → Option Addr} {e o : Expr} {p pos : Pos} {k dk : Nat} {z : V} (hC : ClsOK K hb C FA)
    (a : EvOK prog w hb C n env ρ σ e z σ₁) (b : EvOK prog w hb C n env ρ σ₁ o (.own k) σ₂) (h1 : σ₂[k]? = some (.inst dk)) (h2 : σ₂[dk]? = some (.attrs none)) :
    ExOK prog w hb C n env ρ σ (.Assign [.Attribute o "_headers" p] e pos) .next ρ (σ₂.set dk (.attrs (some z))) := by
  intro A s φ g E hA S R
  refine wpAny_Assign_stores (wpAny_mono (two_ok (Q := fun v u s' => ∃ φ' g', Grow φ g s.heap φ' g' s'.heap ∧ Sim hb C φ' σ₂ g' s'.heap ∧ ER hb φ' g' s'.heap env ρ ∧ Rest s s' ∧ VR g' φ' v z ∧ VR g' φ' u (.own k)) a b hA S R fun v u s' φ' g' G' S' R' T' V' U' => ⟨φ', g', G', S', R', T', V', U'⟩) (fun v s₁ h₁ => ?_) fun _ _ e => e) (show swapsWithSole [.Attribute o "_headers" p] e pos.line env = pure false from swaps_attr (env := env) (e := e) (o := o) (a := "_headers") (p := p) (l := pos.line)) (stores_no (by cases e <;> rfl))
  show wpAny _ A (holding [v] (eval o env) >>= fun ov => standAt p.atName >>= fun _ => holding [v, ov] (setAttr ov "_headers" v) >>= fun _ => release [v, ov] []) _ _ s₁
  refine wpAny_bind (wpAny_holding (wpAny_mono h₁ (fun u s₂ h₂ => ?_) fun _ _ e => e))
  obtain ⟨φ₂, g₂, G₂, S₂, R₂, T₂, V₂, U₂⟩ := h₂
  refine wpAny_bind (wpAny_standAt (wpAny_bind (wpAny_holding (setattr_ok hC S₂ U₂ h1 h2 V₂ fun h' tk G₃ S₃ => wpAny_release ?_))))
  exact ExPost.trans G₂.toX T₂ (ExPost.ofStep R₂ ⟨φ₂, g₂, G₃, S₃, ⟨_, tk, rfl⟩⟩)
theorem del_ok {K : Frag} {O : Orc} {FA : String → Option Addr} {fa : Addr} {o i : Expr} {p pos : Pos} {k : Nat} {y d : V} (hC : ClsOK K hb C FA) (hO : CallOK prog w hb C FA n O) (hns : noSeq K C = true) (hf : FA "Headers.__delitem__" = some fa)
    (b : EvOK prog w hb C n env ρ σ o (.own k) σ₁) (c : EvOK prog w hb C n env ρ σ₁ i y σ₂) (hi : isInst σ₂ k = true) (eo : O "Headers.__delitem__" [.own k, y] [] σ₂ = some (d, σ₃)) :
    ExOK prog w hb C n env ρ σ (.Delete [.Subscript o i p] pos) .next ρ σ₃ := by
  intro A s φ g E hA S R
  rw [arm_exec_Delete]
  refine wpAny_bind (wpAny_standAt (wpAny_bind ?_))
  show wpAny _ A ((do
    let ov ← eval o env
    let iv ← holding [ov] (eval i env)
    standAt p
    holding [ov, iv] (delItem ov iv)
    release [ov, iv] []) >>= fun _ => pure ()) _ _ s
  refine wpAny_bind (wpAny_bind (wpAny_mono (two_ok (Q := fun v u s' => ∃ φ' g', Grow φ g s.heap φ' g' s'.heap ∧ Sim hb C φ' σ₂ g' s'.heap ∧ ER hb φ' g' s'.heap env ρ ∧ Rest s s' ∧ VR g' φ' v (.own k) ∧ VR g' φ' u y) b c hA S R fun v u s' φ' g' G' S' R' T' V' U' => ⟨φ', g', G', S', R', T', V', U'⟩) (fun v s₁ h₁ => ?_) fun _ _ e => e))
  refine wpAny_bind (wpAny_holding (wpAny_mono h₁ (fun u s₂ h₂ => ?_) fun _ _ e => e))
  obtain ⟨φ₂, g₂, G₂, S₂, R₂, T₂, V₂, U₂⟩ := h₂
  refine wpAny_bind (wpAny_standAt (wpAny_bind (wpAny_holding (inst_delitem hC hO hns hf hA S₂ V₂ hi U₂ eo fun s'' p => wpAny_release (wpAny_pure (wpAny_pure ?_))))))
  exact ExPost.trans G₂.toX T₂ (ExPost.ofStep R₂ p)

theorem for_loop {t : Expr} {body : List Stmt} {mt : MT} {x : V} {v : Value} {vs : List V} {it : Addr} {bd : Rho → Store → Option (Fl × Rho × Store)} {σ₀ : Store} {s₀ : Shared} {φ₀ : List Addr} {g₀ : Part} {fl : Fl} {σ' : Store}
    (ht : tgtIs t mt = true) (hst : storable env mt.names) (hvs : iterOf σ₀ x = some vs) (hbd : ∀ ρ σ fl ρ' σ', bd ρ σ = some (fl, ρ', σ') → ExsOK prog w hb C n env ρ σ body fl ρ' σ') (hA : Rm n A) (hn0 : s₀.heap.get? it = none) :
    ∀ (rest : List V) (i : Nat) (ρ : Rho) (σ : Store) (s : Shared) (φ : List Addr) (g : Part), rest = vs.drop i → i ≤ vs.length →
      loopM (fun v ρ σ => (setT ρ mt v).bind fun ρ => bd ρ σ) (still x vs) rest ρ σ = some (fl, ρ', σ') →
      GrowX (XF env) φ₀ g₀ s₀.heap φ g s.heap → Rest s₀ s → Sim hb C φ σ g s.heap → ER hb φ g s.heap env ρ → VR g φ v x → ItAt φ s.heap it v i x → it ∉ φ → g it = none → it ≠ env.locals → (∀ n c, env.cells.lookup n = some c → it ≠ c) →
      codeAny (model prog w) A (.forLoop t (.ref it) body [] env) (fun r s' => match r with | .ok f => ExPost hb C env φ₀ g₀ s₀ fl ρ' σ' f s' | .error _ => False) s := by
  intro rest
  induction rest with
  | nil =>
    intro i ρ σ s φ g hr hi h G0 T0 S R hv hit h1 h2 h4 h5
    unfold loopM at h
    split at h
    · rename_i hs
      cases h
      refine codeAny_of_tree ?_
      show wpAny _ _ ((forTurn t (.ref it) body [] env).onRaise (fun x => do noteFrame x env; theTreesLotGoes x)) _ _ s
      refine wpAny_noted ?_
      simp only [forTurn]
      refine wpAny_bind (wpAny_standAt (wpAny_bind (wpAny_onRaise ?_)))
      refine next_op hA.handled (still_iter hvs hs) S hv hit h1 h2 hi (fun d u h' tk hd => ?_) fun h' hd he => ?_
      · have : vs.length ≤ i := by
          have := congrArg List.length hr
          rw [List.length_drop, List.length_nil] at this; omega
        rw [List.getElem?_eq_none_iff.mpr this] at hd; cases hd
      · refine wpAny_pure ⟨rfl, codeAny_block (wpAny_execs_nil ?_)⟩
        exact ⟨φ, g, G0.end_ hn0 he, S.but h1 h2 he, R.but he h4 h5, T0.trans ⟨_, s.toks, rfl⟩, trivial⟩
    · cases h
  | cons d rest ih =>
    intro i ρ σ s φ g hr hi h G0 T0 S R hv hit h1 h2 h4 h5
    have hlt : i < vs.length := by
      have := congrArg List.length hr
      rw [List.length_drop, List.length_cons] at this; omega
    rw [List.drop_eq_getElem_cons hlt] at hr
    obtain ⟨hd0, hr0⟩ := List.cons.inj hr
    have hdi : vs[i]? = some d := by rw [List.getElem?_eq_getElem hlt, ← hd0]
    unfold loopM at h
    split at h
    · rename_i hs
      obtain ⟨⟨fl₁, ρ₂, σ₂⟩, k1, k2⟩ := Option.bind_eq_some_iff.mp h
      obtain ⟨ρ₁, k3, k4⟩ := Option.bind_eq_some_iff.mp k1
      have hvs' := still_iter hvs hs
      dsimp only at k2
      refine codeAny_of_tree ?_
      show wpAny _ _ ((forTurn t (.ref it) body [] env).onRaise (fun x => do noteFrame x env; theTreesLotGoes x)) _ _ s
      refine wpAny_noted ?_
      simp only [forTurn]
      refine wpAny_bind (wpAny_standAt (wpAny_bind (wpAny_onRaise ?_)))
      refine next_op hA.handled hvs' S hv hit h1 h2 hi (fun d' u h' tk hd' hu he hit' => ?_) fun h' hd' => by rw [hdi] at hd'; cases hd'
      rw [hdi] at hd'; cases hd'
      refine wpAny_bind (go_ok (s := { s with heap := h', toks := tk }) hit' ?_ (iter_items hvs' hdi))
      have S₁ : Sim hb C φ σ g h' := S.but h1 h2 he
      have R₁ := R.but he h4 h5
      obtain ⟨oi, hoi⟩ := hit'.obj
      have GA : GrowX (fun a => XF env a ∨ a = it) φ g s.heap φ g h' := GrowX.but (.inr rfl) hoi he
      have nX : ¬ XF env it := by
        rintro (q | ⟨y, q⟩)
        · exact h4 q
        · exact h5 y _ q rfl
      refine wpAny_bind (assign_ok (s := { s with heap := h', toks := tk }) (X := XF env) ht k3 hst (xf_bears _) hA.handled S₁ R₁ hu fun h₂ tk₂ G₂ S₂ R₂ => ?_)
      have hit₂ : ItAt φ h₂ it v (i + 1) x := hit'.keep (List.prefix_refl _) fun o e => G₂.keep _ o e h1 nX
      refine wpAny_bind (wpAny_mono (hbd _ _ _ _ _ k4 A { s with heap := h₂, toks := tk₂ } φ g _ hA S₂ R₂) (fun f s₃ h₃ => ?_) fun _ _ e => e)
      obtain ⟨φ₃, g₃, G₃, S₃, R₃, T₃, F₃⟩ := h₃
      have GB : GrowX (fun a => XF env a ∨ a = it) φ g s.heap φ₃ g₃ s₃.heap := (GA.trans (G₂.wider fun a q => .inl q)).trans (G₃.wider fun a q => .inl q)
      have TB : Rest s s₃ := (Rest.mk s h₂ tk₂).trans T₃
      have GC : GrowX (XF env) φ₀ g₀ s₀.heap φ₃ g₃ s₃.heap := ((G0.wider fun a q => .inl q).trans GB).less fun a q => q.elim .inl fun e => .inr (by rw [e]; exact hn0)
      obtain ⟨o₂, ho₂⟩ := hit₂.obj
      obtain ⟨h1', h2'⟩ := G₃.off ho₂ h1 h2
      cases fl₁ with
      | next =>
        cases f <;> first | exact F₃.elim | skip
        exact wpAny_pure ⟨rfl, ih (i + 1) ρ₂ σ₂ s₃ φ₃ g₃ hr0 hlt k2 GC (T0.trans TB) S₃ R₃ (hv.mono G₃.mono G₃.pre) (hit₂.keep G₃.pre fun o e => G₃.keep _ o e h1 nX) h1' h2' h4 h5⟩
      | ret r =>
        cases f <;> first | exact F₃.elim | skip
        cases k2
        exact wpAny_pure ⟨φ₃, g₃, GC, S₃, R₃, T0.trans TB, F₃⟩
    · cases h

theorem for_ok {t e : Expr} {body : List Stmt} {pos : Pos} {mt : MT} {x : V} {vs : List V} {bd : Rho → Store → Option (Fl × Rho × Store)} {fl : Fl} {σ' : Store} (hset : notSet e = true) (ht : tgtIs t mt = true) (hst : storable env mt.names)
    (hev : EvOK prog w hb C n env ρ σ e x σ₁) (hvs : iterOf σ₁ x = some vs) (hbd : ∀ ρ σ fl ρ' σ', bd ρ σ = some (fl, ρ', σ') → ExsOK prog w hb C n env ρ σ body fl ρ' σ')
    (h : loopM (fun v ρ σ => (setT ρ mt v).bind fun ρ => bd ρ σ) (still x vs) vs ρ σ₁ = some (fl, ρ', σ')) : ExOK prog w hb C n env ρ σ (.For t e body [] pos) fl ρ' σ' := by
  intro A s φ g E hA S R
  refine wpAny_For (wpAny_mono (hev A s φ g E hA S R) (fun v s₁ h₁ => ?_) fun _ _ e => e) fun y => folded_ok hset
  obtain ⟨φ₁, g₁, G₁, S₁, V₁, T₁⟩ := h₁
  have R₁ := R.grow G₁
  refine iter_op hvs S₁ V₁ fun it h' hn hk hit => ?_
  have G₂ : Grow φ₁ g₁ s₁.heap φ₁ g₁ h' := Grow.same hk
  obtain ⟨m, hm⟩ := R₁.ns
  obtain ⟨oL, hoL⟩ := Nsm.has hm
  refine codeAny_mono (for_loop (s₀ := s₁) (φ₀ := φ₁) (g₀ := g₁) ht hst hvs hbd hA hn vs 0 ρ σ₁ { s₁ with heap := h' } φ₁ g₁ rfl (Nat.zero_le _) h G₂.toX ⟨_, s₁.toks, rfl⟩ (S₁.all hk) (R₁.grow G₂) V₁ hit (S₁.fresh_f hn) (S₁.fresh_g hn)
    (by rintro rfl; rw [hn] at hoL; cases hoL) (fun y c hc => by rintro rfl; obtain ⟨⟨u, o, ho, _⟩, _⟩ := R₁.cells y _ hc; rw [hn] at ho; cases ho)) fun r s' z => ?_
  cases r with
  | ok f => exact ExPost.trans G₁.toX T₁ z
  | error e => exact z.elim
end
end Mine

namespace Mine

section
variable {prog : Program} {w : World} {hb : Heap} {C : Addr} {n : Nat} {φ φ' : List Addr} {g : Part}

theorem VR.cut {φ φ' : List Addr} {g : Part} (hp : φ <+: φ') {v : Value} {d : V} (r : VR g φ' v d) : d.under φ.length = true → VR g φ v d :=
  have own : ∀ {k : Nat} {a : Addr}, φ'[k]? = some a → decide (k < φ.length) = true → φ[k]? = some a := fun h u => by
    obtain ⟨t, rfl⟩ := hp
    rwa [List.getElem?_append_left (of_decide_eq_true u)] at h
  VR.rec (motive_1 := fun v d _ => d.under φ.length = true → VR g φ v d) (motive_2 := fun vs ds _ => V.unders φ.length ds = true → VRs g φ vs ds)
    (fun _ => .none) (fun b _ => .bool b) (fun i t _ => .int i t) (fun x t _ => .str x t) (fun h c d _ ih u => .tuple h c d (ih u)) (fun h c d _ ih u => .list h c d (ih u))
    (fun h u => .own (own h u)) (fun a _ => .gl a) (fun n _ => .ty n) (fun h e _ => .rng h e) (fun h h' e u => .items (own h u) h' e)
    (fun _ => .nil) (fun {v vs d ds} _ _ i1 i2 u => by
      have u : (d.under φ.length && V.unders φ.length ds) = true := u
      rw [Bool.and_eq_true] at u
      exact .cons (i1 u.1) (i2 u.2)) r
theorem VRs.cut {φ φ' : List Addr} {g : Part} (hp : φ <+: φ') {vs : List Value} {ds : List V} (r : VRs g φ' vs ds) (u : V.unders φ.length ds = true) : VRs g φ vs ds := by
  induction vs generalizing ds with
  | nil => cases r; exact .nil
  | cons v vs ih => cases r with | @cons _ _ d ds h r =>
    have u : (d.under φ.length && V.unders φ.length ds) = true := u
    rw [Bool.and_eq_true] at u
    exact .cons (VR.cut hp h u.1) (ih r u.2)
theorem OR.cut {h : Heap} {a : Addr} (hp : φ <+: φ') : ∀ {o : OObj}, OR C g φ' h a o → o.under φ.length = true → OR C g φ h a o
  | .lst _, ⟨vs, h1, h2⟩, u => ⟨vs, h1, h2.cut hp u⟩
  | .inst d, ⟨dx, h1, h2⟩, u => ⟨dx, by
      obtain ⟨t, rfl⟩ := hp
      rwa [List.getElem?_append_left (by simpa [OObj.under] using u)] at h1, h2⟩
  | .attrs none, h1, _ => h1
  | .attrs (some _), ⟨x, t, v, k, h1, h2⟩, u => ⟨x, t, v, k, h1, h2.cut hp u⟩
  | .dct _, h1, _ => h1

theorem Sim.cut {h : Heap} {τ : Store} (S : Sim hb C φ' τ g h) (hp : φ <+: φ') (hu : (τ.take φ.length).all (OObj.under φ.length) = true) : Sim hb C φ (τ.take φ.length) g h := by
  have hl : φ.length ≤ φ'.length := hp.length_le
  refine ⟨S.base, S.keep, by rw [List.length_take, ← S.len, Nat.min_eq_left hl], fun a m => S.off a (hp.subset m), fun k a o e1 e2 => ?_, ?_⟩
  · have hk : k < φ.length := (List.getElem?_eq_some_iff.mp e1).1
    have e2' : τ[k]? = some o := by rwa [List.getElem?_take_of_lt hk] at e2
    exact (S.own k a o (pre_get hp e1) e2').cut hp (List.all_eq_true.mp hu o (List.mem_of_getElem? e2))
  · exact List.Nodup.sublist hp.sublist S.nodup

theorem fin_sound {h₀ h' : Heap} {g' : Part} {τ τ' : Store} {d d' : V} {v : Value} (G : Grow φ g h₀ φ' g' h') (S : Sim hb C φ' τ g' h') (hv : VR g' φ' v d) (e : fin φ.length d τ = (d', τ')) :
    ∃ φ'' g'', Grow φ g h₀ φ'' g'' h' ∧ Sim hb C φ'' τ' g'' h' ∧ VR g'' φ'' v d' := by
  have G0 : Grow φ g h₀ φ g' h' := ⟨List.prefix_refl _, G.mono, G.newg, fun _ m => .inl m, G.keep, G.dom⟩
  have stay : (d, τ) = (d', τ') → ∃ φ'' g'', Grow φ g h₀ φ'' g'' h' ∧ Sim hb C φ'' τ' g'' h' ∧ VR g'' φ'' v d' := fun q => by cases q; exact ⟨φ', g', G, S, hv⟩
  have plain : (τ.take φ.length).all (OObj.under φ.length) = true → d.under φ.length = true → (d, τ.take φ.length) = (d', τ') → ∃ φ'' g'', Grow φ g h₀ φ'' g'' h' ∧ Sim hb C φ'' τ' g'' h' ∧ VR g'' φ'' v d' := fun hu hd q => by
    cases q; exact ⟨φ, g', G0, S.cut G.pre hu, hv.cut G.pre hd⟩
  unfold fin at e
  split at e
  · rename_i hu
    split at e
    · rename_i k
      split at e
      · rename_i hk
        exact plain hu (by simpa [V.under] using hk) e
      · rename_i hk
        split at e
        · rename_i vs q
          split at e
          · rename_i hus
            cases e
            obtain ⟨a, rfl, ha⟩ := hv.ofOwn
            have hq : τ[k]? = some (.lst vs) := by
              unfold ownLst at q
              split at q
              · rename_i q'; cases q; exact q'
              · cases q
            obtain ⟨us, hp, hr⟩ := S.own _ _ _ ha hq
            obtain ⟨o, ho, hc, m, hd⟩ := hp.isList
            have ma : a ∉ φ := fun m => by
              obtain ⟨j, hj, e⟩ := List.getElem_of_mem m
              have e1 : φ'[j]? = some a := pre_get G.pre (by rw [List.getElem?_eq_getElem hj, e])
              obtain ⟨l1, q1⟩ := List.getElem?_eq_some_iff.mp e1
              obtain ⟨l2, q2⟩ := List.getElem?_eq_some_iff.mp ha
              have : j = k := (List.getElem_inj S.nodup).mp (q1.trans q2.symm)
              omega
            have ga : g' a = none := S.off a (List.mem_of_getElem? ha)
            have na : h₀.get? a = none := by
              rcases G.newf a (List.mem_of_getElem? ha) with q | q
              · exact absurd q ma
              · exact q
            refine ⟨φ, putG g' a o, G0.adoptG ga na, (S.cut G.pre hu).adoptG ma ga ho, .list (by unfold putG; rw [if_pos rfl]) hc hd ((hr.cut G.pre hus).mono (fun b o' e => ?_) (List.prefix_refl _))⟩
            unfold putG; rw [if_neg (by rintro rfl; rw [ga] at e; cases e)]; exact e
          · exact stay e
        · exact stay e
    · split at e
      · rename_i hd; exact plain hu hd e
      · exact stay e
  · exact stay e

noncomputable def BR (g : Part) (φ : List Addr) (binds : List (Str × Value)) (ρ : Rho) : Prop :=
  ∃ (ps : List (String × V)) (rest : List String), binds.map (·.1) = ps.map (fun p => Str.ofString p.1) ∧ VRs g φ (binds.map (·.2)) (ps.map (·.2)) ∧ ρ = ps.map (fun p => (p.1, some p.2)) ++ rest.map (fun x => (x, none)) ∧ (ps.map (·.1)).Nodup

theorem bindL_miss {kf : Str → Option NameKind} {x : Str} : ∀ {binds : List (Str × Value)} {m : Str → Option Value}, x ∉ binds.map (·.1) → bindL kf binds m x = m x
  | [], _, _ => rfl
  | (k, v) :: r, m, h => by
    simp only [List.map_cons, List.mem_cons, not_or] at h
    unfold bindL
    rw [bindL_miss h.2]
    split
    · exact if_neg h.1
    · rfl
theorem bindC_miss {kf : Str → Option NameKind} {x : Str} : ∀ {binds : List (Str × Value)} {m : Str → Option Value}, x ∉ binds.map (·.1) → bindC kf binds m x = m x
  | [], _, _ => rfl
  | (k, v) :: r, m, h => by
    simp only [List.map_cons, List.mem_cons, not_or] at h
    unfold bindC
    rw [bindC_miss h.2]
    split
    · rfl
    · exact if_neg h.1

theorem bound_at {kf : Str → Option NameKind} : ∀ {binds : List (Str × Value)} {ps : List (String × V)} {x : String} {d : V} {m cm : Str → Option Value}, binds.map (·.1) = ps.map (fun p => Str.ofString p.1) → VRs g φ (binds.map (·.2)) (ps.map (·.2)) → (ps.map (·.1)).Nodup → ps.lookup x = some d →
    ∃ v, VR g φ v d ∧ (kf (Str.ofString x) = some .local → bindL kf binds m (Str.ofString x) = some v) ∧ (kf (Str.ofString x) ≠ some .local → bindC kf binds cm (Str.ofString x) = some v)
  | [], [], _, _, _, _, _, _, _, h => by cases h
  | [], _ :: _, _, _, _, _, h, _, _, _ => by cases h
  | _ :: _, [], _, _, _, _, h, _, _, _ => by cases h
  | (k, v) :: r, (y, d') :: ps, x, d, m, cm, h1, h2, h3, h4 => by
    simp only [List.map_cons, List.cons.injEq] at h1
    obtain ⟨v', ws, hw, hv, hr⟩ := h2.inv
    simp only [List.map_cons, List.cons.injEq] at hw
    obtain ⟨rfl, rfl⟩ := hw
    rw [List.map_cons, List.nodup_cons] at h3
    rw [List.lookup_cons] at h4
    by_cases hxy : (x == y) = true
    · rw [hxy] at h4; cases h4
      have hx := beq_iff_eq.mp hxy
      subst hx
      have miss : Str.ofString x ∉ r.map (·.1) := by
        rw [h1.2]
        intro q
        obtain ⟨p, hp, e⟩ := List.mem_map.mp q
        exact h3.1 (List.mem_map.mpr ⟨p, hp, ofString_inj e⟩)
      refine ⟨v, hv, fun hk => ?_, fun hk => ?_⟩
      · unfold bindL
        rw [bindL_miss miss, h1.1, if_pos hk, if_pos rfl]
      · unfold bindC
        rw [bindC_miss miss, h1.1, if_neg hk, if_pos rfl]
    · rw [Bool.not_eq_true] at hxy
      rw [hxy] at h4
      unfold bindL bindC
      exact bound_at h1.2 hr h3.2 h4
end
end Mine

namespace Mine

section
variable {prog : Program} {w : World} {hb : Heap} {C : Addr} {n : Nat} {φ φ' : List Addr} {g : Part}

theorem look_ps {ps : List (String × V)} {rest : List String} {x : String} {d : V} (h : look (ps.map (fun p => (p.1, some p.2)) ++ rest.map (fun x => (x, none))) x = some d) : ps.lookup x = some d := by
  induction ps with
  | nil =>
    exfalso
    rw [List.map_nil, List.nil_append] at h
    induction rest with
    | nil => cases h
    | cons y r ih =>
      unfold look at h ih
      rw [List.map_cons, List.lookup_cons] at h
      cases hxy : (x == y) with
      | true => rw [hxy] at h; cases h
      | false => rw [hxy] at h; exact ih h
  | cons p r ih =>
    unfold look at h ih
    rw [List.map_cons, List.cons_append, List.lookup_cons] at h
    rw [List.lookup_cons]
    cases hxy : (x == p.1) with
    | true => rw [hxy] at h; exact h
    | false => rw [hxy] at h; exact ih h

theorem frame_er {s₁ s₂ : Shared} {env : Env} {ρ : Rho} {τ : Store} {binds : List (Str × Value)} (hk : env.scope.kind = .function) (hg : env.globals = mainGlobals) (hbl : env.builtins = builtinsNs) (hL : env.locals = s₁.heap.objs.size)
    (hcs : env.cells = cellsFrom (s₁.heap.objs.size + 1) env.scope.names []) (hnf : ∀ x ∈ env.scope.names, x.2 ≠ .free) (x : InCallC s₁ env.locals (bindL env.kindOf binds fun _ => none) env.cells (bindC env.kindOf binds fun _ => none) s₂)
    (S : Sim hb C φ τ g s₁.heap) (B : BR g φ binds ρ) : ER hb φ g s₂.heap env ρ := by
  have hfresh : ∀ a, s₁.heap.objs.size ≤ a → s₁.heap.get? a = none := fun a ha => Heap.get?_none_of_le ha
  have nofree : ∀ m, env.kindOf m ≠ some .free := fun m q => hnf _ (mem_of_lookup q) rfl
  have hascell : ∀ m, env.kindOf m = some .cell → ∃ c, env.cells.lookup m = some c := fun m q => by
    rw [hcs]; exact Option.isSome_iff_exists.mp (cellsFrom_some _ _ _ (.inl q))
  refine ⟨hk, hg, hbl, ⟨_, x.toInCall.ns⟩, ⟨S.fresh_f (hfresh _ (by rw [hL]; exact Nat.le_refl _)), S.fresh_g (hfresh _ (by rw [hL]; exact Nat.le_refl _))⟩, fun m c e => ?_, fun m q => ?_, fun y d hy hv => ?_, fun m m' c e1 e2 => name_of_addr x.apart (mem_of_lookup e1) (mem_of_lookup e2)⟩
  · have hc := x.above m c (mem_of_lookup e)
    have hn := hfresh c (by rw [hL] at hc; exact Nat.le_of_lt hc)
    exact ⟨⟨_, x.cell m c e⟩, S.fresh_f hn, S.fresh_g hn, Nat.ne_of_gt hc⟩
  · rcases q with q | q
    · exact hascell m q
    · exact absurd q (nofree m)
  · obtain ⟨ps, rest, b1, b2, rfl, b4⟩ := B
    obtain ⟨v, hr, h1, h2⟩ := bound_at (kf := env.kindOf) (m := fun _ => none) (cm := fun _ => none) b1 b2 b4 (look_ps hy)
    refine ⟨v, ?_, hr⟩
    cases q : env.kindOf (Str.ofString y) with
    | none => rw [q] at hv; cases hv
    | some k =>
      rw [q] at hv
      cases k <;> first | (cases hv; done) | skip
      · exact .inl ⟨q, _, x.toInCall.ns, h1 q⟩
      · obtain ⟨c, hc⟩ := hascell _ q
        have := x.cell _ c hc
        rw [h2 (by rw [q]; decide)] at this
        exact .inr ⟨.inl q, c, hc, this⟩
      · exact absurd q (nofree _)

structure FnS (hb : Heap) (a : Addr) (fd : FuncData) (body : List Stmt) : Prop where
  obj : ∃ o, hb.get? a = some o ∧ o.data = .func fd
  co : fd.scope.isCoroutine = false
  gen : fd.scope.isGenerator = false
  body : fd.body = .stmts body
  code : hb.CodeRec fd.code fd.qualname
  clo : fd.closure = []
  glob : fd.globals = mainGlobals
  bl : fd.builtins = builtinsNs
  kind : fd.scope.kind = .function
  noFree : ∀ x ∈ fd.scope.names, x.2 ≠ .free

noncomputable def Fn.pad (fn : Fn) (args : List V) : List V := if args.length < fn.pos.length then args ++ fn.dfl.drop (fn.dfl.length - (fn.pos.length - args.length)) else args

noncomputable def BindOK (prog : Program) (w : World) (hb : Heap) (C : Addr) (fd : FuncData) (fn : Fn) : Prop :=
  ∀ args kws σ ρ τ, fn.binds (fn.pad args) kws σ = some (ρ, τ) → ∀ A s φ g E vals kvs (Q : List (Str × Value) → Shared → Prop), Sim hb C φ σ g s.heap → VRs g φ vals args → KRs g φ kvs kws →
    (∀ binds h' φ', Grow φ g s.heap φ' g h' → Sim hb C φ' τ g h' → BR g φ' binds ρ → (∀ b ∈ binds, fd.scope.names.lookup b.1 = some .local ∨ fd.scope.names.lookup b.1 = some .cell) → Q binds { s with heap := h' }) →
    wpAny (model prog w) A (bindArgs fd ⟨vals, kvs⟩) Q E s

theorem call_step {K : Cfg} {T : List (String × Fn)} {f : String} {fn : Fn} {a : Addr} {fd : FuncData} {body : List Stmt} (hlim : hb.NoLimit) (F : FnS hb a fd body) (B : BindOK prog w hb C fd fn) (hT : T.lookup f = some fn)
    (hbody : ∀ ρ τ fl ρ' τ', execsM K (callM K T n) ρ τ fn.body = some (fl, ρ', τ') → ∀ env : Env, env.scope = fd.scope → ExsOK prog w hb C n env ρ τ body fl ρ' τ') :
    ∀ args kws σ d σ', callM K T (n + 1) f args kws σ = some (d, σ') → ∀ A s φ g vals kvs, Rc (n + 1) A → Sim hb C φ σ g s.heap → VRs g φ vals args → KRs g φ kvs kws →
      codeAny (model prog w) A (.call (.ref a) ⟨vals, kvs⟩) (fun r s' => match r with | .ok (.ret v) => Post hb C φ g s σ' d v s' | _ => False) s := by
  intro args kws σ d σ' h A s φ g vals kvs hA S VV KV
  unfold callM at h
  rw [hT, Option.bind_some] at h
  obtain ⟨⟨ρ, τ⟩, k1, k2⟩ := Option.bind_eq_some_iff.mp h
  obtain ⟨⟨fl, ρ', τ'⟩, k3, k4⟩ := Option.bind_eq_some_iff.mp k2
  dsimp only at k3 k4
  obtain ⟨o, ho, hd⟩ := F.obj
  refine codeAny_call_function (by have := hA.depth; omega) (S.hbk a o ho) hd F.co F.gen F.body (F.code.keeps S.hbk) (B args kws σ ρ τ k1 A.in1 s φ g _ vals kvs _ S VV KV fun binds h' φ₁ G₁ S₁ B₁ hkinds => ?_)
  rw [F.clo]
  refine wpAny_newFunctionEnv_cells F.kind (fun x hx => (hkinds x hx).imp id fun e => ⟨e, cellsFrom_some _ _ _ (.inl e)⟩) fun env he s₂ X => ?_
  have hk2 := X.toInCall.keep
  refine ⟨(hlim.keeps S₁.hbk).keeps hk2, codeAny_func ?_⟩
  have R₂ : ER hb φ₁ g s₂.heap env ρ := frame_er (s₁ := { s with heap := h' }) (by rw [he]; exact F.kind) (by rw [he]; exact F.glob) (by rw [he]; exact F.bl) (by rw [he]; rfl) (by rw [he]; rfl) (by rw [he]; exact F.noFree) X S₁ B₁
  have G₂ : Grow φ₁ g h' φ₁ g s₂.heap := Grow.same hk2
  refine wpAny_mono (hbody ρ τ fl ρ' τ' k3 env (by rw [he]; rfl) (A.deeper env) s₂ φ₁ g _ (hA.deeper env) (S₁.all hk2) R₂) (fun fl' s₃ h₃ => ?_) fun _ _ e => e
  obtain ⟨φ₃, g₃, G₃, S₃, R₃, T₃, F₃⟩ := h₃
  have nX : ∀ x, XF env x → h'.get? x = none := fun x hx => by
    have hl : env.locals = h'.objs.size := by rw [he]; rfl
    rcases hx with rfl | ⟨m, hm⟩
    · exact Heap.get?_none_of_le (by rw [hl]; exact Nat.le_refl _)
    · have := X.above m x (mem_of_lookup hm)
      exact Heap.get?_none_of_le (by rw [hl] at this; exact Nat.le_of_lt this)
  have G₄ : Grow φ₁ g h' φ₃ g₃ s₃.heap := (G₂.toX.trans G₃).plain nX
  have G₅ : Grow φ g s.heap φ₃ g₃ s₃.heap := G₁.trans G₄
  have T₅ : Rest s s₃ := by
    obtain ⟨h₂, tk, hs⟩ := X.toInCall.same
    exact (Rest.mk s h₂ tk).trans (by rw [hs] at T₃; exact T₃)
  have hlen : φ.length = σ.length := S.len
  have ends : ∀ {v : Value} {x : V}, VR g₃ φ₃ v x → fin σ.length x τ' = (d, σ') → Post hb C φ g s σ' d v s₃ := fun {v x} hv hfin => by
    have hfin' : fin φ.length x τ' = (d, σ') := by rw [hlen]; exact hfin
    obtain ⟨φ₆, g₆, G₆, S₆, V₆⟩ := fin_sound G₅ S₃ hv hfin'
    exact ⟨φ₆, g₆, G₆, S₆, V₆, T₅⟩
  cases fl with
  | next =>
    cases fl' <;> first | exact F₃.elim | skip
    exact ends .none (Option.some.inj k4)
  | ret x =>
    cases fl' <;> first | exact F₃.elim | skip
    exact ends F₃ (Option.some.inj k4)
end
end Mine

namespace Mine

structure Ctx where
  gl : List (String × Addr)
  fa : List (String × Addr)
  bi : List String
  ty : List String
  C : Addr

abbrev Ctx.FA (Γ : Ctx) (f : String) : Option Addr := Γ.fa.lookup f
abbrev Names := List (Str × NameKind)
noncomputable def relN (ns inner : Names) : Names := inner.map fun (n, k) => if (k == .free && ns.lookup n == some .cell) then (n, .cell) else (n, k)
noncomputable def compStatic (ns : Names) (scope : Scope) (own : List String) : Bool :=
  scope.kind == .function && scope.names.all fun x => x.2 != .cell && scope.names.lookup x.1 == some x.2 && (x.2 != .local || own.any fun y => x.1 == Str.ofString y) && (x.2 != .free || ns.lookup x.1 == some .cell || ns.lookup x.1 == some .free)
noncomputable def gname (ns : Names) (id : Str) (x : String) : Bool := id == Str.ofString x && ns.lookup id == some .globalImplicit && !(id == ("__debug__" : Str))
noncomputable def storeN (ns : Names) (xs : List String) : Bool := xs.all fun x => ns.lookup (Str.ofString x) == some .local || ns.lookup (Str.ofString x) == some .cell
noncomputable def localN (ns : Names) (xs : List String) : Bool := xs.all fun x => ns.lookup (Str.ofString x) == some .local

noncomputable def MT.isOne : MT → Bool
  | .one _ => true
  | .tup _ => false

noncomputable def _root_.Mine.ME.isN : ME → Bool
  | .none => true
  | _ => false
theorem _root_.Mine.ME.isN_inv {m : ME} (h : m.isN = true) : m = .none := by
  cases m <;> first | rfl | cases h
mutual
noncomputable def chkE (Γ : Ctx) (ns : Names) : ME → Expr → Bool
  | .none, e => onConst e fun c _ _ => isCNone c
  | .bool b, e => onConst e fun c _ _ => onCBool c fun x => b == x
  | .int i, e => onConst e fun c _ _ => onCInt c fun x => i == x
  | .str x, e => onConst e fun c _ _ => onCStr c fun s => s == strV x
  | .var x, e => onName e fun id _ => id == Str.ofString x && vis (ns.lookup id) && !(id == ("__debug__" : Str))
  | .glob x a, e => onName e fun id _ => gname ns id x && Γ.gl.lookup x == some a
  | .tyn x, e => onName e fun id _ => gname ns id x && Γ.ty.contains x
  | .dbg, e => onName e fun id _ => id == Str.ofString "__debug__"
  | .tuple es, e => onTuple e fun es' _ _ => chkEs Γ ns es es'
  | .list _ es, e => onList e fun es' _ => chkEs Γ ns es es'
  | .bin op a b, e => onBin e fun a' op' b' _ => decide (op = op') && chkE Γ ns a a' && chkE Γ ns b b'
  | .neg a, e => onUn e fun op a' _ => decide (op = .USub) && chkE Γ ns a a'
  | .not a, e => onUn e fun op a' _ => decide (op = .Not) && chkE Γ ns a a'
  | .and es, e => onBool e fun op es' _ => decide (op = .And) && chkEs Γ ns es es'
  | .or es, e => onBool e fun op es' _ => decide (op = .Or) && chkEs Γ ns es es'
  | .ife c a b, e => onIf e fun c' a' b' _ => chkE Γ ns c c' && chkE Γ ns a a' && chkE Γ ns b b'
  | .cmp op a b, e => onCmp e fun a' ops bs _ => one ops fun op' => one bs fun b' => decide (op = op') && !behindInMarks op b' && chkE Γ ns a a' && chkE Γ ns b b'
  | .idx a i, e => onSub e fun a' i' _ => noSlice i' && chkE Γ ns a a' && chkE Γ ns i i'
  | .slice _ a lo hi st, e => onSub e fun a' i' _ => onSlice i' fun lo' hi' st' _ => chkE Γ ns a a' && chkO Γ ns lo lo' && chkO Γ ns hi hi' && chkO Γ ns st st'
  | .call f es, e => onCall e fun fe es' ks _ => ks.isEmpty && onName fe fun id _ => gname ns id f && (Γ.fa.lookup f).isSome && Γ.gl.lookup f == Γ.fa.lookup f && chkEs Γ ns es es'
  | .meth o m es ks, e => onCall e fun fe es' ks' p => onAttr fe fun o' at' ap => at' == Str.ofString m && baseOk o' && decide (es'.length + ks'.length < 29) && ap.endLine == p.line && (Γ.fa.lookup ("Headers." ++ m)).isSome && chkE Γ ns o o' && chkEs Γ ns es es' && chkKs Γ ns ks ks'
  | .new es, e => onCall e fun fe es' ks _ => ks.isEmpty && onName fe fun id _ => gname ns id "Headers" && Γ.gl.lookup "Headers" == some Γ.C && (Γ.fa.lookup "Headers.__init__").isSome && chkEs Γ ns es es'
  | .bi f es, e => onCall e fun fe es' ks _ => ks.isEmpty && onName fe fun id _ => gname ns id f && Γ.bi.contains f && chkEs Γ ns es es'
  | .sm o m es, e => onCall e fun fe es' ks p => ks.isEmpty && onAttr fe fun o' at' ap => at' == Str.ofString m && baseOk o' && decide (es'.length < 29) && ap.endLine == p.line && chkE Γ ns o o' && chkEs Γ ns es es'
  | .attr o, e => onAttr e fun o' at' _ => at' == Str.ofString "_headers" && isName o' && chkE Γ ns o o'
  | .comp _ elt gs, e => onComp e fun elt' gens scope _ => !gens.isEmpty && compStatic ns scope gs.names && chkG Γ ns (relN ns scope.names) gs gens && chkE Γ (relN ns scope.names) elt elt'
noncomputable def chkO (Γ : Ctx) (ns : Names) : MO → Option Expr → Bool
  | .no, none => true
  | .yes e, some e' => chkE Γ ns e e'
  | _, _ => false
noncomputable def chkEs (Γ : Ctx) (ns : Names) : MEs → List Expr → Bool
  | .nil, [] => true
  | .cons e r, e' :: r' => notStar e' && chkE Γ ns e e' && chkEs Γ ns r r'
  | _, _ => false
noncomputable def chkKs (Γ : Ctx) (ns : Names) : MKs → List Keyword → Bool
  | .nil, [] => true
  | .cons k e r, ⟨some k', e', _⟩ :: r' => k' == Str.ofString k && chkE Γ ns e e' && chkKs Γ ns r r'
  | _, _ => false
noncomputable def chkG (Γ : Ctx) (nf ni : Names) : MGs → List Comprehension → Bool
  | .nil, [] => true
  | .zip xs es ifs, [⟨t', it', ifs', a⟩] => a == 0 && tgtIs t' (.tup xs) && localN ni xs && !(nf == ni) && (onCall it' fun fe es' ks _ => ks.isEmpty && onName fe fun id _ => gname nf id "zip" && Γ.bi.contains "zip" && chkEs Γ nf es es') && chkEs Γ ni ifs ifs'
  | .cons t it ifs r, ⟨t', it', ifs', a⟩ :: r' => a == 0 && tgtIs t' t && localN ni t.names && notSet it' && chkE Γ nf it it' && chkEs Γ ni ifs ifs' && chkG Γ ni ni r r'
  | _, _ => false
end

mutual
noncomputable def chkS (Γ : Ctx) (ns : Names) : MS → Stmt → Bool
  | .assign t e, s => onAssign s fun ts e' _ => one ts fun t' => tgtIs t' t && notPair t' e' && storeN ns t.names && chkE Γ ns e e' && (notComp e' || t.isOne)
  | .setitem o i e, s => onAssign s fun ts e' _ => one ts fun t' => onSub t' fun o' i' _ => (Γ.fa.lookup "Headers.__setitem__").isSome && chkE Γ ns o o' && chkE Γ ns i i' && chkE Γ ns e e'
  | .setall o e, s => onAssign s fun ts e' _ => one ts fun t' => onSub t' fun o' i' _ => onSlice i' fun lo hi st _ => lo.isNone && hi.isNone && st.isNone && chkE Γ ns o o' && chkE Γ ns e e'
  | .setattr o e, s => onAssign s fun ts e' _ => one ts fun t' => onAttr t' fun o' at' _ => at' == Str.ofString "_headers" && chkE Γ ns o o' && chkE Γ ns e e'
  | .del o i, s => onDelete s fun ts _ => one ts fun t' => onSub t' fun o' i' _ => (Γ.fa.lookup "Headers.__delitem__").isSome && chkE Γ ns o o' && chkE Γ ns i i'
  | .expr e, s => onExpr s fun e' _ => notComp e' && chkE Γ ns e e'
  | .aug _ _ _, _ => false
  | .ite c a b, s => onIfS s fun c' a' b' _ => chkE Γ ns c c' && chkSs Γ ns a a' && chkSs Γ ns b b'
  | .for t it body, s => onFor s fun t' it' body' el _ => el.isEmpty && tgtIs t' t && storeN ns t.names && notSet it' && chkE Γ ns it it' && chkSs Γ ns body body'
  | .ret e, s => onRet s fun v _ => v.elim e.isN fun e' => chkE Γ ns e e'
  | .raise, _ => true
noncomputable def chkSs (Γ : Ctx) (ns : Names) : MSs → List Stmt → Bool
  | .nil, [] => true
  | .cons s r, s' :: r' => chkS Γ ns s s' && chkSs Γ ns r r'
  | _, _ => false
end

noncomputable def SC (env : Env) (ns : Names) : Prop := env.scope.kind = .function ∧ env.scope.names = ns
theorem SC.kindOf {env : Env} {ns : Names} (h : SC env ns) (x : Str) : env.kindOf x = ns.lookup x := by unfold Env.kindOf; rw [h.2]
theorem SC.comp {env : Env} {ns : Names} (h : SC env ns) {scope : Scope} {cl : List (Str × Addr)} {L : Addr} (hk : scope.kind = .function) : SC (compEnvC scope cl L env) (relN ns scope.names) := by
  refine ⟨hk, ?_⟩
  show (relabel scope env).names = _
  unfold relabel relN
  dsimp only
  congr 1
  funext x
  obtain ⟨n, k⟩ := x
  dsimp only
  rw [h.kindOf, h.1]
  simp

structure Gnd (prog : Program) (w : World) (hb : Heap) (K : Frag) (mg mb : Str → Option Value) (Γ : Ctx) (cfg : Cfg) (n : Nat) (O : Orc) : Prop where
  cls : ClsOK K hb Γ.C Γ.FA
  orc : CallOK prog w hb Γ.C Γ.FA n O
  fns : FnsOK hb Γ.FA
  pats : Pats hb cfg.nd cfg.vd
  g : hb.Ns mainGlobals mg
  b : hb.Ns builtinsNs mb
  gl : ∀ x a, Γ.gl.lookup x = some a → mg (Str.ofString x) = some (.ref a)
  bi : ∀ f, Γ.bi.contains f = true → mg (Str.ofString f) = none ∧ mb (Str.ofString f) = some (biVal f)
  ty : ∀ x, Γ.ty.contains x = true → mg (Str.ofString x) = none ∧ mb (Str.ofString x) = some (.type x)
  keep : keepIn K (.ref Γ.C) = true
  noseq : noSeq K Γ.C = true

theorem comp_scope {env : Env} {ns : Names} {scope : Scope} {own : List String} (h : SC env ns) (c : compStatic ns scope own = true) : CompScope env scope own := by
  unfold compStatic at c
  rw [Bool.and_eq_true] at c
  obtain ⟨c1, c2⟩ := c
  have c1 : scope.kind = .function := by simpa using c1
  have c2 : ∀ x ∈ scope.names, _ := fun x hx => List.all_eq_true.mp c2 x hx
  refine ⟨c1, fun x hx => ?_, fun x hx => ?_, fun x hx hl => ?_, fun x hx hf => ?_⟩ <;>
    (have := c2 x hx; simp only [Bool.and_eq_true, bne_iff_ne, beq_iff_eq, Bool.or_eq_true] at this; obtain ⟨⟨⟨a, b⟩, c⟩, d⟩ := this)
  · exact a
  · exact b
  · rcases c with c | c
    · exact absurd hl c
    · obtain ⟨y, hy, e⟩ := List.any_eq_true.mp c
      exact ⟨y, hy, by simpa using e⟩
  · rw [h.kindOf]
    rcases d with (d | d) | d
    · exact absurd hf d
    · exact .inl d
    · exact .inr d
end Mine

namespace Mine

section
variable {Γ : Ctx} {ns : Names} {e : Expr}
theorem ff {b : Bool} (h : b = true) (q : b = false) {P : Prop} : P := by rw [q] at h; cases h
theorem chk_none (h : chkE Γ ns .none e = true) : ∃ k p, e = .Constant .none k p := by
  obtain ⟨c, k, p, rfl, g⟩ := onConst_inv (f := fun c _ _ => isCNone c) h
  replace h := g
  exact ⟨k, p, by rw [isCNone_inv h]⟩
theorem chk_bool {b : Bool} (h : chkE Γ ns (.bool b) e = true) : ∃ k p, e = .Constant (.bool b) k p := by
  obtain ⟨c, k, p, rfl, g⟩ := onConst_inv (f := fun c _ _ => onCBool c fun x => b == x) h
  replace h := g
  obtain ⟨x, rfl, g1⟩ := onCBool_inv h
  replace h := g1
  exact ⟨k, p, by rw [beq_iff_eq.mp h]⟩
theorem chk_int {b : Int} (h : chkE Γ ns (.int b) e = true) : ∃ k p, e = .Constant (.int b) k p := by
  obtain ⟨c, k, p, rfl, g⟩ := onConst_inv (f := fun c _ _ => onCInt c fun x => b == x) h
  replace h := g
  obtain ⟨x, rfl, g2⟩ := onCInt_inv h
  replace h := g2
  exact ⟨k, p, by rw [beq_iff_eq.mp h]⟩
theorem chk_str {x : List Nat} (h : chkE Γ ns (.str x) e = true) : ∃ k p, e = .Constant (.str (strV x)) k p := by
  obtain ⟨c, k, p, rfl, g⟩ := onConst_inv (f := fun c _ _ => onCStr c fun s => s == strV x) h
  replace h := g
  obtain ⟨s, rfl, g3⟩ := onCStr_inv h
  replace h := g3
  exact ⟨k, p, by rw [show s = strV x from beq_iff_eq.mp h]⟩
theorem chk_var {x : String} (h : chkE Γ ns (.var x) e = true) : ∃ p, e = .Name (Str.ofString x) p ∧ vis (ns.lookup (Str.ofString x)) = true ∧ (Str.ofString x == ("__debug__" : Str)) = false := by
  obtain ⟨id, p, rfl, g⟩ := onName_inv (f := fun id _ => id == Str.ofString x && vis (ns.lookup id) && !(id == ("__debug__" : Str))) h
  replace h := g
  simp only [Bool.and_eq_true, Bool.not_eq_true'] at h
  obtain ⟨⟨h1, h2⟩, h3⟩ := h
  have := beq_iff_eq.mp h1
  subst this
  exact ⟨p, rfl, h2, h3⟩
theorem gname_of {id : Str} {x : String} (h : gname ns id x = true) : id = Str.ofString x ∧ ns.lookup (Str.ofString x) = some .globalImplicit ∧ (Str.ofString x == ("__debug__" : Str)) = false := by
  unfold gname at h
  simp only [Bool.and_eq_true, Bool.not_eq_true'] at h
  obtain ⟨⟨h1, h2⟩, h3⟩ := h
  have := beq_iff_eq.mp h1
  subst this
  exact ⟨rfl, beq_iff_eq.mp h2, h3⟩
theorem chk_glob {x : String} {a : Nat} (h : chkE Γ ns (.glob x a) e = true) : ∃ id p, e = .Name id p ∧ gname ns id x = true ∧ Γ.gl.lookup x = some a := by
  obtain ⟨id, p, rfl, g⟩ := onName_inv (f := fun id _ => gname ns id x && Γ.gl.lookup x == some a) h
  replace h := g
  rw [Bool.and_eq_true] at h
  exact ⟨id, p, rfl, h.1, beq_iff_eq.mp h.2⟩
theorem chk_tyn {x : String} (h : chkE Γ ns (.tyn x) e = true) : ∃ id p, e = .Name id p ∧ gname ns id x = true ∧ Γ.ty.contains x = true := by
  obtain ⟨id, p, rfl, g⟩ := onName_inv (f := fun id _ => gname ns id x && Γ.ty.contains x) h
  replace h := g
  rw [Bool.and_eq_true] at h
  exact ⟨id, p, rfl, h.1, h.2⟩
theorem chk_dbg (h : chkE Γ ns .dbg e = true) : ∃ p, e = .Name (Str.ofString "__debug__") p := by
  obtain ⟨id, p, rfl, g⟩ := onName_inv (f := fun id _ => id == Str.ofString "__debug__") h
  replace h := g
  exact ⟨p, by rw [show id = _ from beq_iff_eq.mp h]⟩
theorem chk_tuple {es : MEs} (h : chkE Γ ns (.tuple es) e = true) : ∃ es' k p, e = .Tuple es' k p ∧ chkEs Γ ns es es' = true := by
  obtain ⟨es', k, p, rfl, g⟩ := onTuple_inv (f := fun es' _ _ => chkEs Γ ns es es') h
  replace h := g
  exact ⟨_, _, _, rfl, h⟩
theorem chk_list {o : Bool} {es : MEs} (h : chkE Γ ns (.list o es) e = true) : ∃ es' p, e = .List es' p ∧ chkEs Γ ns es es' = true := by
  obtain ⟨es', p, rfl, g⟩ := onList_inv (f := fun es' _ => chkEs Γ ns es es') h
  replace h := g
  exact ⟨_, _, rfl, h⟩
theorem chk_bin {op : Operator} {a b : ME} (h : chkE Γ ns (.bin op a b) e = true) : ∃ a' b' p, e = .BinOp a' op b' p ∧ chkE Γ ns a a' = true ∧ chkE Γ ns b b' = true := by
  obtain ⟨a', op', b', p, rfl, g⟩ := onBin_inv (f := fun a' op' b' _ => decide (op = op') && chkE Γ ns a a' && chkE Γ ns b b') h
  replace h := g
  simp only [Bool.and_eq_true, decide_eq_true_eq] at h
  obtain ⟨⟨rfl, h2⟩, h3⟩ := h
  exact ⟨_, _, _, rfl, h2, h3⟩
theorem chk_neg {a : ME} (h : chkE Γ ns (.neg a) e = true) : ∃ a' p, e = .UnaryOp .USub a' p ∧ chkE Γ ns a a' = true := by
  obtain ⟨op, a', p, rfl, g⟩ := onUn_inv (f := fun op a' _ => decide (op = .USub) && chkE Γ ns a a') h
  replace h := g
  simp only [Bool.and_eq_true, decide_eq_true_eq] at h
  obtain ⟨rfl, h⟩ := h
  exact ⟨_, _, rfl, h⟩
theorem chk_not {a : ME} (h : chkE Γ ns (.not a) e = true) : ∃ a' p, e = .UnaryOp .Not a' p ∧ chkE Γ ns a a' = true := by
  obtain ⟨op, a', p, rfl, g⟩ := onUn_inv (f := fun op a' _ => decide (op = .Not) && chkE Γ ns a a') h
  replace h := g
  simp only [Bool.and_eq_true, decide_eq_true_eq] at h
  obtain ⟨rfl, h⟩ := h
  exact ⟨_, _, rfl, h⟩
theorem chk_and {es : MEs} (h : chkE Γ ns (.and es) e = true) : ∃ es' p, e = .BoolOp .And es' p ∧ chkEs Γ ns es es' = true := by
  obtain ⟨op, a', p, rfl, g⟩ := onBool_inv (f := fun op es' _ => decide (op = .And) && chkEs Γ ns es es') h
  replace h := g
  simp only [Bool.and_eq_true, decide_eq_true_eq] at h
  obtain ⟨rfl, h⟩ := h
  exact ⟨_, _, rfl, h⟩
theorem chk_or {es : MEs} (h : chkE Γ ns (.or es) e = true) : ∃ es' p, e = .BoolOp .Or es' p ∧ chkEs Γ ns es es' = true := by
  obtain ⟨op, a', p, rfl, g⟩ := onBool_inv (f := fun op es' _ => decide (op = .Or) && chkEs Γ ns es es') h
  replace h := g
  simp only [Bool.and_eq_true, decide_eq_true_eq] at h
  obtain ⟨rfl, h⟩ := h
  exact ⟨_, _, rfl, h⟩
theorem chk_ife {c a b : ME} (h : chkE Γ ns (.ife c a b) e = true) : ∃ c' a' b' p, e = .IfExp c' a' b' p ∧ chkE Γ ns c c' = true ∧ chkE Γ ns a a' = true ∧ chkE Γ ns b b' = true := by
  obtain ⟨c', a', b', p, rfl, g⟩ := onIf_inv (f := fun c' a' b' _ => chkE Γ ns c c' && chkE Γ ns a a' && chkE Γ ns b b') h
  replace h := g
  simp only [Bool.and_eq_true] at h
  exact ⟨_, _, _, _, rfl, h.1.1, h.1.2, h.2⟩
theorem chk_cmp {op : CmpOp} {a b : ME} (h : chkE Γ ns (.cmp op a b) e = true) : ∃ a' b' p, e = .Compare a' [op] [b'] p ∧ behindInMarks op b' = false ∧ chkE Γ ns a a' = true ∧ chkE Γ ns b b' = true := by
  obtain ⟨a', ops, bs, p, rfl, g⟩ := onCmp_inv (f := fun a' ops bs _ => one ops fun op' => one bs fun b' => decide (op = op') && !behindInMarks op b' && chkE Γ ns a a' && chkE Γ ns b b') h
  replace h := g
  obtain ⟨op', rfl, g4⟩ := one_inv h
  replace h := g4
  obtain ⟨b', rfl, g5⟩ := one_inv h
  replace h := g5
  simp only [Bool.and_eq_true, decide_eq_true_eq, Bool.not_eq_true'] at h
  obtain ⟨⟨⟨rfl, h1⟩, h2⟩, h3⟩ := h
  exact ⟨_, _, _, rfl, h1, h2, h3⟩
theorem chk_idx {a i : ME} (h : chkE Γ ns (.idx a i) e = true) : ∃ a' i' p, e = .Subscript a' i' p ∧ noSlice i' = true ∧ chkE Γ ns a a' = true ∧ chkE Γ ns i i' = true := by
  obtain ⟨a', i', p, rfl, g⟩ := onSub_inv (f := fun a' i' _ => noSlice i' && chkE Γ ns a a' && chkE Γ ns i i') h
  replace h := g
  simp only [Bool.and_eq_true] at h
  exact ⟨_, _, _, rfl, h.1.1, h.1.2, h.2⟩
theorem chk_slice {o : Bool} {a : ME} {lo hi st : MO} (h : chkE Γ ns (.slice o a lo hi st) e = true) : ∃ a' lo' hi' st' q p, e = .Subscript a' (.Slice lo' hi' st' q) p ∧ chkE Γ ns a a' = true ∧ chkO Γ ns lo lo' = true ∧ chkO Γ ns hi hi' = true ∧ chkO Γ ns st st' = true := by
  obtain ⟨a', i', p, rfl, g⟩ := onSub_inv (f := fun a' i' _ => onSlice i' fun lo' hi' st' _ => chkE Γ ns a a' && chkO Γ ns lo lo' && chkO Γ ns hi hi' && chkO Γ ns st st') h
  replace h := g
  obtain ⟨lo', hi', st', q, rfl, g6⟩ := onSlice_inv h
  replace h := g6
  simp only [Bool.and_eq_true] at h
  exact ⟨_, _, _, _, _, _, rfl, h.1.1.1, h.1.1.2, h.1.2, h.2⟩
theorem chk_call {f : String} {es : MEs} (h : chkE Γ ns (.call f es) e = true) : ∃ id q es' p a, e = .Call (.Name id q) es' [] p ∧ gname ns id f = true ∧ Γ.fa.lookup f = some a ∧ Γ.gl.lookup f = some a ∧ chkEs Γ ns es es' = true := by
  obtain ⟨fe, es', ks, p, rfl, g⟩ := onCall_inv (f := fun fe es' ks _ => ks.isEmpty && onName fe fun id _ => gname ns id f && (Γ.fa.lookup f).isSome && Γ.gl.lookup f == Γ.fa.lookup f && chkEs Γ ns es es') h
  replace h := g
  rw [Bool.and_eq_true] at h
  obtain ⟨hk, h⟩ := h
  cases nil_inv hk
  obtain ⟨id, q, rfl, g7⟩ := onName_inv h
  replace h := g7
  simp only [Bool.and_eq_true] at h
  obtain ⟨⟨⟨h1, h2⟩, h3⟩, h4⟩ := h
  obtain ⟨a, ha⟩ := Option.isSome_iff_exists.mp h2
  exact ⟨id, q, es', p, a, rfl, h1, ha, by rw [beq_iff_eq.mp h3, ha], h4⟩
theorem chk_meth {o : ME} {m : String} {es : MEs} {ks : MKs} (h : chkE Γ ns (.meth o m es ks) e = true) : ∃ o' ap es' ks' p a, e = .Call (.Attribute o' (Str.ofString m) ap) es' ks' p ∧ baseOk o' = true ∧ es'.length + ks'.length < 29 ∧ (ap.endLine == p.line) = true ∧ Γ.fa.lookup ("Headers." ++ m) = some a ∧ chkE Γ ns o o' = true ∧ chkEs Γ ns es es' = true ∧ chkKs Γ ns ks ks' = true := by
  obtain ⟨fe, es', ks', p, rfl, g⟩ := onCall_inv (f := fun fe es' ks' p => onAttr fe fun o' at' ap => at' == Str.ofString m && baseOk o' && decide (es'.length + ks'.length < 29) && ap.endLine == p.line && (Γ.fa.lookup ("Headers." ++ m)).isSome && chkE Γ ns o o' && chkEs Γ ns es es' && chkKs Γ ns ks ks') h
  replace h := g
  obtain ⟨o', at', ap, rfl, g8⟩ := onAttr_inv h
  replace h := g8
  simp only [Bool.and_eq_true, decide_eq_true_eq] at h
  obtain ⟨⟨⟨⟨⟨⟨⟨h1, h2⟩, h3⟩, h4⟩, h5⟩, h6⟩, h7⟩, h8⟩ := h
  obtain ⟨a, ha⟩ := Option.isSome_iff_exists.mp h5
  exact ⟨o', ap, es', ks', p, a, by rw [show at' = _ from beq_iff_eq.mp h1], h2, h3, h4, ha, h6, h7, h8⟩
theorem chk_new {es : MEs} (h : chkE Γ ns (.new es) e = true) : ∃ id q es' p a, e = .Call (.Name id q) es' [] p ∧ gname ns id "Headers" = true ∧ Γ.gl.lookup "Headers" = some Γ.C ∧ Γ.fa.lookup "Headers.__init__" = some a ∧ chkEs Γ ns es es' = true := by
  obtain ⟨fe, es', ks, p, rfl, g⟩ := onCall_inv (f := fun fe es' ks _ => ks.isEmpty && onName fe fun id _ => gname ns id "Headers" && Γ.gl.lookup "Headers" == some Γ.C && (Γ.fa.lookup "Headers.__init__").isSome && chkEs Γ ns es es') h
  replace h := g
  rw [Bool.and_eq_true] at h
  obtain ⟨hk, h⟩ := h
  cases nil_inv hk
  obtain ⟨id, q, rfl, g9⟩ := onName_inv h
  replace h := g9
  simp only [Bool.and_eq_true] at h
  obtain ⟨⟨⟨h1, h2⟩, h3⟩, h4⟩ := h
  obtain ⟨a, ha⟩ := Option.isSome_iff_exists.mp h3
  exact ⟨id, q, es', p, a, rfl, h1, beq_iff_eq.mp h2, ha, h4⟩
theorem chk_bi {f : String} {es : MEs} (h : chkE Γ ns (.bi f es) e = true) : ∃ id q es' p, e = .Call (.Name id q) es' [] p ∧ gname ns id f = true ∧ Γ.bi.contains f = true ∧ chkEs Γ ns es es' = true := by
  obtain ⟨fe, es', ks, p, rfl, g⟩ := onCall_inv (f := fun fe es' ks _ => ks.isEmpty && onName fe fun id _ => gname ns id f && Γ.bi.contains f && chkEs Γ ns es es') h
  replace h := g
  rw [Bool.and_eq_true] at h
  obtain ⟨hk, h⟩ := h
  cases nil_inv hk
  obtain ⟨id, q, rfl, g10⟩ := onName_inv h
  replace h := g10
  simp only [Bool.and_eq_true] at h
  exact ⟨id, q, es', p, rfl, h.1.1, h.1.2, h.2⟩
theorem chk_sm {o : ME} {m : String} {es : MEs} (h : chkE Γ ns (.sm o m es) e = true) : ∃ o' ap es' p, e = .Call (.Attribute o' (Str.ofString m) ap) es' [] p ∧ baseOk o' = true ∧ es'.length < 29 ∧ (ap.endLine == p.line) = true ∧ chkE Γ ns o o' = true ∧ chkEs Γ ns es es' = true := by
  obtain ⟨fe, es', ks, p, rfl, g⟩ := onCall_inv (f := fun fe es' ks p => ks.isEmpty && onAttr fe fun o' at' ap => at' == Str.ofString m && baseOk o' && decide (es'.length < 29) && ap.endLine == p.line && chkE Γ ns o o' && chkEs Γ ns es es') h
  replace h := g
  rw [Bool.and_eq_true] at h
  obtain ⟨hk, h⟩ := h
  cases nil_inv hk
  obtain ⟨o', at', ap, rfl, g11⟩ := onAttr_inv h
  replace h := g11
  simp only [Bool.and_eq_true, decide_eq_true_eq] at h
  obtain ⟨⟨⟨⟨⟨h1, h2⟩, h3⟩, h4⟩, h6⟩, h7⟩ := h
  exact ⟨o', ap, es', p, by rw [show at' = _ from beq_iff_eq.mp h1], h2, h3, h4, h6, h7⟩
theorem chk_attr {o : ME} (h : chkE Γ ns (.attr o) e = true) : ∃ o' p, e = .Attribute o' "_headers" p ∧ isName o' = true ∧ chkE Γ ns o o' = true := by
  obtain ⟨o', at', p, rfl, g⟩ := onAttr_inv (f := fun o' at' _ => at' == Str.ofString "_headers" && isName o' && chkE Γ ns o o') h
  replace h := g
  simp only [Bool.and_eq_true] at h
  exact ⟨o', p, by rw [show at' = _ from beq_iff_eq.mp h.1.1], h.1.2, h.2⟩
theorem chk_comp {o : Bool} {elt : ME} {gs : MGs} (h : chkE Γ ns (.comp o elt gs) e = true) : ∃ elt' gens scope p, e = .ListComp elt' gens scope p ∧ gens.isEmpty = false ∧ compStatic ns scope gs.names = true ∧ chkG Γ ns (relN ns scope.names) gs gens = true ∧ chkE Γ (relN ns scope.names) elt elt' = true := by
  obtain ⟨elt', gens, scope, p, rfl, g⟩ := onComp_inv (f := fun elt' gens scope _ => !gens.isEmpty && compStatic ns scope gs.names && chkG Γ ns (relN ns scope.names) gs gens && chkE Γ (relN ns scope.names) elt elt') h
  replace h := g
  simp only [Bool.and_eq_true, Bool.not_eq_true'] at h
  exact ⟨_, _, _, _, rfl, h.1.1.1, h.1.1.2, h.1.2, h.2⟩
theorem chk_es_nil {es : List Expr} (h : chkEs Γ ns .nil es = true) : es = [] := by
  cases es with
  | nil => rfl
  | cons _ _ => exact ff h rfl
theorem chk_es_cons {e : ME} {r : MEs} {es : List Expr} (h : chkEs Γ ns (.cons e r) es = true) : ∃ e' r', es = e' :: r' ∧ notStar e' = true ∧ chkE Γ ns e e' = true ∧ chkEs Γ ns r r' = true := by
  cases es with
  | nil => exact ff h rfl
  | cons e' r' =>
    have h : (notStar e' && chkE Γ ns e e' && chkEs Γ ns r r') = true := h
    simp only [Bool.and_eq_true] at h
    exact ⟨_, _, rfl, h.1.1, h.1.2, h.2⟩
theorem chk_stars : ∀ {m : MEs} {es : List Expr}, chkEs Γ ns m es = true → es.all notStar = true
  | .nil, es, h => by rw [chk_es_nil h]; rfl
  | .cons e r, es, h => by
    obtain ⟨e', r', rfl, h1, _, h3⟩ := chk_es_cons h
    rw [List.all_cons, h1, chk_stars h3]; rfl
theorem chk_ks_nil {es : List Keyword} (h : chkKs Γ ns .nil es = true) : es = [] := by
  cases es with
  | nil => rfl
  | cons _ _ => exact ff h rfl
theorem chk_ks_cons {k : String} {e : ME} {r : MKs} {es : List Keyword} (h : chkKs Γ ns (.cons k e r) es = true) : ∃ e' p r', es = ⟨some (Str.ofString k), e', p⟩ :: r' ∧ chkE Γ ns e e' = true ∧ chkKs Γ ns r r' = true := by
  cases es with
  | nil => exact ff h rfl
  | cons kw r' =>
    obtain ⟨k', e', p⟩ := kw
    cases k' with
    | none => exact ff h rfl
    | some k' =>
      have h : (k' == Str.ofString k && chkE Γ ns e e' && chkKs Γ ns r r') = true := h
      simp only [Bool.and_eq_true] at h
      exact ⟨e', p, r', by rw [show k' = _ from beq_iff_eq.mp h.1.1], h.1.2, h.2⟩
theorem chk_o_no {o : Option Expr} (h : chkO Γ ns .no o = true) : o = none := by
  cases o with
  | none => rfl
  | some _ => exact ff h rfl
theorem chk_o_yes {e : ME} {o : Option Expr} (h : chkO Γ ns (.yes e) o = true) : ∃ e', o = some e' ∧ chkE Γ ns e e' = true := by
  cases o with
  | none => exact ff h rfl
  | some e' => exact ⟨e', rfl, h⟩
theorem chk_g_nil {nf ni : Names} {gs : List Comprehension} (h : chkG Γ nf ni .nil gs = true) : gs = [] := by
  cases gs with
  | nil => rfl
  | cons _ _ => exact ff h rfl
theorem chk_g_cons {nf ni : Names} {t : MT} {it : ME} {ifs : MEs} {r : MGs} {gs : List Comprehension} (h : chkG Γ nf ni (.cons t it ifs r) gs = true) :
    ∃ t' it' ifs' r', gs = ⟨t', it', ifs', 0⟩ :: r' ∧ tgtIs t' t = true ∧ localN ni t.names = true ∧ notSet it' = true ∧ chkE Γ nf it it' = true ∧ chkEs Γ ni ifs ifs' = true ∧ chkG Γ ni ni r r' = true := by
  cases gs with
  | nil => exact ff h rfl
  | cons g r' =>
    obtain ⟨t', it', ifs', a⟩ := g
    have h : (a == 0 && tgtIs t' t && localN ni t.names && notSet it' && chkE Γ nf it it' && chkEs Γ ni ifs ifs' && chkG Γ ni ni r r') = true := h
    simp only [Bool.and_eq_true] at h
    obtain ⟨⟨⟨⟨⟨⟨h1, h2⟩, h3⟩, h4⟩, h5⟩, h6⟩, h7⟩ := h
    exact ⟨t', it', ifs', r', by rw [show a = 0 from beq_iff_eq.mp h1], h2, h3, h4, h5, h6, h7⟩
theorem chk_g_zip {nf ni : Names} {xs : List String} {es ifs : MEs} {gs : List Comprehension} (h : chkG Γ nf ni (.zip xs es ifs) gs = true) :
    ∃ t' id q es' p ifs', gs = [⟨t', .Call (.Name id q) es' [] p, ifs', 0⟩] ∧ tgtIs t' (.tup xs) = true ∧ localN ni xs = true ∧ (nf == ni) = false ∧ gname nf id "zip" = true ∧ Γ.bi.contains "zip" = true ∧ chkEs Γ nf es es' = true ∧ chkEs Γ ni ifs ifs' = true := by
  cases gs with
  | nil => exact ff h rfl
  | cons g r' =>
    obtain ⟨t', it', ifs', a⟩ := g
    cases r' with
    | cons _ _ => exact ff h rfl
    | nil =>
      have h : (a == 0 && tgtIs t' (.tup xs) && localN ni xs && !(nf == ni) && (onCall it' fun fe es' ks _ => ks.isEmpty && onName fe fun id _ => gname nf id "zip" && Γ.bi.contains "zip" && chkEs Γ nf es es') && chkEs Γ ni ifs ifs') = true := h
      simp only [Bool.and_eq_true, Bool.not_eq_true'] at h
      obtain ⟨⟨⟨⟨⟨h1, h2⟩, h3⟩, h4⟩, h5⟩, h6⟩ := h
      obtain ⟨fe, es', ks, p, rfl, g⟩ := onCall_inv h5
      rw [Bool.and_eq_true] at g
      obtain ⟨hk, g⟩ := g
      cases nil_inv hk
      obtain ⟨id, q, rfl, g9⟩ := onName_inv g
      have g9 : (gname nf id "zip" && Γ.bi.contains "zip" && chkEs Γ nf es es') = true := g9
      simp only [Bool.and_eq_true] at g9
      exact ⟨t', id, q, es', p, ifs', by rw [show a = 0 from beq_iff_eq.mp h1], h2, h3, h4, g9.1.1, g9.1.2, g9.2, h6⟩
theorem chk_g_head {nf ni : Names} {m : MGs} {gs : List Comprehension} (h : chkG Γ nf ni m gs = true) : ∀ g', gs[0]? = some g' → g'.is_async = 0 ∧ notSet g'.iter = true := by
  intro g' hg
  cases m with
  | nil => rw [chk_g_nil h] at hg; cases hg
  | cons t it ifs r =>
    obtain ⟨t', it', ifs', r', rfl, _, _, h4, _⟩ := chk_g_cons h
    cases hg
    exact ⟨rfl, h4⟩
  | zip xs es ifs =>
    obtain ⟨t', id, q, es', p, ifs', rfl, -⟩ := chk_g_zip h
    cases hg
    exact ⟨rfl, rfl⟩
theorem relN_local {ns inner : Names} {x : Str} (h : (relN ns inner).lookup x = some .local) : inner.lookup x = some .local := by
  induction inner with
  | nil => cases h
  | cons p r ih =>
    obtain ⟨y, k⟩ := p
    unfold relN at h ih
    rw [List.map_cons] at h
    rw [List.lookup_cons]
    dsimp only at h
    split at h
    · rw [List.lookup_cons] at h
      cases hxy : (x == y) with
      | true => rw [hxy] at h; cases h
      | false => rw [hxy] at h; exact ih h
    · rw [List.lookup_cons] at h
      cases hxy : (x == y) with
      | true => rw [hxy] at h; exact h
      | false => rw [hxy] at h; exact ih h
theorem localN_of {ns : Names} {xs : List String} (h : localN ns xs = true) : ∀ y ∈ xs, ns.lookup (Str.ofString y) = some .local := fun y hy => beq_iff_eq.mp (List.all_eq_true.mp h y hy)
theorem storeN_of {env : Env} {ns : Names} {xs : List String} (hs : SC env ns) (h : storeN ns xs = true) : storable env xs := fun y hy => by
  have := List.all_eq_true.mp h y hy
  simp only [Bool.or_eq_true, beq_iff_eq] at this
  rw [hs.kindOf]; exact this
end
end Mine

namespace Mine

theorem bnd {α β : Type} {o : Option α} {f : α → Option β} {b : β} (h : o.bind f = some b) : ∃ a, o = some a ∧ f a = some b := Option.bind_eq_some_iff.mp h
theorem mapd {α β : Type} {o : Option α} {f : α → β} {b : β} (h : o.map f = some b) : ∃ a, o = some a ∧ f a = b := Option.map_eq_some_iff.mp h

noncomputable def CoreOK (prog : Program) (w : World) (hb : Heap) (C : Addr) (n : Nat) (env : Env) (ρ : Rho) (σ : Store) (elt : Expr) (gens : List Comprehension) (scope : Scope) (pos : Pos) (d : V) (σ' : Store) : Prop :=
  ∀ A s φ g E (use : Option (Value → Sem Unit)) (Q : Value → Shared → Prop) pos', Rm n A → Sim hb C φ σ g s.heap → ER hb φ g s.heap env ρ →
      (∀ (s' : Shared) φ' g' L m v f, Grow φ g s.heap φ' g' s'.heap → Sim hb C φ' σ' g' s'.heap → VR g' φ' v d → Rest s s' → L ∉ φ' → g' L = none → s.heap.get? L = none → s'.heap.Ns L m → compPost (model prog w) A E use Q v L (.ok f) s') →
      wpAny (model prog w) A (comprehension (.ListComp elt gens scope pos) scope env pos' (newList []) (firstAsync gens) (firstIter gens env) use) Q E s

section
variable {prog : Program} {w : World} {hb : Heap} {C : Addr} {n : Nat} {env : Env} {ρ : Rho} {σ σ' : Store} {elt : Expr} {gens : List Comprehension} {scope : Scope} {pos : Pos} {d : V}
theorem CoreOK.ev (h : CoreOK prog w hb C n env ρ σ elt gens scope pos d σ') : EvOK prog w hb C n env ρ σ (.ListComp elt gens scope pos) d σ' := by
  intro A s φ g E hA S R
  rw [eval_ListComp]
  refine h A s φ g E none _ _ hA S R fun s' φ' g' L m v f G' S' V' T' l1 l2 l3 hm => ?_
  exact ⟨m, hm, fun h' hs => Post.but G' S' V' T' l1 l2 l3 hs⟩
theorem CoreOK.use (h : CoreOK prog w hb C n env ρ σ elt gens scope pos d σ') : UseOK prog w hb C n env ρ σ (.ListComp elt gens scope pos) d σ' := by
  intro u A s φ g E Q hA S R hq
  show wpAny _ A (do let _ ← comprehension (.ListComp elt gens scope pos) scope env (firstIterPos gens pos) (newList []) (firstAsync gens) (firstIter gens env) (some u)) _ _ s
  refine wpAny_bind (wpAny_mono (h A s φ g E (some u) (fun _ s' => Q () s') _ hA S R fun s' φ' g' L m v f G' S' V' T' l1 l2 l3 hm => ?_) (fun _ s' hq => wpAny_pure hq) fun _ _ e => e)
  exact hq s' φ' g' L m v G' S' V' T' l1 l2 l3 hm
end

noncomputable def OpIs (isAnd : Bool) (op : BoolOp) : Prop := isAnd = (op == .And)

section
variable {prog : Program} {w : World} {hb : Heap} {K : Frag} {mg mb : Str → Option Value} {Γ : Ctx} {cfg : Cfg} {n : Nat} {O : Orc}
noncomputable def SndEv (prog : Program) (w : World) (hb : Heap) (Γ : Ctx) (cfg : Cfg) (n : Nat) (O : Orc) (m : ME) : Prop := ∀ ⦃env : Env⦄ ⦃ns : Names⦄ ⦃e : Expr⦄ ⦃ρ : Rho⦄ ⦃σ : Store⦄ ⦃d : V⦄ ⦃σ' : Store⦄, SC env ns → chkE Γ ns m e = true → evalM cfg O ρ σ m = some (d, σ') → EvOK prog w hb Γ.C n env ρ σ e d σ'
noncomputable def SndCore (prog : Program) (w : World) (hb : Heap) (Γ : Ctx) (cfg : Cfg) (n : Nat) (O : Orc) (gs : MGs) : Prop := ∀ ⦃env : Env⦄ ⦃ns : Names⦄ ⦃own : Bool⦄ ⦃elt : ME⦄ ⦃elt' : Expr⦄ ⦃gens : List Comprehension⦄ ⦃scope : Scope⦄ ⦃p : Pos⦄ ⦃ρ : Rho⦄ ⦃σ : Store⦄ ⦃d : V⦄ ⦃σ' : Store⦄, SC env ns → gens.isEmpty = false → compStatic ns scope gs.names = true → chkG Γ ns (relN ns scope.names) gs gens = true →
    (∀ env', SC env' (relN ns scope.names) → ∀ ρ σ d σ', evalM cfg O ρ σ elt = some (d, σ') → EvOK prog w hb Γ.C n env' ρ σ elt' d σ') → evalM cfg O ρ σ (.comp own elt gs) = some (d, σ') → CoreOK prog w hb Γ.C n env ρ σ elt' gens scope p d σ'
noncomputable def SndGen (prog : Program) (w : World) (hb : Heap) (Γ : Ctx) (cfg : Cfg) (n : Nat) (O : Orc) (m : MGs) : Prop := ∀ ⦃env : Env⦄ ⦃ns : Names⦄ ⦃D : Addr⦄ ⦃elt : ME⦄ ⦃elt' : Expr⦄ ⦃scope : Scope⦄ ⦃pos : Pos⦄ ⦃gens : List Comprehension⦄ ⦃j : Nat⦄, SC env ns → chkG Γ ns ns m (gens.drop j) = true →
    (∀ ρ σ d σ', evalM cfg O ρ σ elt = some (d, σ') → EvOK prog w hb Γ.C n env ρ σ elt' d σ') →
    InnerOK prog w hb Γ.C n env D (.ListComp elt' gens scope pos) elt' gens j (fun ρ acc σ => genM cfg O (fun ρ σ => evalM cfg O ρ σ elt) ρ ρ acc σ m)
noncomputable def SndOpt (prog : Program) (w : World) (hb : Heap) (Γ : Ctx) (cfg : Cfg) (n : Nat) (O : Orc) (m : MO) : Prop := ∀ ⦃env : Env⦄ ⦃ns : Names⦄ ⦃o : Option Expr⦄ ⦃ρ : Rho⦄ ⦃σ : Store⦄ ⦃d : Option V⦄ ⦃σ' : Store⦄, SC env ns → chkO Γ ns m o = true → optM cfg O ρ σ m = some (d, σ') → OptOK prog w hb Γ.C n env ρ σ o d σ'
noncomputable def SndEvs (prog : Program) (w : World) (hb : Heap) (Γ : Ctx) (cfg : Cfg) (n : Nat) (O : Orc) (m : MEs) : Prop := ∀ ⦃env : Env⦄ ⦃ns : Names⦄ ⦃es : List Expr⦄ ⦃ρ : Rho⦄ ⦃σ : Store⦄ ⦃ds : List V⦄ ⦃σ' : Store⦄, SC env ns → chkEs Γ ns m es = true → evalsM cfg O ρ σ m = some (ds, σ') → EvsOK prog w hb Γ.C n env ρ σ es ds σ'
noncomputable def SndEvk (prog : Program) (w : World) (hb : Heap) (Γ : Ctx) (cfg : Cfg) (n : Nat) (O : Orc) (m : MKs) : Prop := ∀ ⦃env : Env⦄ ⦃ns : Names⦄ ⦃ks : List Keyword⦄ ⦃ρ : Rho⦄ ⦃σ : Store⦄ ⦃ds : List (String × V)⦄ ⦃σ' : Store⦄, SC env ns → chkKs Γ ns m ks = true → evalKM cfg O ρ σ m = some (ds, σ') → EvKOK prog w hb Γ.C n env ρ σ ks ds σ' ∧ kwIs ks ds
noncomputable def SndIfs (prog : Program) (w : World) (hb : Heap) (Γ : Ctx) (cfg : Cfg) (n : Nat) (O : Orc) (m : MEs) : Prop := ∀ ⦃env : Env⦄ ⦃ns : Names⦄ ⦃es : List Expr⦄ ⦃ρ : Rho⦄ ⦃σ : Store⦄ ⦃b : Bool⦄ ⦃σ' : Store⦄, SC env ns → chkEs Γ ns m es = true → ifsM cfg O ρ σ m = some (b, σ') → IfsOK prog w hb Γ.C n env ρ σ es b σ'
noncomputable def SndBool (prog : Program) (w : World) (hb : Heap) (Γ : Ctx) (cfg : Cfg) (n : Nat) (O : Orc) (m : MEs) : Prop := ∀ ⦃env : Env⦄ ⦃ns : Names⦄ ⦃es : List Expr⦄ ⦃ρ : Rho⦄ ⦃σ : Store⦄ ⦃d : V⦄ ⦃σ' : Store⦄ ⦃op : BoolOp⦄ ⦃isAnd : Bool⦄, OpIs isAnd op → SC env ns → chkEs Γ ns m es = true → boolM cfg O ρ σ isAnd m = some (d, σ') → BoolOK prog w hb Γ.C n env ρ σ op es d σ'
noncomputable def SndTest (prog : Program) (w : World) (hb : Heap) (Γ : Ctx) (cfg : Cfg) (n : Nat) (O : Orc) (m : ME) : Prop := ∀ ⦃env : Env⦄ ⦃ns : Names⦄ ⦃e : Expr⦄ ⦃ρ : Rho⦄ ⦃σ : Store⦄ ⦃b : Bool⦄ ⦃σ' : Store⦄, SC env ns → chkE Γ ns m e = true → testM cfg O ρ σ m = some (b, σ') → TestOK prog w hb Γ.C n env ρ σ e b σ'
noncomputable def SndAll (prog : Program) (w : World) (hb : Heap) (Γ : Ctx) (cfg : Cfg) (n : Nat) (O : Orc) (m : MEs) : Prop := ∀ ⦃env : Env⦄ ⦃ns : Names⦄ ⦃es : List Expr⦄ ⦃ρ : Rho⦄ ⦃σ : Store⦄ ⦃b : Bool⦄ ⦃σ' : Store⦄ ⦃op : BoolOp⦄ ⦃isAnd : Bool⦄, OpIs isAnd op → SC env ns → chkEs Γ ns m es = true → allM cfg O ρ σ isAnd m = some (b, σ') → AllOK prog w hb Γ.C n env ρ σ op es b σ'
mutual
theorem ev_sound (H : Gnd prog w hb K mg mb Γ cfg n O) : ∀ (m : ME), SndEv prog w hb Γ cfg n O m
  | .none => by intro env ns e ρ σ d σ' hs hc he; obtain ⟨k, p, rfl⟩ := chk_none hc; cases (show some _ = some _ from he); exact none_ok k p
  | .bool b => by intro env ns e ρ σ d σ' hs hc he; obtain ⟨k, p, rfl⟩ := chk_bool hc; cases (show some _ = some _ from he); exact bool_ok b k p
  | .int b => by intro env ns e ρ σ d σ' hs hc he; obtain ⟨k, p, rfl⟩ := chk_int hc; cases (show some _ = some _ from he); exact int_ok b k p
  | .str b => by intro env ns e ρ σ d σ' hs hc he; obtain ⟨k, p, rfl⟩ := chk_str hc; cases (show some _ = some _ from he); exact str_ok b k p
  | .var x => by
    intro env ns e ρ σ d σ' hs hc he; obtain ⟨p, rfl, h1, h2⟩ := chk_var hc
    obtain ⟨v, h3, h4⟩ := mapd he
    cases h4
    exact var_ok h3 (by rw [hs.kindOf]; exact h1) h2
  | .glob x a => by
    intro env ns e ρ σ d σ' hs hc he; obtain ⟨id, p, rfl, h1, h2⟩ := chk_glob hc
    obtain ⟨rfl, h3, h4⟩ := gname_of h1
    cases (show some _ = some _ from he)
    exact glob_ok H.g (by rw [hs.kindOf]; exact h3) (H.gl x a h2) h4 fun g φ => .gl a
  | .tyn x => by
    intro env ns e ρ σ d σ' hs hc he; obtain ⟨id, p, rfl, h1, h2⟩ := chk_tyn hc
    obtain ⟨rfl, h3, h4⟩ := gname_of h1
    cases (show some _ = some _ from he)
    exact blt_ok H.g H.b (by rw [hs.kindOf]; exact h3) (H.ty x h2).1 (H.ty x h2).2 h4 fun g φ => .ty x
  | .dbg => by intro env ns e ρ σ d σ' hs hc he; obtain ⟨p, rfl⟩ := chk_dbg hc; cases (show some _ = some _ from he); exact dbg_ok
  | .tuple es => by
    intro env ns e ρ σ d σ' hs hc he; obtain ⟨es', k, p, rfl, h1⟩ := chk_tuple hc
    obtain ⟨⟨vs, σ₁⟩, h2, h3⟩ := bnd he
    dsimp only at h3
    split at h3
    · rename_i hl; cases h3; exact tuple_ok (evs_sound H es hs h1 h2) hl
    · cases h3
  | .list own es => by
    intro env ns e ρ σ d σ' hs hc he; obtain ⟨es', p, rfl, h1⟩ := chk_list hc
    obtain ⟨⟨vs, σ₁⟩, h2, h3⟩ := bnd he
    exact list_ok (evs_sound H es hs h1 h2) h3
  | .bin op a b => by
    intro env ns e ρ σ d σ' hs hc he; obtain ⟨a', b', p, rfl, h1, h2⟩ := chk_bin hc
    obtain ⟨⟨x, σ₁⟩, h3, h4⟩ := bnd he
    obtain ⟨⟨y, σ₂⟩, h5, h6⟩ := bnd h4
    obtain ⟨v, h7, h8⟩ := mapd h6
    cases h8
    exact bin_ok (ev_sound H a hs h1 h3) (ev_sound H b hs h2 h5) fun A s φ g E v u hA S hv hu => bin_op h7 S hv hu
  | .neg a => by
    intro env ns e ρ σ d σ' hs hc he; obtain ⟨a', p, rfl, h1⟩ := chk_neg hc
    obtain ⟨⟨x, σ₁⟩, h3, h4⟩ := bnd he
    obtain ⟨i, rfl, h5⟩ := intK_inv h4
    cases h5; exact neg_ok (ev_sound H a hs h1 h3)
  | .not a => by
    intro env ns e ρ σ d σ' hs hc he; obtain ⟨a', p, rfl, h1⟩ := chk_not hc
    obtain ⟨⟨x, σ₁⟩, h3, h4⟩ := bnd he
    obtain ⟨v, h7, h8⟩ := mapd h4
    cases h8
    exact not_ok (ev_sound H a hs h1 h3) h7
  | .and es => by
    intro env ns e ρ σ d σ' hs hc he; obtain ⟨es', p, rfl, h1⟩ := chk_and hc
    exact boolop_ok (bool_sound H es (op := .And) (isAnd := true) rfl hs h1 he)
  | .or es => by
    intro env ns e ρ σ d σ' hs hc he; obtain ⟨es', p, rfl, h1⟩ := chk_or hc
    exact boolop_ok (bool_sound H es (op := .Or) (isAnd := false) rfl hs h1 he)
  | .ife c a b => by
    intro env ns e ρ σ d σ' hs hc he; obtain ⟨c', a', b', p, rfl, h1, h2, h3⟩ := chk_ife hc
    obtain ⟨⟨t, σ₁⟩, h4, h5⟩ := bnd he
    refine ife_ok (test_sound H c hs h1 h4) ?_
    dsimp only at h5
    cases t with
    | true => exact ev_sound H a hs h2 h5
    | false => exact ev_sound H b hs h3 h5
  | .cmp op a b => by
    intro env ns e ρ σ d σ' hs hc he; obtain ⟨a', b', p, rfl, h0, h1, h2⟩ := chk_cmp hc
    obtain ⟨⟨x, σ₁⟩, h3, h4⟩ := bnd he
    obtain ⟨⟨y, σ₂⟩, h5, h6⟩ := bnd h4
    obtain ⟨v, h7, h8⟩ := mapd h6
    cases h8
    exact cmp_ok (ev_sound H a hs h1 h3) (ev_sound H b hs h2 h5) h0 fun A s φ g E v u hA S hv hu => cmp_op h7 hA S hv hu
  | .idx a i => by
    intro env ns e ρ σ d σ' hs hc he; obtain ⟨a', i', p, rfl, h0, h1, h2⟩ := chk_idx hc
    obtain ⟨⟨x, σ₁⟩, h3, h4⟩ := bnd he
    obtain ⟨⟨y, σ₂⟩, h5, h6⟩ := bnd h4
    obtain ⟨v, h7, h8⟩ := mapd h6
    cases h8
    exact sub_ok (ev_sound H a hs h1 h3) (ev_sound H i hs h2 h5) fun A s φ g E v u hA S hv hu => idx_op h0 h7 S hv hu
  | .slice own a lo hi st => by
    intro env ns e ρ σ d σ' hs hc he; obtain ⟨a', lo', hi', st', q, p, rfl, h0, h1, h2, h3⟩ := chk_slice hc
    obtain ⟨⟨x, σ₁⟩, k1, he⟩ := bnd he
    obtain ⟨⟨l, σ₂⟩, k2, he⟩ := bnd he
    obtain ⟨⟨h, σ₃⟩, k3, he⟩ := bnd he
    obtain ⟨⟨t, σ₄⟩, k4, he⟩ := bnd he
    obtain ⟨l', k5, he⟩ := bnd he
    obtain ⟨h', k6, he⟩ := bnd he
    obtain ⟨t', k7, he⟩ := bnd he
    exact slice_ok (ev_sound H a hs h0 k1) (opt_sound H lo hs h1 k2) (opt_sound H hi hs h2 k3) (opt_sound H st hs h3 k4) k5 k6 k7 he
  | .call f es => by
    intro env ns e ρ σ d σ' hs hc he; obtain ⟨id, q, es', p, a, rfl, h0, h1, h2, h3⟩ := chk_call hc
    obtain ⟨rfl, h4, h5⟩ := gname_of h0
    obtain ⟨⟨vs, σ₁⟩, k1, k2⟩ := bnd he
    exact call_ok H.orc H.fns h1 (glob_ok H.g (by rw [hs.kindOf]; exact h4) (H.gl f a h2) h5 fun g φ => .gl a) (evs_sound H es hs h3 k1) (chk_stars h3) k2
  | .meth o m es ks => by
    intro env ns e ρ σ d σ' hs hc he; obtain ⟨o', ap, es', ks', p, a, rfl, h0, h1, h2, h3, h4, h5, h6⟩ := chk_meth hc
    obtain ⟨⟨x, σ₁⟩, k1, he⟩ := bnd he
    obtain ⟨k, rfl, he1⟩ := ownK_inv he
    split at he1
    · rename_i hi
      obtain ⟨⟨vs, σ₂⟩, k2, he2⟩ := bnd he1
      obtain ⟨⟨kv, σ₃⟩, k3, he3⟩ := bnd he2
      obtain ⟨z1, z2⟩ := evk_sound H ks hs h6 k3
      exact meth_ok H.cls H.orc H.fns h3 h0 (chk_stars h5) h1 h2 (ev_sound H o hs h4 k1) hi (evs_sound H es hs h5 k2) z1 z2 he3
    · cases he1
  | .new es => by
    intro env ns e ρ σ d σ' hs hc he; obtain ⟨id, q, es', p, a, rfl, h0, h1, h2, h3⟩ := chk_new hc
    obtain ⟨rfl, h4, h5⟩ := gname_of h0
    obtain ⟨⟨vs, σ₁⟩, k1, he⟩ := bnd he
    obtain ⟨⟨r, τ⟩, k2, he⟩ := bnd he
    dsimp only at he
    split at he
    · rename_i hr
      cases none_of hr
      cases he
      exact new_ok H.cls H.orc h2 (glob_ok H.g (by rw [hs.kindOf]; exact h4) (H.gl _ _ h1) h5 fun g φ => .gl _) (evs_sound H es hs h3 k1) (chk_stars h3) k2 H.keep
    · cases he
  | .bi f es => by
    intro env ns e ρ σ d σ' hs hc he; obtain ⟨id, q, es', p, rfl, h0, h1, h3⟩ := chk_bi hc
    obtain ⟨rfl, h4, h5⟩ := gname_of h0
    obtain ⟨⟨vs, σ₁⟩, k1, he⟩ := bnd he
    exact bi_ok H.g H.b (by rw [hs.kindOf]; exact h4) (H.bi f h1).1 (H.bi f h1).2 h5 (evs_sound H es hs h3 k1) (chk_stars h3) he
  | .sm o m es => by
    intro env ns e ρ σ d σ' hs hc he; obtain ⟨o', ap, es', p, rfl, h0, h1, h2, h4, h5⟩ := chk_sm hc
    obtain ⟨⟨x, σ₁⟩, k1, he⟩ := bnd he
    obtain ⟨id, k2, he⟩ := bnd he
    obtain ⟨⟨vs, σ₂⟩, k3, he⟩ := bnd he
    exact sm_ok H.pats h0 (chk_stars h5) h1 h2 (ev_sound H o hs h4 k1) (evs_sound H es hs h5 k3) k2 he
  | .attr o => by
    intro env ns e ρ σ d σ' hs hc he; obtain ⟨o', p, rfl, h0, h1⟩ := chk_attr hc
    obtain ⟨⟨x, σ₁⟩, k1, he⟩ := bnd he
    obtain ⟨k, rfl, he1⟩ := ownK_inv he
    obtain ⟨dk, q, he2⟩ := instK_inv he1
    obtain ⟨v, q2, he3⟩ := attrsK_inv he2
    obtain ⟨v, rfl, he4⟩ := mapd he3
    cases he4
    exact attr_ok H.cls h0 (ev_sound H o hs h1 k1) q q2
  | .comp own elt gs => by
    intro env ns e ρ σ d σ' hs hc he; obtain ⟨elt', gens, scope, p, rfl, h0, h1, h2, h3⟩ := chk_comp hc
    exact (core_sound H gs (own := own) (elt := elt) hs h0 h1 h2 (fun env' he' ρ σ d σ' hel => ev_sound H elt he' h3 hel) he).ev
theorem core_sound (H : Gnd prog w hb K mg mb Γ cfg n O) : ∀ (gs : MGs), SndCore prog w hb Γ cfg n O gs
  | .nil => by intro env ns own elt elt' gens scope p ρ σ d σ' hs h0 h1 h2 hel he; rw [chk_g_nil h2] at h0; cases h0
  | .cons t it ifs r => by
    intro env ns own elt elt' gens scope p ρ σ d σ' hs h0 h1 h2 hel he
    obtain ⟨t', it', ifs', r', rfl, g1, g2, g3, g4, g5, g6⟩ := chk_g_cons h2
    obtain ⟨⟨ρ₂, acc, σ₂⟩, k1, he⟩ := bnd he
    obtain ⟨⟨x, σ₁⟩, k2, k1⟩ := bnd k1
    obtain ⟨vs, k3, k1⟩ := bnd k1
    have Z := comp_scope hs h1
    intro A s φ g E use Q pos' hA S R hq
    exact comp_core (mm := fun ρ acc σ => genM cfg O (fun ρ σ => evalM cfg O ρ σ elt) ρ ρ acc σ r) (fi := fun ρ σ => ifsM cfg O ρ σ ifs) Z (chk_g_head g6) g1 g3 (fun y hy => relN_local (localN_of g2 y hy)) (ev_sound H it hs g4 k2) k3
      (fun L cl ρ σ b σ' hf => ifs_sound H ifs (hs.comp Z.kind) g5 hf)
      (fun L cl D => gen_sound H r (env := compEnvC scope cl L env) (hs.comp Z.kind) (gens := ⟨t', it', ifs', 0⟩ :: r') (j := 1) g6 (hel _ (hs.comp Z.kind)))
      k1 he hA S R hq
  | .zip xs es ifs => by
    intro env ns own elt elt' gens scope p ρ σ d σ' hs h0 h1 h2 hel he
    obtain ⟨t', id, q, es', cp, ifs', rfl, g1, g2, -, g4, g5, g6, g7⟩ := chk_g_zip h2
    obtain ⟨rfl, h4, h5⟩ := gname_of g4
    obtain ⟨⟨ρ₂, acc, σ₂⟩, k1, he⟩ := bnd he
    obtain ⟨⟨xy, σ₁⟩, k2, k1⟩ := bnd k1
    obtain ⟨vs, k3, k1⟩ := bnd k1
    have Z := comp_scope hs h1
    intro A s φ g E use Q pos' hA S R hq
    obtain ⟨u1, u2, rfl, k4⟩ := two2_inv k3
    obtain ⟨us, rfl, k5⟩ := listK_inv k4
    obtain ⟨ws, rfl, k6⟩ := listK_inv k5
    · cases k6
      exact zip_core (mm := fun ρ acc σ => (evalM cfg O ρ σ elt).bind fun (v, σ) => if acc.length ≤ 1000 then some (ρ, acc ++ [v], σ) else none) (fi := fun ρ σ => ifsM cfg O ρ σ ifs) H.g H.b (by rw [hs.kindOf]; exact h4) (H.bi "zip" g5).1 (H.bi "zip" g5).2 Z g1 (fun y hy => relN_local (localN_of g2 y hy)) (evs_sound H es hs g6 k2) (chk_stars g6)
        (fun L cl ρ σ b σ' hf => ifs_sound H ifs (hs.comp Z.kind) g7 hf)
        (fun L cl D => inner_end rfl (hel _ (hs.comp Z.kind)))
        k1 he hA S R hq
theorem gen_sound (H : Gnd prog w hb K mg mb Γ cfg n O) : ∀ (m : MGs), SndGen prog w hb Γ cfg n O m
  | .nil => by
    intro env ns D elt elt' scope pos gens j hs hc hel
    have hg : gens[j]? = none := by rw [← Nat.add_zero j, ← List.getElem?_drop, chk_g_nil hc]; rfl
    exact inner_end (el := fun ρ σ => evalM cfg O ρ σ elt) hg hel
  | .cons t it ifs r => by
    intro env ns D elt elt' scope pos gens j hs hc hel
    obtain ⟨t', it', ifs', r', hg, g1, g2, g3, g4, g5, g6⟩ := chk_g_cons hc
    have hj : gens[j]? = some ⟨t', it', ifs', 0⟩ := by rw [← Nat.add_zero j, ← List.getElem?_drop, hg]; rfl
    have hr : gens.drop (j + 1) = r' := by rw [← List.drop_drop, hg]; rfl
    have hs' : ∀ g', gens[j + 1]? = some g' → g'.is_async = 0 ∧ notSet g'.iter = true := fun g' e => chk_g_head g6 g' (by rw [← hr, List.getElem?_drop, Nat.add_zero]; exact e)
    exact inner_more (ev := fun ρ σ => evalM cfg O ρ σ it) (fi := fun ρ σ => ifsM cfg O ρ σ ifs) (mm := fun ρ acc σ => genM cfg O (fun ρ σ => evalM cfg O ρ σ elt) ρ ρ acc σ r) hj hs' g1 (fun y hy => by rw [hs.kindOf]; exact localN_of g2 y hy)
      (fun ρ σ d σ' he => ev_sound H it hs g4 he) (fun ρ σ b σ' he => ifs_sound H ifs hs g5 he) (gen_sound H r hs (by rw [hr]; exact g6) hel)
  | .zip xs es ifs => by
    intro env ns D elt elt' scope pos gens j hs hc hel
    obtain ⟨-, -, -, -, -, -, -, -, -, g3, -⟩ := chk_g_zip hc
    exact absurd g3 (by simp)
theorem opt_sound (H : Gnd prog w hb K mg mb Γ cfg n O) : ∀ (m : MO), SndOpt prog w hb Γ cfg n O m
  | .no => by
    intro env ns o ρ σ d σ' hs hc he
    rw [chk_o_no hc]; cases (show some _ = some _ from he); exact rfl
  | .yes e => by
    intro env ns o ρ σ d σ' hs hc he
    obtain ⟨e', rfl, h1⟩ := chk_o_yes hc
    obtain ⟨⟨v, σ₁⟩, k1, k2⟩ := bnd he
    cases k2
    exact ev_sound H e hs h1 k1
theorem evs_sound (H : Gnd prog w hb K mg mb Γ cfg n O) : ∀ (m : MEs), SndEvs prog w hb Γ cfg n O m
  | .nil => by
    intro env ns es ρ σ ds σ' hs hc he
    rw [chk_es_nil hc]; cases (show some _ = some _ from he); exact evs_nil
  | .cons e r => by
    intro env ns es ρ σ ds σ' hs hc he
    obtain ⟨e', r', rfl, h1, h2, h3⟩ := chk_es_cons hc
    obtain ⟨⟨v, σ₁⟩, k1, he⟩ := bnd he
    obtain ⟨⟨vs, σ₂⟩, k2, he⟩ := bnd he
    cases he
    exact evs_cons (notStar_ne h1) (ev_sound H e hs h2 k1) (evs_sound H r hs h3 k2)
theorem evk_sound (H : Gnd prog w hb K mg mb Γ cfg n O) : ∀ (m : MKs), SndEvk prog w hb Γ cfg n O m
  | .nil => by
    intro env ns es ρ σ ds σ' hs hc he
    rw [chk_ks_nil hc]; cases (show some _ = some _ from he); exact ⟨evk_nil, rfl⟩
  | .cons k e r => by
    intro env ns es ρ σ ds σ' hs hc he
    obtain ⟨e', p, r', rfl, h2, h3⟩ := chk_ks_cons hc
    obtain ⟨⟨v, σ₁⟩, k1, he⟩ := bnd he
    obtain ⟨⟨vs, σ₂⟩, k2, he⟩ := bnd he
    cases he
    obtain ⟨z1, z2⟩ := evk_sound H r hs h3 k2
    refine ⟨evk_cons (ev_sound H e hs h2 k1) z1, ?_⟩
    unfold kwIs kwNames at z2 ⊢
    rw [List.map_cons, List.map_cons, z2]
theorem ifs_sound (H : Gnd prog w hb K mg mb Γ cfg n O) : ∀ (m : MEs), SndIfs prog w hb Γ cfg n O m
  | .nil => by
    intro env ns es ρ σ ds σ' hs hc he
    rw [chk_es_nil hc]; cases (show some _ = some _ from he); exact ifs_nil
  | .cons e r => by
    intro env ns es ρ σ ds σ' hs hc he
    obtain ⟨e', r', rfl, h1, h2, h3⟩ := chk_es_cons hc
    obtain ⟨⟨t, σ₁⟩, k1, he⟩ := bnd he
    dsimp only at he
    cases t with
    | true => exact ifs_go (test_sound H e hs h2 k1) (ifs_sound H r hs h3 he)
    | false => cases he; exact ifs_stop (test_sound H e hs h2 k1)
theorem bool_sound (H : Gnd prog w hb K mg mb Γ cfg n O) : ∀ (m : MEs), SndBool prog w hb Γ cfg n O m
  | .nil => by
    intro env ns es ρ σ d σ' op isAnd ho hs hc he
    cases (show none = some _ from he)
  | .cons e .nil => by
    intro env ns es ρ σ d σ' op isAnd ho hs hc he
    obtain ⟨e', r', rfl, h1, h2, h3⟩ := chk_es_cons hc
    rw [chk_es_nil h3]
    exact bool_one (ev_sound H e hs h2 he)
  | .cons e (.cons e2 r) => by
    intro env ns es ρ σ d σ' op isAnd ho hs hc he
    obtain ⟨e', r', rfl, h1, h2, h3⟩ := chk_es_cons hc
    obtain ⟨e'', r'', rfl, -⟩ := chk_es_cons h3
    have he : ((evalM cfg O ρ σ e).bind fun (v, σ) => (truthV σ v).bind fun t => if t = isAnd then boolM cfg O ρ σ isAnd (.cons e2 r) else some (v, σ)) = some (d, σ') := he
    obtain ⟨⟨v, σ₁⟩, k1, he⟩ := bnd he
    obtain ⟨t, k2, he⟩ := bnd he
    try dsimp only at he
    split at he
    · rename_i ht
      rw [ht, ho] at k2
      exact bool_go (ev_sound H e hs h2 k1) k2 (bool_sound H (.cons e2 r) ho hs h3 he)
    · rename_i ht
      have : t = !(op == .And) := by rw [← show isAnd = (op == .And) from ho]; cases t <;> cases isAnd <;> first | rfl | exact absurd rfl ht
      cases he
      rw [this] at k2
      exact bool_stop (ev_sound H e hs h2 k1) k2
theorem test_sound (H : Gnd prog w hb K mg mb Γ cfg n O) : ∀ (m : ME), SndTest prog w hb Γ cfg n O m
  | .not a => by
    intro env ns e ρ σ b σ' hs hc he; obtain ⟨a', p, rfl, h1⟩ := chk_not hc
    obtain ⟨⟨x, σ₁⟩, h3, h4⟩ := bnd he
    cases h4
    exact test_not (test_sound H a hs h1 h3)
  | .and es => by
    intro env ns e ρ σ d σ' hs hc he; obtain ⟨es', p, rfl, h1⟩ := chk_and hc
    exact test_bool (all_sound H es (op := .And) (isAnd := true) rfl hs h1 he)
  | .or es => by
    intro env ns e ρ σ d σ' hs hc he; obtain ⟨es', p, rfl, h1⟩ := chk_or hc
    exact test_bool (all_sound H es (op := .Or) (isAnd := false) rfl hs h1 he)
  | .ife c a b => by
    intro env ns e ρ σ d σ' hs hc he; obtain ⟨c', a', b', p, rfl, h1, h2, h3⟩ := chk_ife hc
    obtain ⟨⟨t, σ₁⟩, h4, h5⟩ := bnd he
    refine test_ife (test_sound H c hs h1 h4) ?_
    dsimp only at h5
    cases t with
    | true => exact test_sound H a hs h2 h5
    | false => exact test_sound H b hs h3 h5
  | .none => by
    intro env ns e ρ σ d σ' hs hc he; obtain ⟨k, p, rfl⟩ := chk_none hc
    cases (show some _ = some _ from he)
    exact test_plain rfl (none_ok k p) rfl
  | .bool b => by
    intro env ns e ρ σ d σ' hs hc he; obtain ⟨k, p, rfl⟩ := chk_bool hc
    cases (show some _ = some _ from he)
    exact test_plain rfl (bool_ok b k p) rfl
  | .dbg => by
    intro env ns e ρ σ d σ' hs hc he; obtain ⟨p, rfl⟩ := chk_dbg hc
    cases (show some _ = some _ from he)
    exact test_plain rfl dbg_ok rfl
  | .var x => by
    intro env ns e ρ σ d σ' hs hc he; obtain ⟨p, rfl, h1, h2⟩ := chk_var hc
    obtain ⟨v, h3, h4⟩ := bnd he
    obtain ⟨t, h5, h6⟩ := mapd h4
    cases h6
    exact test_plain rfl (var_ok h3 (by rw [hs.kindOf]; exact h1) h2) h5
  | .cmp op a b => by
    intro env ns e ρ σ d σ' hs hc he; obtain ⟨a', b', p, rfl, h0, h1, h2⟩ := chk_cmp hc
    obtain ⟨⟨x, σ₁⟩, h3, h4⟩ := bnd he
    obtain ⟨⟨y, σ₂⟩, h5, h6⟩ := bnd h4
    obtain ⟨v, h7, h8⟩ := bnd h6
    obtain ⟨t, h9, h10⟩ := mapd h8
    cases h10
    exact test_cmp (ev_sound H a hs h1 h3) (ev_sound H b hs h2 h5) h0 (fun A s φ g E v u hA S hv hu => cmp_op h7 hA S hv hu) h9
  | .sm o m es => by
    intro env ns e ρ σ d σ' hs hc he; obtain ⟨o', ap, es', p, rfl, h0, h1, h2, h4, h5⟩ := chk_sm hc
    obtain ⟨⟨x, σ₁⟩, k1, he⟩ := bnd he
    obtain ⟨id, k2, he⟩ := bnd he
    obtain ⟨⟨vs, σ₂⟩, k3, he⟩ := bnd he
    obtain ⟨⟨v, σ₃⟩, k4, he⟩ := bnd he
    obtain ⟨t, h9, h10⟩ := mapd he
    cases h10
    exact test_plain rfl (sm_ok H.pats h0 (chk_stars h5) h1 h2 (ev_sound H o hs h4 k1) (evs_sound H es hs h5 k3) k2 k4) h9
  | .int _ => by intro env ns e ρ σ d σ' hs hc he; cases (show none = some _ from he)
  | .str _ => by intro env ns e ρ σ d σ' hs hc he; cases (show none = some _ from he)
  | .glob _ _ => by intro env ns e ρ σ d σ' hs hc he; cases (show none = some _ from he)
  | .tyn _ => by intro env ns e ρ σ d σ' hs hc he; cases (show none = some _ from he)
  | .tuple _ => by intro env ns e ρ σ d σ' hs hc he; cases (show none = some _ from he)
  | .list _ _ => by intro env ns e ρ σ d σ' hs hc he; cases (show none = some _ from he)
  | .bin _ _ _ => by intro env ns e ρ σ d σ' hs hc he; cases (show none = some _ from he)
  | .neg _ => by intro env ns e ρ σ d σ' hs hc he; cases (show none = some _ from he)
  | .idx _ _ => by intro env ns e ρ σ d σ' hs hc he; cases (show none = some _ from he)
  | .slice _ _ _ _ _ => by intro env ns e ρ σ d σ' hs hc he; cases (show none = some _ from he)
  | .call _ _ => by intro env ns e ρ σ d σ' hs hc he; cases (show none = some _ from he)
  | .meth _ _ _ _ => by intro env ns e ρ σ d σ' hs hc he; cases (show none = some _ from he)
  | .new _ => by intro env ns e ρ σ d σ' hs hc he; cases (show none = some _ from he)
  | .bi _ _ => by intro env ns e ρ σ d σ' hs hc he; cases (show none = some _ from he)
  | .attr _ => by intro env ns e ρ σ d σ' hs hc he; cases (show none = some _ from he)
  | .comp _ _ _ => by intro env ns e ρ σ d σ' hs hc he; cases (show none = some _ from he)
theorem all_sound (H : Gnd prog w hb K mg mb Γ cfg n O) : ∀ (m : MEs), SndAll prog w hb Γ cfg n O m
  | .nil => by
    intro env ns es ρ σ b σ' op isAnd ho hs hc he
    rw [chk_es_nil hc]; cases (show some _ = some _ from he)
    rw [show b = (op == .And) from ho]; exact all_nil
  | .cons e r => by
    intro env ns es ρ σ b σ' op isAnd ho hs hc he
    obtain ⟨e', r', rfl, h1, h2, h3⟩ := chk_es_cons hc
    obtain ⟨⟨t, σ₁⟩, k1, he⟩ := bnd he
    dsimp only at he
    split at he
    · rename_i ht
      rw [ht, show isAnd = (op == .And) from ho] at k1
      exact all_go (test_sound H e hs h2 k1) (all_sound H r ho hs h3 he)
    · rename_i ht
      have : t = !(op == .And) := by rw [← show isAnd = (op == .And) from ho]; cases t <;> cases isAnd <;> first | rfl | exact absurd rfl ht
      cases he
      rw [this] at k1 ⊢
      exact all_stop (test_sound H e hs h2 k1)
end
end
end Mine

namespace Mine

section
variable {Γ : Ctx} {ns : Names} {e : Stmt}
theorem chs_assign {t : MT} {m : ME} (h : chkS Γ ns (.assign t m) e = true) : ∃ t' e' p, e = .Assign [t'] e' p ∧ tgtIs t' t = true ∧ notPair t' e' = true ∧ storeN ns t.names = true ∧ chkE Γ ns m e' = true ∧ (notComp e' || t.isOne) = true := by
  obtain ⟨ts, e', p, rfl, g⟩ := onAssign_inv (f := fun ts e' _ => one ts fun t' => tgtIs t' t && notPair t' e' && storeN ns t.names && chkE Γ ns m e' && (notComp e' || t.isOne)) h
  replace h := g
  obtain ⟨t', rfl, g1⟩ := one_inv h
  replace h := g1
  simp only [Bool.and_eq_true] at h
  exact ⟨t', e', p, rfl, h.1.1.1.1, h.1.1.1.2, h.1.1.2, h.1.2, h.2⟩
theorem chs_setitem {o i m : ME} (h : chkS Γ ns (.setitem o i m) e = true) : ∃ o' i' q e' p a, e = .Assign [.Subscript o' i' q] e' p ∧ Γ.fa.lookup "Headers.__setitem__" = some a ∧ chkE Γ ns o o' = true ∧ chkE Γ ns i i' = true ∧ chkE Γ ns m e' = true := by
  obtain ⟨ts, e', p, rfl, g⟩ := onAssign_inv (f := fun ts e' _ => one ts fun t' => onSub t' fun o' i' _ => (Γ.fa.lookup "Headers.__setitem__").isSome && chkE Γ ns o o' && chkE Γ ns i i' && chkE Γ ns m e') h
  replace h := g
  obtain ⟨t', rfl, g2⟩ := one_inv h
  replace h := g2
  obtain ⟨o', i', q, rfl, g3⟩ := onSub_inv h
  replace h := g3
  simp only [Bool.and_eq_true] at h
  obtain ⟨a, ha⟩ := Option.isSome_iff_exists.mp h.1.1.1
  exact ⟨o', i', q, e', p, a, rfl, ha, h.1.1.2, h.1.2, h.2⟩
theorem chs_setall {o m : ME} (h : chkS Γ ns (.setall o m) e = true) : ∃ o' r q e' p, e = .Assign [.Subscript o' (.Slice none none none r) q] e' p ∧ chkE Γ ns o o' = true ∧ chkE Γ ns m e' = true := by
  obtain ⟨ts, e', p, rfl, g⟩ := onAssign_inv (f := fun ts e' _ => one ts fun t' => onSub t' fun o' i' _ => onSlice i' fun lo hi st _ => lo.isNone && hi.isNone && st.isNone && chkE Γ ns o o' && chkE Γ ns m e') h
  replace h := g
  obtain ⟨t', rfl, g4⟩ := one_inv h
  replace h := g4
  obtain ⟨o', i', q, rfl, g5⟩ := onSub_inv h
  replace h := g5
  obtain ⟨lo, hi, st, r, rfl, g6⟩ := onSlice_inv h
  replace h := g6
  simp only [Bool.and_eq_true, Option.isNone_iff_eq_none] at h
  obtain ⟨⟨⟨⟨rfl, rfl⟩, rfl⟩, h1⟩, h2⟩ := h
  exact ⟨o', r, q, e', p, rfl, h1, h2⟩
theorem chs_setattr {o m : ME} (h : chkS Γ ns (.setattr o m) e = true) : ∃ o' q e' p, e = .Assign [.Attribute o' "_headers" q] e' p ∧ chkE Γ ns o o' = true ∧ chkE Γ ns m e' = true := by
  obtain ⟨ts, e', p, rfl, g⟩ := onAssign_inv (f := fun ts e' _ => one ts fun t' => onAttr t' fun o' at' _ => at' == Str.ofString "_headers" && chkE Γ ns o o' && chkE Γ ns m e') h
  replace h := g
  obtain ⟨t', rfl, g7⟩ := one_inv h
  replace h := g7
  obtain ⟨o', at', q, rfl, g8⟩ := onAttr_inv h
  replace h := g8
  simp only [Bool.and_eq_true] at h
  exact ⟨o', q, e', p, by rw [show at' = _ from beq_iff_eq.mp h.1.1], h.1.2, h.2⟩
theorem chs_del {o i : ME} (h : chkS Γ ns (.del o i) e = true) : ∃ o' i' q p a, e = .Delete [.Subscript o' i' q] p ∧ Γ.fa.lookup "Headers.__delitem__" = some a ∧ chkE Γ ns o o' = true ∧ chkE Γ ns i i' = true := by
  obtain ⟨ts, p, rfl, g⟩ := onDelete_inv (f := fun ts _ => one ts fun t' => onSub t' fun o' i' _ => (Γ.fa.lookup "Headers.__delitem__").isSome && chkE Γ ns o o' && chkE Γ ns i i') h
  replace h := g
  obtain ⟨t', rfl, g9⟩ := one_inv h
  replace h := g9
  obtain ⟨o', i', q, rfl, g10⟩ := onSub_inv h
  replace h := g10
  simp only [Bool.and_eq_true] at h
  obtain ⟨a, ha⟩ := Option.isSome_iff_exists.mp h.1.1
  exact ⟨o', i', q, p, a, rfl, ha, h.1.2, h.2⟩
theorem chs_expr {m : ME} (h : chkS Γ ns (.expr m) e = true) : ∃ e' p, e = .Expr e' p ∧ notComp e' = true ∧ chkE Γ ns m e' = true := by
  obtain ⟨e', p, rfl, g⟩ := onExpr_inv (f := fun e' _ => notComp e' && chkE Γ ns m e') h
  replace h := g
  simp only [Bool.and_eq_true] at h
  exact ⟨e', p, rfl, h.1, h.2⟩
theorem chs_ite {c : ME} {a b : MSs} (h : chkS Γ ns (.ite c a b) e = true) : ∃ c' a' b' p, e = .If c' a' b' p ∧ chkE Γ ns c c' = true ∧ chkSs Γ ns a a' = true ∧ chkSs Γ ns b b' = true := by
  obtain ⟨c', a', b', p, rfl, g⟩ := onIfS_inv (f := fun c' a' b' _ => chkE Γ ns c c' && chkSs Γ ns a a' && chkSs Γ ns b b') h
  replace h := g
  simp only [Bool.and_eq_true] at h
  exact ⟨_, _, _, _, rfl, h.1.1, h.1.2, h.2⟩
theorem chs_for {t : MT} {it : ME} {b : MSs} (h : chkS Γ ns (.for t it b) e = true) : ∃ t' it' b' p, e = .For t' it' b' [] p ∧ tgtIs t' t = true ∧ storeN ns t.names = true ∧ notSet it' = true ∧ chkE Γ ns it it' = true ∧ chkSs Γ ns b b' = true := by
  obtain ⟨t', it', b', el, p, rfl, g⟩ := onFor_inv (f := fun t' it' body' el _ => el.isEmpty && tgtIs t' t && storeN ns t.names && notSet it' && chkE Γ ns it it' && chkSs Γ ns b body') h
  replace h := g
  simp only [Bool.and_eq_true] at h
  cases nil_inv h.1.1.1.1.1
  exact ⟨_, _, _, _, rfl, h.1.1.1.1.2, h.1.1.1.2, h.1.1.2, h.1.2, h.2⟩
theorem chs_ret {m : ME} (h : chkS Γ ns (.ret m) e = true) : (m = .none ∧ ∃ p, e = .Return none p) ∨ ∃ e' p, e = .Return (some e') p ∧ chkE Γ ns m e' = true := by
  obtain ⟨v, p, rfl, g⟩ := onRet_inv (f := fun v _ => v.elim m.isN fun e' => chkE Γ ns m e') h
  replace h := g
  cases v with
  | none => exact .inl ⟨ME.isN_inv h, p, rfl⟩
  | some e' => exact .inr ⟨e', p, rfl, h⟩
theorem chss_nil {es : List Stmt} (h : chkSs Γ ns .nil es = true) : es = [] := by
  cases es with
  | nil => rfl
  | cons _ _ => exact ff h rfl
theorem chss_cons {s : MS} {r : MSs} {es : List Stmt} (h : chkSs Γ ns (.cons s r) es = true) : ∃ s' r', es = s' :: r' ∧ chkS Γ ns s s' = true ∧ chkSs Γ ns r r' = true := by
  cases es with
  | nil => exact ff h rfl
  | cons s' r' =>
    have h : (chkS Γ ns s s' && chkSs Γ ns r r') = true := h
    simp only [Bool.and_eq_true] at h
    exact ⟨_, _, rfl, h.1, h.2⟩
end

section
variable {prog : Program} {w : World} {hb : Heap} {K : Frag} {mg mb : Str → Option Value} {Γ : Ctx} {cfg : Cfg} {n : Nat} {O : Orc}

theorem comp_only {m : ME} {e : Expr} {ns : Names} (h : chkE Γ ns m e = true) (hc : notComp e = false) : ∃ own elt gs, m = .comp own elt gs := by
  cases e <;> first | (cases hc; done) | skip
  all_goals (cases m <;> first | exact ⟨_, _, _, rfl⟩ | exact ff h rfl)

theorem comp_assign (H : Gnd prog w hb K mg mb Γ cfg n O) {m : ME} {env : Env} {ns : Names} {e t : Expr} {x : String} {pos : Pos} {ρ ρ' : Rho} {σ : Store} {d : V} {σ' : Store} (hs : SC env ns) (hc : chkE Γ ns m e = true) (hn : notComp e = false) (he : evalM cfg O ρ σ m = some (d, σ'))
    (ht : tgtIs t (.one x) = true) (hp : notPair t e = true) (hst : storable env [x]) (hr : setv ρ x d = some ρ') : ExOK prog w hb Γ.C n env ρ σ (.Assign [t] e pos) .next ρ' σ' := by
  obtain ⟨own, elt, gs, rfl⟩ := comp_only hc hn
  obtain ⟨elt', gens, scope, p, rfl, h0, h1, h2, h3⟩ := chk_comp hc
  have Z := core_sound H gs (p := p) (own := own) (elt := elt) hs h0 h1 h2 (fun env' he' ρ σ d σ' hel => ev_sound H elt he' h3 hel) he
  exact assign_comp ht hp hst Z.ev Z.use (by
    cases t <;> first | exact ff ht rfl | skip
    exact ⟨_, rfl⟩) hr

noncomputable def SndEx (prog : Program) (w : World) (hb : Heap) (Γ : Ctx) (cfg : Cfg) (n : Nat) (O : Orc) (m : MS) : Prop := ∀ ⦃env : Env⦄ ⦃ns : Names⦄ ⦃e : Stmt⦄ ⦃ρ : Rho⦄ ⦃σ : Store⦄ ⦃fl : Fl⦄ ⦃ρ' : Rho⦄ ⦃σ' : Store⦄, SC env ns → chkS Γ ns m e = true → execM cfg O ρ σ m = some (fl, ρ', σ') → ExOK prog w hb Γ.C n env ρ σ e fl ρ' σ'
noncomputable def SndExs (prog : Program) (w : World) (hb : Heap) (Γ : Ctx) (cfg : Cfg) (n : Nat) (O : Orc) (m : MSs) : Prop := ∀ ⦃env : Env⦄ ⦃ns : Names⦄ ⦃e : List Stmt⦄ ⦃ρ : Rho⦄ ⦃σ : Store⦄ ⦃fl : Fl⦄ ⦃ρ' : Rho⦄ ⦃σ' : Store⦄, SC env ns → chkSs Γ ns m e = true → execsM cfg O ρ σ m = some (fl, ρ', σ') → ExsOK prog w hb Γ.C n env ρ σ e fl ρ' σ'
mutual
theorem ex_sound (H : Gnd prog w hb K mg mb Γ cfg n O) : ∀ (m : MS), SndEx prog w hb Γ cfg n O m
  | .assign t m => by
    intro env ns e ρ σ fl ρ' σ' hs hc he
    obtain ⟨t', e', p, rfl, h1, h2, h3, h4, h5⟩ := chs_assign hc
    obtain ⟨⟨v, σ₁⟩, k1, he⟩ := bnd he
    obtain ⟨ρ₁, k2, he⟩ := bnd he
    cases he
    cases hn : notComp e' with
    | true => exact assign_plain h1 (swaps_no hn) h2 (storeN_of hs h3) (ev_sound H m hs h4 k1) k2
    | false =>
      rw [hn, Bool.false_or] at h5
      cases t with
      | tup _ => cases h5
      | one x => exact comp_assign H hs h4 hn k1 h1 h2 (storeN_of hs h3) k2
  | .setitem o i m => by
    intro env ns e ρ σ fl ρ' σ' hs hc he
    obtain ⟨o', i', q, e', p, a, rfl, h1, h2, h3, h4⟩ := chs_setitem hc
    obtain ⟨⟨v, σ₁⟩, k1, he⟩ := bnd he
    obtain ⟨⟨x, σ₂⟩, k2, he⟩ := bnd he
    obtain ⟨⟨y, σ₃⟩, k3, he⟩ := bnd he
    obtain ⟨k, rfl, he1⟩ := ownK_inv he
    split at he1
    · rename_i hi
      obtain ⟨⟨r, σ₄⟩, k4, he2⟩ := bnd he1
      cases he2
      exact set_inst_ok H.cls H.orc H.noseq h1 (ev_sound H m hs h4 k1) (ev_sound H o hs h2 k2) (ev_sound H i hs h3 k3) hi k4
    · cases he1
  | .setall o m => by
    intro env ns e ρ σ fl ρ' σ' hs hc he
    obtain ⟨o', r, q, e', p, rfl, h2, h4⟩ := chs_setall hc
    obtain ⟨⟨v, σ₁⟩, k1, he⟩ := bnd he
    obtain ⟨⟨x, σ₂⟩, k2, he⟩ := bnd he
    obtain ⟨k, rfl, he1⟩ := ownK_inv he
    obtain ⟨ws, rfl, he2⟩ := listK_inv he1
    obtain ⟨vs, hk, he3⟩ := lstK_inv he2
    split at he3
    · rename_i hz
      cases he3
      exact set_all_ok (ev_sound H m hs h4 k1) (ev_sound H o hs h2 k2) hk hz
    · cases he3
  | .setattr o m => by
    intro env ns e ρ σ fl ρ' σ' hs hc he
    obtain ⟨o', q, e', p, rfl, h2, h4⟩ := chs_setattr hc
    obtain ⟨⟨v, σ₁⟩, k1, he⟩ := bnd he
    obtain ⟨⟨x, σ₂⟩, k2, he⟩ := bnd he
    obtain ⟨k, rfl, he1⟩ := ownK_inv he
    obtain ⟨d, hk, he2⟩ := instK_inv he1
    obtain ⟨w', hz, he3⟩ := attrsK_inv he2
    split at he3
    · rename_i hw
      cases Option.isNone_iff_eq_none.mp hw
      cases he3
      exact set_attr_ok H.cls (ev_sound H m hs h4 k1) (ev_sound H o hs h2 k2) hk hz
    · cases he3
  | .del o i => by
    intro env ns e ρ σ fl ρ' σ' hs hc he
    obtain ⟨o', i', q, p, a, rfl, h1, h2, h3⟩ := chs_del hc
    obtain ⟨⟨x, σ₂⟩, k2, he⟩ := bnd he
    obtain ⟨⟨y, σ₃⟩, k3, he⟩ := bnd he
    obtain ⟨k, rfl, he1⟩ := ownK_inv he
    split at he1
    · rename_i hi
      obtain ⟨⟨r, σ₄⟩, k4, he2⟩ := bnd he1
      cases he2
      exact del_ok H.cls H.orc H.noseq h1 (ev_sound H o hs h2 k2) (ev_sound H i hs h3 k3) hi k4
    · cases he1
  | .expr m => by
    intro env ns e ρ σ fl ρ' σ' hs hc he
    obtain ⟨e', p, rfl, h1, h2⟩ := chs_expr hc
    obtain ⟨⟨v, σ₁⟩, k1, he⟩ := bnd he
    cases he
    exact expr_ok h1 (ev_sound H m hs h2 k1)
  | .aug x op m => by
    intro env ns e ρ σ fl ρ' σ' hs hc he
    cases he
  | .ite c a b => by
    intro env ns e ρ σ fl ρ' σ' hs hc he
    obtain ⟨c', a', b', p, rfl, h1, h2, h3⟩ := chs_ite hc
    obtain ⟨⟨t, σ₁⟩, k1, he⟩ := bnd he
    refine if_ok (test_sound H c hs h1 k1) ?_
    cases t with
    | true => exact exs_sound H a hs h2 he
    | false => exact exs_sound H b hs h3 he
  | .for t it body => by
    intro env ns e ρ σ fl ρ' σ' hs hc he
    obtain ⟨t', it', b', p, rfl, h1, h2, h3, h4, h5⟩ := chs_for hc
    obtain ⟨⟨x, σ₁⟩, k1, he⟩ := bnd he
    obtain ⟨vs, k2, he⟩ := bnd he
    exact for_ok (bd := fun ρ σ => execsM cfg O ρ σ body) h3 h1 (storeN_of hs h2) (ev_sound H it hs h4 k1) k2 (fun ρ σ fl ρ' σ' hb => exs_sound H body hs h5 hb) he
  | .ret m => by
    intro env ns e ρ σ fl ρ' σ' hs hc he
    obtain ⟨⟨v, σ₁⟩, k1, he⟩ := bnd he
    cases he
    rcases chs_ret hc with ⟨rfl, p, rfl⟩ | ⟨e', p, rfl, h1⟩
    · cases (show some _ = some _ from k1)
      exact ret0_ok
    · exact ret_ok (ev_sound H m hs h1 k1)
  | .raise => by
    intro env ns e ρ σ fl ρ' σ' hs hc he
    cases he
theorem exs_sound (H : Gnd prog w hb K mg mb Γ cfg n O) : ∀ (m : MSs), SndExs prog w hb Γ cfg n O m
  | .nil => by
    intro env ns e ρ σ fl ρ' σ' hs hc he
    rw [chss_nil hc]
    cases he
    exact exs_nil
  | .cons s r => by
    intro env ns e ρ σ fl ρ' σ' hs hc he
    obtain ⟨s', r', rfl, h1, h2⟩ := chss_cons hc
    obtain ⟨⟨f, ρ₁, σ₁⟩, k1, he⟩ := bnd he
    cases f with
    | next => exact exs_next (ex_sound H s hs h1 k1) (exs_sound H r hs h2 he)
    | ret v => cases he; exact exs_ret (ex_sound H s hs h1 k1)
end
end
end Mine

namespace Mine

theorem zip_lookup_some {names : List Str} : ∀ {vals : List Value}, vals.length = names.length → ∀ n ∈ names, ((names.zip vals).lookup n).isSome = true := by
  induction names with
  | nil => intro vals _ n h; cases h
  | cons x r ih =>
    intro vals hl n hn
    cases vals with
    | nil => simp at hl
    | cons v vs =>
      rw [List.zip_cons_cons, List.lookup_cons]
      cases hx : (n == x) with
      | true => rfl
      | false =>
        rcases List.mem_cons.mp hn with rfl | hn
        · simp at hx
        · exact ih (by simpa using hl) n hn
theorem zip_lookup_none {names : List Str} {n : Str} : ∀ {vals : List Value}, n ∉ names → (names.zip vals).lookup n = none := by
  induction names with
  | nil => intro vals _; rfl
  | cons x r ih =>
    intro vals hn
    cases vals with
    | nil => rfl
    | cons v vs =>
      rw [List.zip_cons_cons, List.lookup_cons]
      simp only [List.mem_cons, not_or] at hn
      have : (n == x) = false := by rw [beq_eq_false_iff_ne]; exact hn.1
      rw [this]
      exact ih hn.2
theorem fm_congr {α β : Type} {f g : α → Option β} : ∀ {l : List α}, (∀ x ∈ l, f x = g x) → l.filterMap f = l.filterMap g
  | [], _ => rfl
  | x :: r, h => by
    rw [List.filterMap_cons, List.filterMap_cons, h x (.head _), fm_congr fun y hy => h y (.tail _ hy)]
theorem zip_filterMap {names : List Str} : ∀ {vals : List Value}, names.Nodup → vals.length = names.length → names.filterMap (fun n => ((names.zip vals).lookup n).map (n, ·)) = names.zip vals := by
  induction names with
  | nil => intro vals _ _; rfl
  | cons x r ih =>
    intro vals hn hl
    cases vals with
    | nil => simp at hl
    | cons v vs =>
      rw [List.nodup_cons] at hn
      rw [List.zip_cons_cons, List.filterMap_cons, List.lookup_cons]
      simp only [beq_self_eq_true, Option.map_some]
      congr 1
      rw [← ih hn.2 (by simpa using hl)]
      refine fm_congr fun n hm => ?_
      rw [ih hn.2 (by simpa using hl), List.lookup_cons]
      have : (n == x) = false := by
        rw [beq_eq_false_iff_ne]; rintro rfl; exact hn.1 hm
      rw [this]
theorem lookup_app {a b : List (Str × Value)} {k : Str} (h : a.lookup k = none) : (a ++ b).lookup k = b.lookup k := by
  induction a with
  | nil => rfl
  | cons p r ih =>
    rw [List.cons_append, List.lookup_cons]
    rw [List.lookup_cons] at h
    split at h
    · cases h
    · exact ih h
theorem key_none {kvs : List (Str × Value)} {k : Str} (h : k ∉ kvs.map (·.1)) : kvs.lookup k = none := by
  induction kvs with
  | nil => rfl
  | cons p r ih =>
    simp only [List.map_cons, List.mem_cons, not_or] at h
    rw [List.lookup_cons]
    have : (k == p.1) = false := by rw [beq_eq_false_iff_ne]; exact h.1
    rw [this]
    exact ih h.2

theorem lookup_app_some {a b : List (Str × Value)} {k : Str} {v : Value} (h : a.lookup k = some v) : (a ++ b).lookup k = some v := by
  induction a with
  | nil => cases h
  | cons p r ih =>
    rw [List.cons_append, List.lookup_cons]
    rw [List.lookup_cons] at h
    split at h
    · exact h
    · exact ih h
theorem key_some {kvs : List (Str × Value)} {k : Str} (h : k ∈ kvs.map (·.1)) : ∃ v, kvs.lookup k = some v := by
  induction kvs with
  | nil => cases h
  | cons p r ih =>
    rw [List.lookup_cons]
    cases hx : (k == p.1) with
    | true => exact ⟨_, rfl⟩
    | false =>
      rw [List.map_cons] at h
      rcases List.mem_cons.mp h with rfl | h
      · simp at hx
      · exact ih h

theorem zip_fs : ∀ l : List (Str × Value), (l.map (·.1)).zip (l.map (·.2)) = l
  | [] => rfl
  | x :: r => by rw [List.map_cons, List.map_cons, List.zip_cons_cons, zip_fs r]

theorem forIn_same {α β : Type} {body : α → β → Sem (ForInStep β)} : ∀ {l : List α} {b : β}, (∀ x ∈ l, body x b = pure (.yield b)) → forIn l b body = (pure b : Sem β)
  | [], _, _ => rfl
  | x :: r, b, h => by
    rw [List.forIn_cons, h x (.head _)]
    exact forIn_same fun y hy => h y (.tail _ hy)

theorem bind_full {M : Model} {A : Around} {E : Value → Shared → Prop} {s : Shared} {Q : List (Str × Value) → Shared → Prop} {fd : FuncData} {vals : List Value} {kvs : List (Str × Value)} {names kwo : List Str}
    (h1 : fd.params.posonlyargs = []) (h2 : fd.params.vararg = none) (hp : fd.params.args.map (·.arg) = names) (hk : fd.params.kwonlyargs.map (·.arg) = kwo) (h5 : fd.defaults = .none)
    (hn : (names ++ kwo).Nodup) (hl : vals.length = names.length) (hkv : kvs.map (·.1) = kwo)
    (q : match fd.params.kwarg with
      | none => Q (names.zip vals ++ kvs) s
      | some a => Q (names.zip vals ++ kvs ++ [(a.arg, .ref s.heap.objs.size)]) { s with heap := s.heap.push (dictOf [] 0) }) :
    wpAny M A (bindArgs fd ⟨vals, kvs⟩) Q E s := by
  rw [List.nodup_append] at hn
  obtain ⟨n1, n2, n3⟩ := hn
  have L1 : ∀ (l : List (Str × Value)) (sl : List (Str × Value)) (body : Str × Value → List (Str × Value) × List (Str × Value) → Sem (ForInStep (List (Str × Value) × List (Str × Value)))), (l.map (·.1)).Nodup → (∀ k ∈ l.map (·.1), kwo.contains k = true ∧ sl.lookup k = none) →
      (∀ x sl, kwo.contains x.1 = true → sl.lookup x.1 = none → body x (sl, []) = pure (.yield (sl ++ [x], []))) →
      forIn l (sl, ([] : List (Str × Value))) body = pure (sl ++ l, []) := by
    intro l
    induction l with
    | nil => intro sl body _ _ _; rw [List.append_nil]; rfl
    | cons x r ih =>
      intro sl body hnd hall hb
      rw [List.map_cons, List.nodup_cons] at hnd
      have hx := hall x.1 (.head _)
      rw [List.forIn_cons, hb x sl hx.1 hx.2]
      have := ih (sl ++ [x]) body hnd.2 (fun k hk => ⟨(hall k (.tail _ hk)).1, by
        rw [lookup_app (hall k (.tail _ hk)).2, List.lookup_cons]
        have : (k == x.1) = false := by rw [beq_eq_false_iff_ne]; rintro rfl; exact hnd.1 hk
        rw [this]; rfl⟩) hb
      rw [List.append_assoc] at this
      exact this
  unfold bindArgs
  extract_lets fname p posonly normal positional kwonly npos given slots extra
  have e1 : posonly = [] := by show List.map _ fd.params.posonlyargs = _; rw [h1]; rfl
  have e2 : normal = names := hp
  have e3 : positional = names := by show posonly ++ normal = _; rw [e1, e2]; rfl
  have e4 : kwonly = kwo := hk
  have e5 : slots = names.zip vals := by show positional.zip vals = _; rw [e3]
  refine wpAny_bind (wpAny_of_eq (a := (names.zip vals ++ kvs, [])) ?_ ?_)
  · rw [e5]
    refine L1 kvs (names.zip vals) _ (hkv ▸ n2) (fun k hk => ⟨?_, ?_⟩) fun x sl hx hs => ?_
    · rw [hkv] at hk; simpa using hk
    · rw [hkv] at hk; exact zip_lookup_none fun h => n3 k h k hk rfl
    · obtain ⟨k, v⟩ := x
      dsimp only at hx hs ⊢
      rw [if_pos (by rw [e4, hx, Bool.or_true]), if_neg (by rw [hs]; simp)]
  · dsimp only
    rw [h5]
    refine wpAny_bind (wpAny_of_eq (a := none) rfl ?_)
    have ev : p.vararg = none := h2
    have hlk : ∀ n ∈ names, ∃ v, (names.zip vals ++ kvs).lookup n = some v := fun n hm => by
      obtain ⟨v, hv⟩ := Option.isSome_iff_exists.mp (zip_lookup_some hl n hm)
      exact ⟨v, by rw [lookup_app_some hv]⟩
    have hlk2 : ∀ n ∈ kwo, ∃ v, (names.zip vals ++ kvs).lookup n = some v := fun n hm => by
      rw [lookup_app (zip_lookup_none fun h => n3 n h n hm rfl)]
      exact key_some (by rw [hkv]; exact hm)
    rw [if_neg (by rw [ev]; show ¬ (decide (vals.length > positional.length) && true) = true; rw [e3, hl]; simp)]
    rw [if_neg (by
      rw [List.filter_eq_nil_iff.mpr (fun n hm => by
        obtain ⟨v, hv⟩ := hlk n (by rw [← e3]; exact List.mem_of_mem_take hm)
        rw [hv]; simp)]
      simp)]
    refine wpAny_bind (wpAny_of_eq (a := names.zip vals ++ kvs) (by simp only [Option.getD_none, List.drop_nil, List.zip_nil_right]; rfl) ?_)
    refine wpAny_bind (wpAny_of_eq (a := (names.zip vals ++ kvs, [])) (forIn_same fun n hm => by
      obtain ⟨v, hv⟩ := hlk2 n (by rw [← e4]; exact hm)
      dsimp only
      rw [hv, if_neg (by simp)]) ?_)
    dsimp only
    rw [if_neg (by simp), ev, e3, e4]
    have hfin : List.filterMap (fun n => Option.map (fun x => (n, x)) (List.lookup n (names.zip vals ++ kvs))) (names ++ kwo) = names.zip vals ++ kvs := by
      have hz : names.zip vals ++ kvs = (names ++ kwo).zip (vals ++ kvs.map (·.2)) := by
        rw [List.zip_append hl.symm, ← hkv]
        congr 1
        exact (zip_fs kvs).symm
      rw [hz]
      refine zip_filterMap (List.nodup_append.mpr ⟨n1, n2, n3⟩) ?_
      rw [List.length_append, List.length_append, hl, ← hkv, List.length_map, List.length_map]
    rw [hfin]
    show wpAny M A (match fd.params.kwarg with | some a => _ | x => _) Q E s
    cases hka : fd.params.kwarg with
    | none => rw [hka] at q; exact wpAny_pure q
    | some a =>
      rw [hka] at q
      show wpAny M A (if ([] : List (Str × Value)).length > sizeLine + 1 then _ else _) Q E s
      rw [if_neg (by simp)]
      refine wpAny_bind (wpAny_alloc ?_)
      refine wpAny_bind (wpAny_of_eq (a := PUnit.unit) rfl ?_)
      exact wpAny_pure q
theorem zip_cut {α β : Type} (c : Nat) (M : List α) (D : List β) (h : M.length = D.length) : M.zip D = (M.take c).zip (D.take c) ++ (M.drop c).zip (D.drop c) := by
  rw [← List.zip_append (by rw [List.length_take, List.length_take, h]), List.take_append_drop, List.take_append_drop]
theorem forIn_skip {α β : Type} {body : α → β → Sem (ForInStep β)} {l2 : List α} : ∀ {l : List α} {b : β}, (∀ x ∈ l, body x b = pure (.yield b)) → forIn (l ++ l2) b body = forIn l2 b body
  | [], _, _ => rfl
  | x :: r, b, h => by
    rw [List.cons_append, List.forIn_cons, h x (.head _)]
    exact forIn_skip fun y hy => h y (.tail _ hy)

theorem ar1 {n d v : Nat} (hg : n ≤ v + d) : n - d = min (n - d) v := (Nat.min_eq_left (Nat.sub_le_iff_le_add.mpr hg)).symm
theorem ar2 {n d : Nat} (hD : d ≤ n) : n - (n - d) = d := Nat.sub_sub_self hD
theorem ar3 {n d v : Nat} (hg : n ≤ v + d) : n - d + (v - (n - d)) = v := Nat.add_sub_cancel' (Nat.sub_le_iff_le_add.mpr hg)
theorem ar4 {n d v : Nat} (hl : v ≤ n) (hD : d ≤ n) (hg : n ≤ v + d) : v - (n - d) = d - (n - v) := by rw [Nat.sub_sub_right _ hD, Nat.sub_sub_right _ hl, Nat.add_comm]
theorem ar5 {n d v : Nat} (hg : n ≤ v + d) : n - v = d - (d - (n - v)) := (Nat.sub_sub_self (Nat.sub_le_iff_le_add'.mpr hg)).symm
theorem bind_dflt {M : Model} {A : Around} {E : Value → Shared → Prop} {s : Shared} {Q : List (Str × Value) → Shared → Prop} {fd : FuncData} {vals D : List Value} {names : List Str} {T : Addr} {o : Obj} {n : Nat}
    (h1 : fd.params.posonlyargs = []) (h2 : fd.params.vararg = none) (h3 : fd.params.kwonlyargs = []) (h4 : fd.params.kwarg = none) (hp : fd.params.args.map (·.arg) = names)
    (h5 : fd.defaults = .ref T) (ho : s.heap.get? T = some o) (hd : o.data = .seq D.toArray n)
    (hn : names.Nodup) (hl : vals.length ≤ names.length) (hD : D.length ≤ names.length) (hg : names.length ≤ vals.length + D.length)
    (q : Q (names.zip (vals ++ D.drop (D.length - (names.length - vals.length)))) s) :
    wpAny M A (bindArgs fd ⟨vals, []⟩) Q E s := by
  unfold bindArgs
  extract_lets fname p posonly normal positional kwonly npos given slots extra
  have e1 : posonly = [] := by show List.map _ fd.params.posonlyargs = _; rw [h1]; rfl
  have e2 : normal = names := hp
  have e3 : positional = names := by show posonly ++ normal = _; rw [e1, e2]; rfl
  have e4 : kwonly = [] := by show List.map _ fd.params.kwonlyargs = _; rw [h3]; rfl
  have e5 : slots = names.zip vals := by show positional.zip vals = _; rw [e3]
  have e6 : npos = names.length := by show positional.length = _; rw [e3]
  refine wpAny_bind (wpAny_of_eq (a := (names.zip vals, [])) (by rw [e5]; rfl) ?_)
  dsimp only
  rw [h5]
  refine wpAny_bind (wpAny_seqItems ho hd ?_)
  have ev : p.vararg = none := h2
  rw [if_neg (by rw [ev]; show ¬ (decide (vals.length > positional.length) && true) = true; rw [e3]; simp; exact hl)]
  have hDD : List.drop (((some D.toArray).getD #[]).toList.length - npos) ((some D.toArray).getD #[]).toList = D := by
    show D.drop (D.length - npos) = D
    rw [e6, Nat.sub_eq_zero_of_le hD]; rfl
  rw [hDD]
  -- names = N1 ++ N2
  have hN : names = names.take vals.length ++ names.drop vals.length := (List.take_append_drop ..).symm
  have hN1 : (names.take vals.length).length = vals.length := by rw [List.length_take, Nat.min_eq_left hl]
  have hz : names.zip vals = (names.take vals.length).zip vals := by
    conv => lhs; rw [hN]
    rw [← List.append_nil vals, List.zip_append (by rw [List.append_nil]; exact hN1), List.zip_nil_right, List.append_nil, List.append_nil]
  have hnd : (names.take vals.length).Nodup ∧ (names.drop vals.length).Nodup ∧ ∀ a ∈ names.take vals.length, ∀ b ∈ names.drop vals.length, a ≠ b := by
    rw [hN] at hn; exact List.nodup_append.mp hn
  have some1 : ∀ x ∈ names.take vals.length, ∃ v, (names.zip vals).lookup x = some v := fun x hx => by
    rw [hz]; exact Option.isSome_iff_exists.mp (zip_lookup_some hN1.symm x hx)
  have none2 : ∀ x ∈ names.drop vals.length, (names.zip vals).lookup x = none := fun x hx => by
    rw [hz]; exact zip_lookup_none fun h => hnd.2.2 x h x hx rfl
  rw [if_neg (by
    rw [List.filter_eq_nil_iff.mpr (fun n hm => by
      obtain ⟨v, hv⟩ := some1 n (by
        rw [e3, e6] at hm
        rw [show names.length - D.length = min (names.length - D.length) vals.length from ar1 hg, ← List.take_take] at hm
        exact List.mem_of_mem_take hm)
      rw [hv]; simp)]
    simp)]
  have hzip : (List.drop (npos - D.length) positional).zip D = ((names.drop (names.length - D.length)).take (vals.length - (names.length - D.length))).zip (D.take (vals.length - (names.length - D.length))) ++ (names.drop vals.length).zip (D.drop (D.length - (names.length - vals.length))) := by
    rw [e3, e6, zip_cut (vals.length - (names.length - D.length)) _ _ (by rw [List.length_drop]; exact ar2 hD), List.drop_drop, ar3 hg, ar4 hl hD hg]
  rw [hzip]
  have hlen2 : (names.drop vals.length).length = (D.drop (D.length - (names.length - vals.length))).length := by rw [List.length_drop, List.length_drop]; exact ar5 hg
  have L2 : ∀ (l : List (Str × Value)) (sl : List (Str × Value)) (body : Str × Value → List (Str × Value) → Sem (ForInStep (List (Str × Value)))), (l.map (·.1)).Nodup → (∀ k ∈ l.map (·.1), sl.lookup k = none) →
      (∀ x sl, sl.lookup x.1 = none → body x sl = pure (.yield (sl ++ [x]))) → forIn l sl body = pure (sl ++ l) := by
    intro l
    induction l with
    | nil => intro sl body _ _ _; rw [List.append_nil]; rfl
    | cons x r ih =>
      intro sl body hnd hall hb
      rw [List.map_cons, List.nodup_cons] at hnd
      have hx := hall x.1 (.head _)
      rw [List.forIn_cons, hb x sl hx]
      have := ih (sl ++ [x]) body hnd.2 (fun k hk => by
        rw [lookup_app (hall k (.tail _ hk)), List.lookup_cons]
        have : (k == x.1) = false := by rw [beq_eq_false_iff_ne]; rintro rfl; exact hnd.1 hk
        rw [this]; rfl) hb
      rw [List.append_assoc] at this
      exact this
  have hfst : ((names.drop vals.length).zip (D.drop (D.length - (names.length - vals.length)))).map (·.1) = names.drop vals.length := by
    rw [List.map_fst_zip]; exact Nat.le_of_eq hlen2
  refine wpAny_bind (wpAny_of_eq (a := names.zip vals ++ (names.drop vals.length).zip (D.drop (D.length - (names.length - vals.length)))) ?_ ?_)
  · rw [forIn_skip fun x hx => ?_]
    · refine L2 _ _ _ (by rw [hfst]; exact hnd.2.1) (fun k hk => none2 k (by rw [hfst] at hk; exact hk)) fun x sl hs => ?_
      obtain ⟨k, v⟩ := x
      dsimp only at hs ⊢
      rw [if_pos (by rw [hs]; rfl)]
    · obtain ⟨k, v⟩ := x
      have hk : k ∈ names.take vals.length := by
        have := (List.of_mem_zip hx).1
        rw [List.take_drop] at this
        have := List.mem_of_mem_drop this
        rwa [ar3 hg] at this
      obtain ⟨u, hu⟩ := some1 k hk
      dsimp only
      rw [hu, if_neg (by simp)]
  · rw [e4]
    refine wpAny_bind (wpAny_of_eq (a := (names.zip vals ++ (names.drop vals.length).zip (D.drop (D.length - (names.length - vals.length))), [])) rfl ?_)
    dsimp only
    rw [if_neg (by simp), ev, e3, List.append_nil]
    have hz2 : names.zip vals ++ (names.drop vals.length).zip (D.drop (D.length - (names.length - vals.length))) = names.zip (vals ++ D.drop (D.length - (names.length - vals.length))) := by
      rw [hz, ← List.zip_append hN1, ← hN]
    rw [hz2, zip_filterMap hn (by rw [List.length_append, ← hlen2, List.length_drop]; exact Nat.add_sub_cancel' hl)]
    show wpAny M A (match fd.params.kwarg with | some a => _ | x => _) Q E s
    rw [h4]
    exact wpAny_pure q
end Mine

namespace Mine

noncomputable def dfl1 (v : Value) (d : V) : Bool := match d with
  | .none => v == .none
  | .int j => (match v with
    | .int i _ => i == j
    | _ => false)
  | _ => false
theorem dfl1_vr {g : Part} {φ : List Addr} {v : Value} {d : V} (h : dfl1 v d = true) : VR g φ v d := by
  unfold dfl1 at h
  split at h
  · rw [beq_iff_eq.mp h]; exact .none
  · split at h
    · rw [beq_iff_eq.mp h]; exact .int _ _
    · cases h
  · cases h
noncomputable def dflB : List Value → List V → Bool
  | [], [] => true
  | v :: r, d :: q => dfl1 v d && dflB r q
  | _, _ => false
theorem dflB_vrs {g : Part} {φ : List Addr} : ∀ {vs : List Value} {ds : List V}, dflB vs ds = true → VRs g φ vs ds
  | [], [], _ => .nil
  | [], _ :: _, h => by cases h
  | v :: r, [], h => by cases h
  | v :: r, d :: q, h => by
    have h : (dfl1 v d && dflB r q) = true := h
    rw [Bool.and_eq_true] at h
    exact .cons (dfl1_vr h.1) (dflB_vrs h.2)

noncomputable def strNodup : List String → Bool
  | [] => true
  | x :: r => !r.contains x && strNodup r
theorem strNodup_of : ∀ {l : List String}, strNodup l = true → l.Nodup
  | [], _ => List.nodup_nil
  | x :: r, h => by
    simp only [strNodup, Bool.and_eq_true, Bool.not_eq_true'] at h
    exact List.nodup_cons.mpr ⟨by simpa using h.1, strNodup_of h.2⟩

noncomputable def dflOk (K : Frag) (dV : Value) (fn : Fn) : Bool := match dV with
  | .none => fn.dfl.isEmpty
  | .ref T => fn.kwo.isEmpty && fn.kwarg.isNone && decide (fn.dfl.length ≤ fn.pos.length) && (match K.lookup T with
    | some ⟨_, _, .seq items _, _⟩ => dflB items.toList fn.dfl
    | _ => false)
  | _ => false
noncomputable def bindB (K : Frag) (fd : FuncData) (fn : Fn) : Bool :=
  fd.params.posonlyargs.isEmpty && fd.params.vararg.isNone && decide (fd.params.args.map (·.arg) = fn.pos.map Str.ofString) && decide (fd.params.kwonlyargs.map (·.arg) = fn.kwo.map Str.ofString)
    && decide (fd.params.kwarg.map (·.arg) = fn.kwarg.map Str.ofString) && strNodup (fn.pos ++ fn.kwo ++ fn.kwarg.toList) && storeN fd.scope.names (fn.pos ++ fn.kwo ++ fn.kwarg.toList) && dflOk K fd.defaults fn

noncomputable def fnOkB (K : Frag) (Γ : Ctx) (fn : Fn) (a : Addr) : Bool := match K.lookup a with
  | some ⟨_, _, .func fd, _⟩ => (match fd.body with
    | .stmts body => !fd.scope.isCoroutine && !fd.scope.isGenerator && codeIn K fd.code fd.qualname && fd.closure.isEmpty && decide (fd.globals = mainGlobals) && decide (fd.builtins = builtinsNs) && decide (fd.scope.kind = .function)
        && fd.scope.names.all (fun x => x.2 != .free) && bindB K fd fn && chkSs Γ fd.scope.names fn.body body
    | _ => false)
  | _ => false

section
variable {prog : Program} {w : World} {hb : Heap} {K : Frag} {mg mb : Str → Option Value} {Γ : Ctx} {cfg : Cfg} {n : Nat} {O : Orc}

theorem ofString_nodup {l : List String} (h : l.Nodup) : (l.map Str.ofString).Nodup := by
  induction l with
  | nil => exact List.nodup_nil
  | cons x r ih =>
    rw [List.nodup_cons] at h
    rw [List.map_cons, List.nodup_cons]
    refine ⟨fun q => ?_, ih h.2⟩
    obtain ⟨y, hy, e⟩ := List.mem_map.mp q
    exact h.1 (ofString_inj e ▸ hy)
theorem zip_fst {α β : Type} {a : List α} {b : List β} (h : a.length = b.length) : (a.zip b).map (·.1) = a := List.map_fst_zip (Nat.le_of_eq h)
theorem zip_snd {α β : Type} {a : List α} {b : List β} (h : a.length = b.length) : (a.zip b).map (·.2) = b := List.map_snd_zip (Nat.le_of_eq h.symm)
theorem zip_some (a : List String) (b : List V) : a.zip (b.map some) = (a.zip b).map fun p => (p.1, some p.2) := by
  induction a generalizing b with
  | nil => rfl
  | cons x r ih => cases b with
    | nil => rfl
    | cons y q => rw [List.map_cons, List.zip_cons_cons, List.zip_cons_cons, List.map_cons, ih]

theorem bindB_ok (X : K.In hb) (hsys : ∃ a, (K.lookup a).isSome = true ∧ sysModules < a) {fd : FuncData} {fn : Fn} (h : bindB K fd fn = true) : BindOK prog w hb Γ.C fd fn := by
  unfold bindB at h
  simp only [Bool.and_eq_true, decide_eq_true_eq] at h
  obtain ⟨⟨⟨⟨⟨⟨⟨h1, h2⟩, h3⟩, h4⟩, h5⟩, h6⟩, h7⟩, h8⟩ := h
  have h1 : fd.params.posonlyargs = [] := List.isEmpty_iff.mp h1
  have h2 : fd.params.vararg = none := by simpa using h2
  have h6 := strNodup_of h6
  intro args kws σ ρ τ hbd A s φ g E vals kvs Q S VV KV q
  unfold Fn.binds at hbd
  split at hbd
  · cases hbd
  · rename_i hkw
    have hkw : fn.kwo = kws.map (·.1) := Decidable.not_not.mp hkw
    split at hbd
    · rename_i hlen
      have hst : ∀ x ∈ fn.pos ++ fn.kwo ++ fn.kwarg.toList, fd.scope.names.lookup (Str.ofString x) = some .local ∨ fd.scope.names.lookup (Str.ofString x) = some .cell := fun x hx => by
        have := List.all_eq_true.mp h7 x hx
        simpa only [Bool.or_eq_true, beq_iff_eq] using this
      unfold dflOk at h8
      split at h8
      · -- no defaults
        rename_i hdv
        have hpad : fn.pad args = args := by
          unfold Fn.pad
          rw [List.isEmpty_iff.mp h8]
          simp
        rw [hpad] at hlen hbd
        have hvl : vals.length = args.length := VV.length
        have hkk : kvs.map (·.1) = fn.kwo.map Str.ofString := by rw [KV.1, hkw, List.map_map]; rfl
        have n12 : (fn.pos ++ fn.kwo).Nodup := (List.nodup_append.mp h6).1
        refine bind_full (names := fn.pos.map Str.ofString) (kwo := fn.kwo.map Str.ofString) h1 h2 h3 h4 hdv (by rw [← List.map_append]; exact ofString_nodup n12) (by rw [List.length_map, hvl, hlen]) hkk ?_
        have hlp : (fn.pos.map Str.ofString).length = vals.length := by rw [List.length_map, hvl, hlen]
        have b1 : ((fn.pos.map Str.ofString).zip vals ++ kvs).map (·.1) = ((fn.pos.zip args ++ kws).map fun p => Str.ofString p.1) := by
          rw [List.map_append, zip_fst hlp, KV.1, List.map_append]
          congr 1
          rw [show (fn.pos.zip args).map (fun p => Str.ofString p.1) = ((fn.pos.zip args).map (·.1)).map Str.ofString from by rw [List.map_map]; rfl, zip_fst hlen.symm]
        have b2 : VRs g φ (((fn.pos.map Str.ofString).zip vals ++ kvs).map (·.2)) ((fn.pos.zip args ++ kws).map (·.2)) := by
          rw [List.map_append, zip_snd hlp, List.map_append, zip_snd hlen.symm]
          exact VV.append KV.2
        have b4 : ((fn.pos.zip args ++ kws).map (·.1)) = fn.pos ++ fn.kwo := by rw [List.map_append, zip_fst hlen.symm, hkw]
        have hro : ∀ rest : List (String × Option V), (fn.pos.zip (args.map some)) ++ kws.map (fun p => (p.1, some p.2)) ++ rest = (fn.pos.zip args ++ kws).map (fun p => (p.1, some p.2)) ++ rest := fun rest => by
          rw [zip_some, List.map_append]
        have hin : ∀ b ∈ (fn.pos.map Str.ofString).zip vals ++ kvs, fd.scope.names.lookup b.1 = some .local ∨ fd.scope.names.lookup b.1 = some .cell := fun b hb' => by
          have : b.1 ∈ ((fn.pos.map Str.ofString).zip vals ++ kvs).map (·.1) := List.mem_map.mpr ⟨b, hb', rfl⟩
          rw [b1] at this
          obtain ⟨p, hp, e⟩ := List.mem_map.mp this
          rw [← e]
          refine hst p.1 (List.mem_append_left _ ?_)
          rw [← b4]; exact List.mem_map.mpr ⟨p, hp, rfl⟩
        cases hka : fn.kwarg with
        | none =>
          rw [hka] at h5 hbd
          have hka' : fd.params.kwarg = none := by simpa using h5
          rw [hka']
          simp only [Option.some.injEq, Prod.mk.injEq] at hbd
          obtain ⟨rfl, rfl⟩ := hbd
          exact q _ s.heap φ (Grow.refl ..) S ⟨fn.pos.zip args ++ kws, fn.rest, b1, b2, hro _, by rw [b4]; exact n12⟩ hin
        | some x =>
          rw [hka] at h5 hbd hst h6
          obtain ⟨a, ha, hax⟩ := Option.map_eq_some_iff.mp (show fd.params.kwarg.map (·.arg) = some (Str.ofString x) from h5)
          rw [ha]
          simp only [Option.some.injEq, Prod.mk.injEq] at hbd
          obtain ⟨rfl, rfl⟩ := hbd
          obtain ⟨c, hc, hlt⟩ := hsys
          obtain ⟨oc, hoc⟩ := Option.isSome_iff_exists.mp hc
          have hbig : c < s.heap.objs.size := Heap.lt_size (S.hbk _ _ (X _ _ hoc))
          obtain ⟨S', G'⟩ := S.more (h' := s.heap.push (dictOf [] 0)) (x := .dct []) (fresh_none s.heap) (fun b o e => Heap.get?_push_of_some _ e) ⟨rfl, by intro e; rw [e] at hbig; exact absurd hlt (Nat.lt_asymm hbig), Heap.get?_push_size _ rfl⟩
          refine q _ _ _ G' S' ⟨fn.pos.zip args ++ kws ++ [(x, .own σ.length)], fn.rest, ?_, ?_, ?_, ?_⟩ fun b hb' => ?_
          · rw [List.map_append, b1, List.map_append (l₁ := fn.pos.zip args ++ kws)]
            congr 1
            show [a.arg] = [Str.ofString x]
            rw [hax]
          · rw [List.map_append, List.map_append (l₁ := fn.pos.zip args ++ kws)]
            refine (b2.mono G'.mono G'.pre).append (.cons (.own ?_) .nil)
            rw [← S.len, List.getElem?_append_right (Nat.le_refl _)]; simp
          · rw [List.map_append (l₁ := fn.pos.zip args ++ kws), zip_some, List.map_append]; rfl
          · rw [List.map_append, b4]; exact h6
          · rcases List.mem_append.mp hb' with hb' | hb'
            · exact hin b hb'
            · rw [List.mem_singleton.mp hb']
              show fd.scope.names.lookup a.arg = _ ∨ fd.scope.names.lookup a.arg = _
              rw [hax]
              exact hst x (by simp)
      · -- defaults
        rename_i T hdv
        simp only [Bool.and_eq_true, decide_eq_true_eq] at h8
        obtain ⟨⟨⟨k1, k2⟩, k3⟩, k4⟩ := h8
        have k1 : fn.kwo = [] := List.isEmpty_iff.mp k1
        have k2 : fn.kwarg = none := by simpa using k2
        split at k4
        · rename_i items m _ hT
          have hks : kws = [] := by rw [k1] at hkw; simpa using hkw.symm
          subst hks
          have hkv : kvs = [] := by simpa using KV.1
          subst hkv
          rw [k2] at hbd h5 h6 hst
          rw [k1] at h4 h6 hst
          simp only [Option.some.injEq, Prod.mk.injEq] at hbd
          obtain ⟨rfl, rfl⟩ := hbd
          have hdl : items.toList.length = fn.dfl.length := (dflB_vrs (g := g) (φ := φ) k4).length
          have hvl : vals.length = args.length := VV.length
          have hpl : vals.length ≤ fn.pos.length ∧ fn.pos.length ≤ vals.length + fn.dfl.length ∧ fn.pad args = args ++ fn.dfl.drop (fn.dfl.length - (fn.pos.length - args.length)) := by
            unfold Fn.pad at hlen ⊢
            split at hlen
            · rename_i hlt
              rw [if_pos hlt]
              rw [List.length_append, List.length_drop] at hlen
              refine ⟨by omega, by omega, rfl⟩
            · rename_i hlt
              rw [if_neg hlt]
              refine ⟨by omega, by omega, ?_⟩
              rw [show fn.dfl.length - (fn.pos.length - args.length) = fn.dfl.length from by omega, List.drop_length, List.append_nil]
          refine bind_dflt (names := fn.pos.map Str.ofString) (D := items.toList) h1 h2 (by simpa using h4) (by simpa using h5) h3 hdv (S.hbk _ _ (X _ _ hT)) rfl (ofString_nodup (by simpa using h6)) (by rw [List.length_map]; exact hpl.1) (by rw [List.length_map, hdl]; exact k3) (by rw [List.length_map, hdl]; exact hpl.2.1) ?_
          have hW : VRs g φ (vals ++ items.toList.drop (items.toList.length - ((fn.pos.map Str.ofString).length - vals.length))) (fn.pad args) := by
            rw [hpl.2.2, hdl, List.length_map, hvl]
            exact VV.append ((dflB_vrs k4).drop _)
          generalize vals ++ items.toList.drop (items.toList.length - ((fn.pos.map Str.ofString).length - vals.length)) = ws at hW
          have hwl : (fn.pos.map Str.ofString).length = ws.length := by rw [List.length_map, hW.length, hlen]
          have b1 : ((fn.pos.map Str.ofString).zip ws).map (·.1) = (fn.pos.zip (fn.pad args)).map fun p => Str.ofString p.1 := by
            rw [zip_fst hwl, show (fn.pos.zip (fn.pad args)).map (fun p => Str.ofString p.1) = ((fn.pos.zip (fn.pad args)).map (·.1)).map Str.ofString from by rw [List.map_map]; rfl, zip_fst hlen.symm]
          refine q _ s.heap φ (Grow.refl ..) S ⟨fn.pos.zip (fn.pad args), fn.rest, b1, ?_, ?_, ?_⟩ fun b hb' => ?_
          · rw [zip_snd hwl, zip_snd hlen.symm]; exact hW
          · rw [zip_some, List.map_nil, List.append_nil]
          · rw [zip_fst hlen.symm]; simpa using h6
          · have : b.1 ∈ ((fn.pos.map Str.ofString).zip ws).map (·.1) := List.mem_map.mpr ⟨b, hb', rfl⟩
            rw [zip_fst hwl] at this
            obtain ⟨x, hx, e⟩ := List.mem_map.mp this
            rw [← e]
            exact hst x (by simpa using hx)
        · cases k4
      · cases h8
    · cases hbd

noncomputable def tabB (K : Frag) (Γ : Ctx) (T : List (String × Fn)) : Bool := Γ.fa.all fun p => match T.lookup p.1 with
  | some fn => fnOkB K Γ fn p.2
  | none => false

theorem fnOk_of (X : K.In hb) {fn : Fn} {a : Addr} (h : fnOkB K Γ fn a = true) : ∃ fd body, FnS hb a fd body ∧ bindB K fd fn = true ∧ chkSs Γ fd.scope.names fn.body body = true := by
  unfold fnOkB at h
  split at h
  · rename_i c d fd sl ho
    split at h
    · rename_i body hbody
      simp only [Bool.and_eq_true, decide_eq_true_eq, Bool.not_eq_true'] at h
      obtain ⟨⟨⟨⟨⟨⟨⟨⟨⟨h1, h2⟩, h3⟩, h4⟩, h5⟩, h6⟩, h7⟩, h8⟩, h9⟩, h10⟩ := h
      exact ⟨fd, body, ⟨⟨_, X _ _ ho, rfl⟩, h1, h2, hbody, codeRec_of X h3, List.isEmpty_iff.mp h4, h5, h6, h7, fun x hx => by simpa using List.all_eq_true.mp h8 x hx⟩, h9, h10⟩
    · cases h
  · cases h

structure Base (hb : Heap) (K : Frag) (mg mb : Str → Option Value) (Γ : Ctx) (cfg : Cfg) (T : List (String × Fn)) : Prop where
  cls : ClsOK K hb Γ.C Γ.FA
  pats : Pats hb cfg.nd cfg.vd
  g : hb.Ns mainGlobals mg
  b : hb.Ns builtinsNs mb
  lim : hb.NoLimit
  gl : ∀ x a, Γ.gl.lookup x = some a → mg (Str.ofString x) = some (.ref a)
  bi : ∀ f, Γ.bi.contains f = true → mg (Str.ofString f) = none ∧ mb (Str.ofString f) = some (biVal f)
  ty : ∀ x, Γ.ty.contains x = true → mg (Str.ofString x) = none ∧ mb (Str.ofString x) = some (.type x)
  keep : keepIn K (.ref Γ.C) = true
  noseq : noSeq K Γ.C = true
  sys : ∃ a, (K.lookup a).isSome = true ∧ sysModules < a
  tab : tabB K Γ T = true

theorem lookup_mem {α β : Type} [BEq α] [LawfulBEq α] {l : List (α × β)} {x : α} {y : β} (h : l.lookup x = some y) : (x, y) ∈ l := by
  induction l with
  | nil => cases h
  | cons p r ih =>
    rw [List.lookup_cons] at h
    split at h
    · rename_i q; cases h; rw [beq_iff_eq.mp q]; exact .head _
    · exact .tail _ (ih h)

theorem calls_ok {T : List (String × Fn)} (B : Base hb K mg mb Γ cfg T) : ∀ n, CallOK prog w hb Γ.C Γ.FA n (callM cfg T n)
  | 0 => fun f a args kws σ d σ' hf h => by cases h
  | n + 1 => fun f a args kws σ d σ' hf h => by
    have X := B.cls.kin
    have hm := List.all_eq_true.mp B.tab _ (lookup_mem (show Γ.fa.lookup f = some a from hf))
    dsimp only at hm
    split at hm
    · rename_i fn hfn
      obtain ⟨fd, body, F, hbd, hck⟩ := fnOk_of X hm
      have G : Gnd prog w hb K mg mb Γ cfg n (callM cfg T n) := ⟨B.cls, calls_ok B n, (fun f a hf => by
        have hm := List.all_eq_true.mp B.tab _ (lookup_mem (show Γ.fa.lookup f = some a from hf))
        dsimp only at hm
        split at hm
        · obtain ⟨fd, body, F, -⟩ := fnOk_of X hm
          obtain ⟨o, ho, hd⟩ := F.obj
          exact ⟨o, fd, ho, hd⟩
        · cases hm), B.pats, B.g, B.b, B.gl, B.bi, B.ty, B.keep, B.noseq⟩
      exact call_step B.lim F (bindB_ok (Γ := Γ) X B.sys hbd) hfn (fun ρ τ fl ρ' τ' he env hsc => exs_sound G fn.body ⟨by rw [hsc]; exact F.kind, by rw [hsc]⟩ hck he) args kws σ d σ' h
    · cases hm
end
end Mine

namespace Mine

theorem app_inj {p m m' : String} (h : p ++ m = p ++ m') : m = m' := by
  have := congrArg String.toList h
  simp only [String.toList_append, List.append_cancel_left_eq] at this
  exact String.toList_injective this

noncomputable def faOf (ms fs : List (String × Addr)) : List (String × Addr) := ms.map (fun p => ("Headers." ++ p.1, p.2)) ++ fs
noncomputable def clsB (K : Frag) (C : Addr) : Bool :=
  findIn K (.ref C) "__getattribute__" == some (some (.builtin "object.__getattribute__")) && findIn K (.ref C) "__getattr__" == some none && findIn K (.ref C) "__setattr__" == some (some (.builtin "object.__setattr__"))
    && plainOver K C && hasDictIn K C && findIn K (.ref C) "_headers" == some none && makesIn K C && keepIn K (.ref C) && noSeq K C
noncomputable def methB (K : Frag) (C : Addr) (ms : List (String × Addr)) : Bool := ms.all fun p => findIn K (.ref C) (Str.ofString p.1) == some (some (.ref p.2)) && typeIn K (.ref p.2) == some (.type "function") && !(Str.ofString p.1 == ("_headers" : Str))
noncomputable def isI0 : Value → Bool
  | .int i _ => i == 0
  | _ => false
theorem isI0_inv {v : Value} (h : isI0 v = true) : ∃ t, v = .int 0 t := by
  unfold isI0 at h
  split at h
  · rw [beq_iff_eq.mp h]; exact ⟨_, rfl⟩
  · cases h
noncomputable def codeB (K : Frag) (code : List Nat) : Value → Bool
  | .ref c => (match K.lookup c with
    | some ⟨_, _, .seq items _, _⟩ => decide (((items.map Builtin.Re.reRawOf).map (·.toNat)).toList = code)
    | _ => false)
  | _ => false
theorem codeB_inv {K : Frag} {code : List Nat} {v : Value} (h : codeB K code v = true) : ∃ c o items n, v = .ref c ∧ K.lookup c = some o ∧ o.data = .seq items n ∧ ((items.map Builtin.Re.reRawOf).map (·.toNat)).toList = code := by
  unfold codeB at h
  split at h
  · split at h
    · rename_i q; exact ⟨_, _, _, _, rfl, q, rfl, of_decide_eq_true h⟩
    · cases h
  · cases h
noncomputable def seven (f : Value → Value → Value → Value → Value → Value → Value → Bool) : List Value → Bool
  | [a, b, c, d, e, g, h] => f a b c d e g h
  | _ => false
theorem seven_inv {f : Value → Value → Value → Value → Value → Value → Value → Bool} {l : List Value} (q : seven f l = true) : ∃ a b c d e g h, l = [a, b, c, d, e, g, h] ∧ f a b c d e g h = true := by
  unfold seven at q
  split at q
  · exact ⟨_, _, _, _, _, _, _, rfl, q⟩
  · cases q
noncomputable def patO (K : Frag) (code : List Nat) (o : Obj) : Bool := o.cls == .type "re.Pattern" && o.dict.isNone && (match o.data with
  | .fields vs => seven (fun _ _ c _ _ g h => isI0 c && isI0 h && codeB K code g) vs.toList
  | _ => false)
noncomputable def patB (K : Frag) (a : Addr) (code : List Nat) : Bool := (K.lookup a).any (patO K code)
theorem patB_ok {K : Frag} {hb : Heap} (X : K.In hb) {a : Addr} {code : List Nat} (h : patB K a code = true) : IsPat hb a code := by
  unfold patB at h
  cases ho : K.lookup a with
  | none => rw [ho] at h; cases h
  | some o =>
  rw [ho] at h
  have h : patO K code o = true := h
  unfold patO at h
  rw [Bool.and_eq_true, Bool.and_eq_true] at h
  obtain ⟨⟨h1, h2⟩, h3⟩ := h
  split at h3
  · rename_i vs hd
    obtain ⟨p0, p1, v2, p3, p4, v5, v6, hv, h3⟩ := seven_inv h3
    rw [Bool.and_eq_true, Bool.and_eq_true] at h3
    obtain ⟨t2, rfl⟩ := isI0_inv h3.1.1
    obtain ⟨t6, rfl⟩ := isI0_inv h3.1.2
    obtain ⟨c, oc, items, n, rfl, hc, hdc, hcode⟩ := codeB_inv h3.2
    have hv' : vs = #[p0, p1, .int 0 t2, p3, p4, .ref c, .int 0 t6] := by rw [← Array.toList_inj, hv]
    subst hv'
    refine ⟨o, p0, p1, t2, p3, p4, c, t6, oc, items, n, X _ _ ho, beq_iff_eq.mp h1, by simpa using h2, hd, X _ _ hc, hdc, ?_⟩
    rw [← Array.toList_inj]; exact hcode
  · cases h3

noncomputable def namesB (K : Frag) (Γ : Ctx) : Bool :=
  Γ.gl.all (fun p => nsIn K mainGlobals (Str.ofString p.1) == some (some (.ref p.2))) &&
  Γ.bi.all (fun f => nsIn K mainGlobals (Str.ofString f) == some none && bootBuiltins (Str.ofString f) == some (biVal f) && !(Str.ofString f == ("__name__" : Str))) &&
  Γ.ty.all (fun f => nsIn K mainGlobals (Str.ofString f) == some none && bootBuiltins (Str.ofString f) == some (.type f) && !(Str.ofString f == ("__name__" : Str)))

theorem base_of {hb : Heap} {K : Frag} {mg mb : Str → Option Value} {Γ : Ctx} {cfg : Cfg} {T : List (String × Fn)} {ms fs : List (String × Addr)} {a : Addr} (X : K.In hb) (g : hb.Ns mainGlobals mg) (b : hb.Ns builtinsNs mb) (lim : hb.NoLimit) (hm : ∀ x : Str, x ≠ "__name__" → mb x = bootBuiltins x)
    (hfa : Γ.fa = faOf ms fs) (hfs : (fs.all fun p => p.1.toList.head? != some 'H') = true) (hc : clsB K Γ.C = true) (hme : methB K Γ.C ms = true) (hn : patB K cfg.nd rxName = true) (hv : patB K cfg.vd rxValue = true) (hne : cfg.nd ≠ cfg.vd) (hnm : namesB K Γ = true)
    (ha : (K.lookup a).isSome = true) (hlt : sysModules < a) (ht : tabB K Γ T = true) : Base hb K mg mb Γ cfg T := by
  unfold clsB at hc
  simp only [Bool.and_eq_true, beq_iff_eq] at hc
  obtain ⟨⟨⟨⟨⟨⟨⟨⟨c1, c2⟩, c3⟩, c4⟩, c5⟩, c6⟩, c7⟩, c8⟩, c9⟩ := hc
  unfold namesB at hnm
  simp only [Bool.and_eq_true] at hnm
  obtain ⟨⟨n1, n2⟩, n3⟩ := hnm
  refine ⟨⟨X, c1, c2, c3, c4, c5, c6, c7, fun m a hf => ?_⟩, ⟨patB_ok X hn, patB_ok X hv, hne⟩, g, b, lim, fun x a hx => ?_, fun f hf => ?_, fun f hf => ?_, c8, c9, ⟨a, ha, hlt⟩, ht⟩
  · have hf : Γ.fa.lookup ("Headers." ++ m) = some a := hf
    have hmem := lookup_mem hf
    rw [hfa] at hmem
    rcases List.mem_append.mp hmem with hmem | hmem
    · obtain ⟨p, hp, e⟩ := List.mem_map.mp hmem
      simp only [Prod.mk.injEq] at e
      have := app_inj e.1
      subst this
      have := List.all_eq_true.mp hme p hp
      simp only [Bool.and_eq_true, beq_iff_eq, Bool.not_eq_true'] at this
      rw [← e.2]
      exact ⟨this.1.1, this.1.2, this.2⟩
    · exfalso
      have := List.all_eq_true.mp hfs _ hmem
      simp only [String.toList_append, bne_iff_ne] at this
      exact this (by simp)
  · have := List.all_eq_true.mp n1 _ (lookup_mem hx)
    exact mg_of X g (beq_iff_eq.mp this)
  · have := List.all_eq_true.mp n2 f (by simpa using hf)
    simp only [Bool.and_eq_true, beq_iff_eq, Bool.not_eq_true', beq_eq_false_iff_ne] at this
    exact ⟨mg_none_of X g this.1.1, by rw [hm _ this.2]; exact this.1.2⟩
  · have := List.all_eq_true.mp n3 f (by simpa using hf)
    simp only [Bool.and_eq_true, beq_iff_eq, Bool.not_eq_true', beq_eq_false_iff_ne] at this
    exact ⟨mg_none_of X g this.1.1, by rw [hm _ this.2]; exact this.1.2⟩
end Mine

namespace Mine

theorem ints_vrs {g : Part} {φ : List Addr} {vs : List Value} {is : List Int} (h : IntsAre vs is) : VRs g φ vs (is.map .int) := by
  induction h with
  | nil => exact .nil
  | cons n t _ ih => exact .cons (.int n t) ih
theorem sim_nil (h : Heap) (C : Addr) : Sim h C [] [] h.get? h :=
  ⟨fun _ _ e => e, fun _ _ e => e, rfl, fun _ m => (nomatch m), fun _ _ _ e _ => (by cases e), List.nodup_nil⟩
theorem law_end {prog : Program} {w : World} {s₁ : Shared} {K : Frag} {mg mb : Str → Option Value} {Γ : Ctx} {cfg : Cfg} {T : List (String × Fn)} {n : Nat} {c : ClaimW} {cl : Str → Option Addr} {mean : ExcName → Option Value} {args : List WData} {a fa : Addr} {vs : List Value} {is : List Int}
    (B : Base s₁.heap K mg mb Γ cfg T) (hfa : Γ.FA "law" = some fa) (hL : s₁.heap.IsList a vs.toArray) (hI : IntsAre vs is) (hg : s₁.gens = #[]) (plain : callM cfg T n "law" [.list (is.map .int)] [] [] = some (.bool true, [])) (hn : n ≤ 100)
    (hr : ∀ cls, c.raises args cls = false) (hp : c.post args (.bool true) args = true) : codeAny (model prog w) callerA (.call (.ref fa) ⟨[.ref a], []⟩) (GoodWG c cl mean args s₁) s₁ := by
  obtain ⟨o, ho, hc, m, hd⟩ := hL
  refine codeAny_mono (calls_ok (prog := prog) (w := w) B n "law" fa [.list (is.map .int)] [] [] _ _ hfa plain callerA s₁ [] s₁.heap.get? [.ref a] []
    ⟨rfl, by show 1 + 300 + 4 * n < 1000; omega, by show 4 + 40 * n + 300 < 9900; omega⟩ (sim_nil _ _) (.cons (.list ho hc hd (ints_vrs hI)) .nil) KRs.nil) fun r s' h => ?_
  rcases r with e | (_ | _ | _ | v) <;> first | exact h.elim | skip
  dsimp only at h
  obtain ⟨φ', g', G, S, V, h', tk, rfl⟩ := h
  have hv : v = .bool true := by cases V; rfl
  subst hv
  refine ⟨.inl ⟨_, _, [], rfl, hr, ReadsW.bool true, hp, fun _ => ⟨List.nodup_nil, fun _ hm => (nomatch hm)⟩⟩, .of_keep fun b o e => G.keep b o e (fun m => (nomatch m)), rfl, .of_eq hg⟩
end Mine

namespace Mine
noncomputable def cfg : Cfg := ⟨48, 53⟩
noncomputable def msl : List (String × Addr) := [("__init__", 76), ("_convert_string_type", 83), ("__setitem__", 97), ("__delitem__", 102), ("get", 131), ("items", 148), ("setdefault", 174), ("add_header", 181)]
noncomputable def fsl : List (String × Addr) := [("_law_pair", 195), ("_law_letters", 200), ("_law_stand", 205), ("_law_far", 212), ("_law_nearer", 217), ("_law_after", 224), ("_law_walk", 229), ("law", 234)]
noncomputable def ctx : Ctx := { gl := [("_name_disallowed_re", 48), ("_value_disallowed_re", 53), ("Headers", 184)] ++ fsl, fa := faOf msl fsl, bi := ["len", "range", "min", "zip", "type"], ty := ["str", "list"], C := 184 }
end Mine

namespace Mine.Pl
section

section
variable {K : Cfg} {O : Orc} {ρ ρ₁ ρ' : Rho} {σ σ₁ σ₂ σ₃ σ₄ σ' : Store} {a b c e o i : ME} {es : MEs} {x y v : V} {vs : List V}
theorem e_none : evalM K O ρ σ .none = some (.none, σ) := rfl
theorem e_bool {q : Bool} : evalM K O ρ σ (.bool q) = some (.bool q, σ) := rfl
theorem e_int {q : Int} : evalM K O ρ σ (.int q) = some (.int q, σ) := rfl
theorem e_str {q : List Nat} : evalM K O ρ σ (.str q) = some (.str q, σ) := rfl
theorem e_glob {q : String} {n : Nat} : evalM K O ρ σ (.glob q n) = some (.gl n, σ) := rfl
theorem e_tyn {q : String} : evalM K O ρ σ (.tyn q) = some (.ty q, σ) := rfl
theorem e_var {q : String} (h : look ρ q = some v) : evalM K O ρ σ (.var q) = some (v, σ) := by
  show (look ρ q).map _ = _; rw [h]; rfl
theorem es_nil : evalsM K O ρ σ .nil = some ([], σ) := rfl
theorem es_cons (h : evalM K O ρ σ e = some (v, σ₁)) (k : evalsM K O ρ σ₁ es = some (vs, σ₂)) : evalsM K O ρ σ (.cons e es) = some (v :: vs, σ₂) := by
  show Option.bind _ _ = _; rw [h, Option.bind_some]; try dsimp only
  rw [k]; rfl
theorem e_tuple (h : evalsM K O ρ σ es = some (vs, σ₁)) (hl : vs.length ≤ 1000) : evalM K O ρ σ (.tuple es) = some (.tuple vs, σ₁) := by
  show Option.bind _ _ = _; rw [h, Option.bind_some]; try dsimp only
  rw [if_pos hl]
theorem e_list {own : Bool} {r : V × Store} (h : evalsM K O ρ σ es = some (vs, σ₁)) (hl : newL own vs σ₁ = some r) : evalM K O ρ σ (.list own es) = some r := by
  show Option.bind _ _ = _; rw [h, Option.bind_some]; try dsimp only
  rw [hl]
theorem e_bin {op : Operator} (h : evalM K O ρ σ a = some (x, σ₁)) (k : evalM K O ρ σ₁ b = some (y, σ₂)) (q : binV σ₂ op x y = some v) : evalM K O ρ σ (.bin op a b) = some (v, σ₂) := by
  show Option.bind _ _ = _; rw [h, Option.bind_some]; try dsimp only
  rw [k, Option.bind_some]; try dsimp only
  rw [q]; rfl
theorem e_cmp {op : CmpOp} (h : evalM K O ρ σ a = some (x, σ₁)) (k : evalM K O ρ σ₁ b = some (y, σ₂)) (q : cmpV σ₂ op x y = some v) : evalM K O ρ σ (.cmp op a b) = some (v, σ₂) := by
  show Option.bind _ _ = _; rw [h, Option.bind_some]; try dsimp only
  rw [k, Option.bind_some]; try dsimp only
  rw [q]; rfl
theorem e_not {t : Bool} (h : evalM K O ρ σ a = some (x, σ₁)) (q : truthV σ₁ x = some t) : evalM K O ρ σ (.not a) = some (.bool !t, σ₁) := by
  show Option.bind _ _ = _; rw [h, Option.bind_some]; try dsimp only
  rw [q]; rfl
theorem e_neg {q : Int} (h : evalM K O ρ σ a = some (.int q, σ₁)) : evalM K O ρ σ (.neg a) = some (.int (-q), σ₁) := by
  show Option.bind _ _ = _; rw [h]; rfl
theorem e_idx (h : evalM K O ρ σ a = some (x, σ₁)) (k : evalM K O ρ σ₁ i = some (y, σ₂)) (q : idxV σ₂ x y = some v) : evalM K O ρ σ (.idx a i) = some (v, σ₂) := by
  show Option.bind _ _ = _; rw [h, Option.bind_some]; try dsimp only
  rw [k, Option.bind_some]; try dsimp only
  rw [q]; rfl
theorem e_ife {t : Bool} {r : Option (V × Store)} (h : testM K O ρ σ c = some (t, σ₁)) (k : (if t then evalM K O ρ σ₁ a else evalM K O ρ σ₁ b) = r) : evalM K O ρ σ (.ife c a b) = r := by
  show Option.bind _ _ = _; rw [h]; exact k
theorem o_no : optM K O ρ σ .no = some (none, σ) := rfl
theorem o_yes (h : evalM K O ρ σ e = some (v, σ₁)) : optM K O ρ σ (.yes e) = some (some v, σ₁) := by
  show Option.bind _ _ = _; rw [h]; rfl
theorem e_slice {own : Bool} {lo hi st : MO} {l h t : Option V} {l' h' t' : Option Int} {r : V × Store} (q : evalM K O ρ σ a = some (x, σ₁)) (q1 : optM K O ρ σ₁ lo = some (l, σ₂)) (q2 : optM K O ρ σ₂ hi = some (h, σ₃)) (q3 : optM K O ρ σ₃ st = some (t, σ₄))
    (p1 : partV l = some l') (p2 : partV h = some h') (p3 : partV t = some t') (k : sliceV own σ₄ x l' h' t' = some r) : evalM K O ρ σ (.slice own a lo hi st) = some r := by
  show Option.bind _ _ = _; rw [q, Option.bind_some]; try dsimp only
  rw [q1, Option.bind_some]; try dsimp only
  rw [q2, Option.bind_some]; try dsimp only
  rw [q3, Option.bind_some]; try dsimp only
  rw [p1, Option.bind_some]; try dsimp only
  rw [p2, Option.bind_some]; try dsimp only
  rw [p3, Option.bind_some]; try dsimp only
  rw [k]
theorem e_call {f : String} {r : V × Store} (h : evalsM K O ρ σ es = some (vs, σ₁)) (k : O f vs [] σ₁ = some r) : evalM K O ρ σ (.call f es) = some r := by
  show Option.bind _ _ = _; rw [h]; exact k
theorem e_bi {f : String} {r : V × Store} (h : evalsM K O ρ σ es = some (vs, σ₁)) (k : biV f σ₁ vs = some r) : evalM K O ρ σ (.bi f es) = some r := by
  show Option.bind _ _ = _; rw [h]; exact k
theorem k_nil : evalKM K O ρ σ .nil = some ([], σ) := rfl
theorem k_cons {q : String} {ks : MKs} {kv : List (String × V)} (h : evalM K O ρ σ e = some (v, σ₁)) (k : evalKM K O ρ σ₁ ks = some (kv, σ₂)) : evalKM K O ρ σ (.cons q e ks) = some ((q, v) :: kv, σ₂) := by
  show Option.bind _ _ = _; rw [h, Option.bind_some]; try dsimp only
  rw [k]; rfl
theorem e_meth {m f : String} {ks : MKs} {n : Nat} {kv : List (String × V)} {r : V × Store} (h : evalM K O ρ σ o = some (.own n, σ₁)) (hi : isInst σ₁ n = true) (k : evalsM K O ρ σ₁ es = some (vs, σ₂)) (k' : evalKM K O ρ σ₂ ks = some (kv, σ₃)) (hf : "Headers." ++ m = f) (q : O f (.own n :: vs) kv σ₃ = some r) :
    evalM K O ρ σ (.meth o m es ks) = some r := by
  subst hf
  show Option.bind _ _ = _; rw [h, Option.bind_some]
  dsimp only
  show (if isInst σ₁ n = true then _ else _) = _
  rw [if_pos hi, k, Option.bind_some]; try dsimp only
  rw [k', Option.bind_some]; exact q
theorem e_new {n : Nat} (h : evalsM K O ρ σ es = some (vs, σ₁)) (hn : n = σ₁.length + 1) (k : O "Headers.__init__" (.own n :: vs) [] (σ₁ ++ [.attrs none, .inst σ₁.length]) = some (.none, σ₂)) : evalM K O ρ σ (.new es) = some (.own n, σ₂) := by
  subst hn
  show Option.bind _ _ = _; rw [h, Option.bind_some]
  dsimp only
  rw [k]; rfl
theorem e_sm {m q : String} {r : V × Store} (h : evalM K O ρ σ o = some (x, σ₁)) (hs : smId K.nd K.vd m σ₁ x = some q) (k : evalsM K O ρ σ₁ es = some (vs, σ₂)) (p : smV K.nd K.vd m σ₂ x vs = some r) : evalM K O ρ σ (.sm o m es) = some r := by
  show Option.bind _ _ = _; rw [h, Option.bind_some]; try dsimp only
  rw [hs, Option.bind_some]; try dsimp only
  rw [k]; exact p
theorem e_attr {n d : Nat} (h : evalM K O ρ σ o = some (.own n, σ₁)) (h1 : σ₁[n]? = some (.inst d)) (h2 : σ₁[d]? = some (.attrs (some v))) : evalM K O ρ σ (.attr o) = some (v, σ₁) := by
  show Option.bind _ _ = _; rw [h, Option.bind_some]
  show instK σ₁ n _ = _
  rw [instK_at h1, attrsK_at h2]; rfl
theorem e_comp {own : Bool} {gs : MGs} {r : V × Store} (h : genM K O (fun ρ σ => evalM K O ρ σ e) (gs.names.map (fun x => (x, Option.none)) ++ ρ) ρ [] σ gs = some (ρ', vs, σ₁)) (k : newL own vs σ₁ = some r) : evalM K O ρ σ (.comp own e gs) = some r := by
  show Option.bind _ _ = _; rw [h]; exact k
theorem e_and {r : Option (V × Store)} (h : boolM K O ρ σ true es = r) : evalM K O ρ σ (.and es) = r := by
  exact h
theorem e_or {r : Option (V × Store)} (h : boolM K O ρ σ false es = r) : evalM K O ρ σ (.or es) = r := by
  exact h
theorem b_one {q : Bool} {r : Option (V × Store)} (h : evalM K O ρ σ e = r) : boolM K O ρ σ q (.cons e .nil) = r := by
  exact h
theorem b_stop {q t : Bool} (h : evalM K O ρ σ a = some (v, σ₁)) (k : truthV σ₁ v = some t) (n : t ≠ q) : boolM K O ρ σ q (.cons a (.cons b es)) = some (v, σ₁) := by
  show Option.bind _ _ = _; rw [h, Option.bind_some]
  dsimp only
  rw [k, Option.bind_some]; try dsimp only
  rw [if_neg n]
theorem b_go {q t : Bool} {r : Option (V × Store)} (h : evalM K O ρ σ a = some (v, σ₁)) (k : truthV σ₁ v = some t) (n : t = q) (z : boolM K O ρ σ₁ q (.cons b es) = r) : boolM K O ρ σ q (.cons a (.cons b es)) = r := by
  show Option.bind _ _ = _; rw [h, Option.bind_some]
  dsimp only
  rw [k, Option.bind_some]; try dsimp only
  rw [if_pos n]; exact z
theorem t_none : testM K O ρ σ .none = some (false, σ) := rfl
theorem t_bool {q : Bool} : testM K O ρ σ (.bool q) = some (q, σ) := rfl
theorem t_not {t : Bool} (h : testM K O ρ σ a = some (t, σ₁)) : testM K O ρ σ (.not a) = some (!t, σ₁) := by
  show Option.bind _ _ = _; rw [h]; rfl
theorem t_and {r : Option (Bool × Store)} (h : allM K O ρ σ true es = r) : testM K O ρ σ (.and es) = r := by
  exact h
theorem t_or {r : Option (Bool × Store)} (h : allM K O ρ σ false es = r) : testM K O ρ σ (.or es) = r := by
  exact h
theorem t_var {q : String} {t : Bool} (h : look ρ q = some v) (k : truthV σ v = some t) : testM K O ρ σ (.var q) = some (t, σ) := by
  show Option.bind _ _ = _; rw [h, Option.bind_some]; try dsimp only
  rw [k]; rfl
theorem t_cmp {op : CmpOp} {t : Bool} (h : evalM K O ρ σ a = some (x, σ₁)) (k : evalM K O ρ σ₁ b = some (y, σ₂)) (q : cmpV σ₂ op x y = some (.bool t)) : testM K O ρ σ (.cmp op a b) = some (t, σ₂) := by
  show Option.bind _ _ = _; rw [h, Option.bind_some]; try dsimp only
  rw [k, Option.bind_some]; try dsimp only
  rw [q]; rfl
theorem t_sm {m q : String} {t : Bool} (h : evalM K O ρ σ o = some (x, σ₁)) (hs : smId K.nd K.vd m σ₁ x = some q) (k : evalsM K O ρ σ₁ es = some (vs, σ₂)) (p : smV K.nd K.vd m σ₂ x vs = some (v, σ₃)) (z : truthV σ₃ v = some t) : testM K O ρ σ (.sm o m es) = some (t, σ₃) := by
  show Option.bind _ _ = _; rw [h, Option.bind_some]; try dsimp only
  rw [hs, Option.bind_some]; try dsimp only
  rw [k, Option.bind_some]; try dsimp only
  rw [p, Option.bind_some]; try dsimp only
  rw [z]; rfl
theorem al_nil {q : Bool} : allM K O ρ σ q .nil = some (q, σ) := rfl
theorem al_cons {q t : Bool} {r : Option (Bool × Store)} (h : testM K O ρ σ a = some (t, σ₁)) (k : (if t = q then allM K O ρ σ₁ q es else some (t, σ₁)) = r) : allM K O ρ σ q (.cons a es) = r := by
  show Option.bind _ _ = _; rw [h]; exact k
theorem if_nil : ifsM K O ρ σ .nil = some (true, σ) := rfl
theorem if_one {t : Bool} (h : testM K O ρ σ a = some (t, σ₁)) : ifsM K O ρ σ (.cons a .nil) = some (t, σ₁) := by
  show Option.bind _ _ = _; rw [h, Option.bind_some]; cases t <;> rfl

variable {m : MS} {ms ms' : MSs} {t : MT} {fl : Fl}
theorem x_cons {r} (h : execM K O ρ σ m = some (.next, ρ₁, σ₁)) (k : execsM K O ρ₁ σ₁ ms = r) : execsM K O ρ σ (.cons m ms) = r := by
  show Option.bind _ _ = _; rw [h, Option.bind_some]; exact k
theorem x_stop (h : execM K O ρ σ m = some (.ret v, ρ₁, σ₁)) : execsM K O ρ σ (.cons m ms) = some (.ret v, ρ₁, σ₁) := by
  show Option.bind _ _ = _; rw [h, Option.bind_some]
theorem x_nil : execsM K O ρ σ .nil = some (.next, ρ, σ) := rfl
theorem x_assign (h : evalM K O ρ σ e = some (v, σ₁)) (k : setT ρ t v = some ρ₁) : execM K O ρ σ (.assign t e) = some (.next, ρ₁, σ₁) := by
  show Option.bind _ _ = _; rw [h, Option.bind_some]; try dsimp only
  rw [k]; rfl
theorem x_ret (h : evalM K O ρ σ e = some (v, σ₁)) : execM K O ρ σ (.ret e) = some (.ret v, ρ, σ₁) := by
  show Option.bind _ _ = _; rw [h]; rfl
theorem x_expr (h : evalM K O ρ σ e = some (v, σ₁)) : execM K O ρ σ (.expr e) = some (.next, ρ, σ₁) := by
  show Option.bind _ _ = _; rw [h]; rfl
theorem x_ite {q : Bool} {r} (h : testM K O ρ σ c = some (q, σ₁)) (k : (if q then execsM K O ρ σ₁ ms else execsM K O ρ σ₁ ms') = r) : execM K O ρ σ (.ite c ms ms') = r := by
  show Option.bind _ _ = _; rw [h]; exact k
theorem x_for {r} (h : evalM K O ρ σ e = some (x, σ₁)) (hv : iterOf σ₁ x = some vs) (k : loopM (fun v ρ σ => (setT ρ t v).bind fun ρ => execsM K O ρ σ ms) (still x vs) vs ρ σ₁ = r) : execM K O ρ σ (.for t e ms) = r := by
  show Option.bind _ _ = _; rw [h, Option.bind_some]
  dsimp only
  rw [hv]; exact k
theorem x_setall {n : Nat} {us ws : List V} (h : evalM K O ρ σ e = some (.list ws, σ₁)) (k : evalM K O ρ σ₁ o = some (.own n, σ₂)) (q : σ₂[n]? = some (.lst us)) (hl : us.length + ws.length ≤ 4000) : execM K O ρ σ (.setall o e) = some (.next, ρ, σ₂.set n (.lst ws)) := by
  show Option.bind _ _ = _; rw [h, Option.bind_some]
  show Option.bind _ _ = _; rw [k, Option.bind_some]
  show lstK σ₂ n _ = _
  rw [lstK_at q, if_pos hl]
theorem x_setattr {n d : Nat} (h : evalM K O ρ σ e = some (v, σ₁)) (k : evalM K O ρ σ₁ o = some (.own n, σ₂)) (q : σ₂[n]? = some (.inst d)) (q2 : σ₂[d]? = some (.attrs none)) : execM K O ρ σ (.setattr o e) = some (.next, ρ, σ₂.set d (.attrs (some v))) := by
  show Option.bind _ _ = _; rw [h, Option.bind_some]
  show Option.bind _ _ = _; rw [k, Option.bind_some]
  show instK σ₂ n _ = _
  rw [instK_at q, attrsK_at q2]; rfl
theorem x_setitem {n : Nat} (h : evalM K O ρ σ e = some (v, σ₁)) (k : evalM K O ρ σ₁ o = some (.own n, σ₂)) (k2 : evalM K O ρ σ₂ i = some (y, σ₃)) (hi : isInst σ₃ n = true) (q : O "Headers.__setitem__" [.own n, y, v] [] σ₃ = some (x, σ₄)) : execM K O ρ σ (.setitem o i e) = some (.next, ρ, σ₄) := by
  show Option.bind _ _ = _; rw [h, Option.bind_some]
  show Option.bind _ _ = _; rw [k, Option.bind_some]
  show Option.bind _ _ = _; rw [k2, Option.bind_some]
  show (if isInst σ₃ n = true then _ else _) = _
  rw [if_pos hi, q]; rfl
theorem x_del {n : Nat} (k : evalM K O ρ σ o = some (.own n, σ₁)) (k2 : evalM K O ρ σ₁ i = some (y, σ₂)) (hi : isInst σ₂ n = true) (q : O "Headers.__delitem__" [.own n, y] [] σ₂ = some (x, σ₃)) : execM K O ρ σ (.del o i) = some (.next, ρ, σ₃) := by
  show Option.bind _ _ = _; rw [k, Option.bind_some]
  show Option.bind _ _ = _; rw [k2, Option.bind_some]
  show (if isInst σ₂ n = true then _ else _) = _
  rw [if_pos hi, q]; rfl
theorem g_one {el : Rho → Store → Option (V × Store)} {ρ₀ : Rho} {acc : List V} {it : ME} {ifs : MEs} {r : Option (Rho × List V × Store)} (h : evalM K O ρ₀ σ it = some (x, σ₁)) (hv : iterC σ₁ x = some vs)
    (k : compM (fun v ρ acc σ => (setT ρ t v).bind fun ρ => (ifsM K O ρ σ ifs).bind fun (b, σ) => if b then (el ρ σ).bind fun (v, σ) => if acc.length ≤ 1000 then some (ρ, acc ++ [v], σ) else none else some (ρ, acc, σ)) (still x vs) vs ρ acc σ₁ = r) :
    genM K O el ρ ρ₀ acc σ (.cons t it ifs .nil) = r := by
  show Option.bind _ _ = _; rw [h, Option.bind_some]
  dsimp only
  rw [hv]; exact k
theorem turn_in {el : Rho → Store → Option (V × Store)} {ifs : MEs} {acc : List V} (h : setT ρ t x = some ρ₁) (k : ifsM K O ρ₁ σ ifs = some (true, σ₁)) (q : el ρ₁ σ₁ = some (v, σ₂)) (hl : acc.length ≤ 1000) :
    ((setT ρ t x).bind fun ρ => (ifsM K O ρ σ ifs).bind fun (b, σ) => if b then (el ρ σ).bind fun (v, σ) => if acc.length ≤ 1000 then some (ρ, acc ++ [v], σ) else none else some (ρ, acc, σ)) = some (ρ₁, acc ++ [v], σ₂) := by
  rw [h, Option.bind_some]; try dsimp only
  rw [k, Option.bind_some]
  dsimp only
  rw [if_pos rfl, q, Option.bind_some]; try dsimp only
  rw [if_pos hl]
theorem turn_out {el : Rho → Store → Option (V × Store)} {ifs : MEs} {acc : List V} (h : setT ρ t x = some ρ₁) (k : ifsM K O ρ₁ σ ifs = some (false, σ₁)) :
    ((setT ρ t x).bind fun ρ => (ifsM K O ρ σ ifs).bind fun (b, σ) => if b then (el ρ σ).bind fun (v, σ) => if acc.length ≤ 1000 then some (ρ, acc ++ [v], σ) else none else some (ρ, acc, σ)) = some (ρ₁, acc, σ₁) := by
  rw [h, Option.bind_some]; try dsimp only
  rw [k, Option.bind_some]
  dsimp only
  rw [if_neg (by nofun)]
end

section
variable {K : Cfg} {O : Orc} {ρ ρ₁ ρ' : Rho} {σ σ₁ σ₂ σ₃ σ₄ σ' : Store} {a b c e o i : ME} {es : MEs} {x y v : V} {vs : List V} {m : MS} {ms ms' : MSs}
theorem e_ife_t {r : Option (V × Store)} (h : testM K O ρ σ c = some (true, σ₁)) (k : evalM K O ρ σ₁ a = r) : evalM K O ρ σ (.ife c a b) = r := e_ife h k
theorem e_ife_f {r : Option (V × Store)} (h : testM K O ρ σ c = some (false, σ₁)) (k : evalM K O ρ σ₁ b = r) : evalM K O ρ σ (.ife c a b) = r := e_ife h k
theorem b_stop_t (h : evalM K O ρ σ a = some (v, σ₁)) (k : truthV σ₁ v = some false) : boolM K O ρ σ true (.cons a (.cons b es)) = some (v, σ₁) := b_stop h k nofun
theorem b_stop_f (h : evalM K O ρ σ a = some (v, σ₁)) (k : truthV σ₁ v = some true) : boolM K O ρ σ false (.cons a (.cons b es)) = some (v, σ₁) := b_stop h k nofun
theorem b_go_t {r : Option (V × Store)} (h : evalM K O ρ σ a = some (v, σ₁)) (k : truthV σ₁ v = some true) (z : boolM K O ρ σ₁ true (.cons b es) = r) : boolM K O ρ σ true (.cons a (.cons b es)) = r := b_go h k rfl z
theorem b_go_f {r : Option (V × Store)} (h : evalM K O ρ σ a = some (v, σ₁)) (k : truthV σ₁ v = some false) (z : boolM K O ρ σ₁ false (.cons b es) = r) : boolM K O ρ σ false (.cons a (.cons b es)) = r := b_go h k rfl z
theorem t_not_t (h : testM K O ρ σ a = some (false, σ₁)) : testM K O ρ σ (.not a) = some (true, σ₁) := t_not h
theorem t_not_f (h : testM K O ρ σ a = some (true, σ₁)) : testM K O ρ σ (.not a) = some (false, σ₁) := t_not h
theorem al_stop_t (h : testM K O ρ σ a = some (false, σ₁)) : allM K O ρ σ true (.cons a es) = some (false, σ₁) := al_cons h rfl
theorem al_stop_f (h : testM K O ρ σ a = some (true, σ₁)) : allM K O ρ σ false (.cons a es) = some (true, σ₁) := al_cons h rfl
theorem al_go_t {r : Option (Bool × Store)} (h : testM K O ρ σ a = some (true, σ₁)) (k : allM K O ρ σ₁ true es = r) : allM K O ρ σ true (.cons a es) = r := al_cons h k
theorem al_go_f {r : Option (Bool × Store)} (h : testM K O ρ σ a = some (false, σ₁)) (k : allM K O ρ σ₁ false es = r) : allM K O ρ σ false (.cons a es) = r := al_cons h k
theorem x_ite_t {r} (h : testM K O ρ σ c = some (true, σ₁)) (k : execsM K O ρ σ₁ ms = r) : execM K O ρ σ (.ite c ms ms') = r := x_ite h k
theorem x_ite_f {r} (h : testM K O ρ σ c = some (false, σ₁)) (k : execsM K O ρ σ₁ ms' = r) : execM K O ρ σ (.ite c ms ms') = r := x_ite h k
theorem nl_own (hl : vs.length ≤ 1000) : newL true vs σ = some (.own σ.length, σ ++ [.lst vs]) := by unfold newL; rw [if_pos hl]; rfl
theorem nl_not (hl : vs.length ≤ 1000) : newL false vs σ = some (.list vs, σ) := by unfold newL; rw [if_pos hl]; rfl
theorem sv_hit {q : String} {w : Option V} {r : Rho} : setv ((q, w) :: r) q v = some ((q, some v) :: r) := by unfold setv; rw [if_pos rfl]
theorem sv_skip {p q : String} {w : Option V} {r r' : Rho} (h : decide (q = p) = false) (k : setv r q v = some r') : setv ((p, w) :: r) q v = some ((p, w) :: r') := by
  unfold setv; rw [if_neg (of_decide_eq_false h), k]; rfl
theorem sT_one {q : String} (h : setv ρ q v = some ρ₁) : setT ρ (.one q) v = some ρ₁ := h
theorem sT_tup {qs : List String} (h : setTup ρ qs vs = some ρ₁) : setT ρ (.tup qs) (.tuple vs) = some ρ₁ := h
theorem sp_nil : setTup ρ [] [] = some ρ := rfl
theorem sp_cons {q : String} {qs : List String} (h : setv ρ q v = some ρ₁) (k : setTup ρ₁ qs vs = some ρ') : setTup ρ (q :: qs) (v :: vs) = some ρ' := by
  unfold setTup; rw [h]; exact k
end
theorem hm_conv : "Headers." ++ "_convert_string_type" = "Headers._convert_string_type" := by decide
theorem hm_get : "Headers." ++ "get" = "Headers.get" := by decide
theorem hm_items : "Headers." ++ "items" = "Headers.items" := by decide
theorem hm_sd : "Headers." ++ "setdefault" = "Headers.setdefault" := by decide
theorem hm_add : "Headers." ++ "add_header" = "Headers.add_header" := by decide
theorem hm_getall : "Headers." ++ "get_all" = "Headers.get_all" := by decide
theorem call_of {K : Cfg} {T : List (String × Fn)} {n : Nat} {f : String} {fn : Fn} {args : List V} {kws : List (String × V)} {σ τ τ' σ' : Store} {ρ : Rho} {v d : V} (hT : T.lookup f = some fn)
    (hb : fn.binds (if args.length < fn.pos.length then args ++ fn.dfl.drop (fn.dfl.length - (fn.pos.length - args.length)) else args) kws σ = some (ρ, τ))
    (he : ∃ ρ', execsM K (callM K T n) ρ τ fn.body = some (.ret v, ρ', τ')) (hf : fin σ.length v τ' = (d, σ')) : callM K T (n+1) f args kws σ = some (d, σ') := by
  obtain ⟨ρ', he⟩ := he
  unfold callM
  simp only [hT, Option.bind_some, hb, he, hf]
theorem call_next {K : Cfg} {T : List (String × Fn)} {n : Nat} {f : String} {fn : Fn} {args : List V} {kws : List (String × V)} {σ τ τ' σ' : Store} {ρ : Rho} {d : V} (hT : T.lookup f = some fn)
    (hb : fn.binds (if args.length < fn.pos.length then args ++ fn.dfl.drop (fn.dfl.length - (fn.pos.length - args.length)) else args) kws σ = some (ρ, τ))
    (he : ∃ ρ', execsM K (callM K T n) ρ τ fn.body = some (.next, ρ', τ')) (hf : fin σ.length .none τ' = (d, σ')) : callM K T (n+1) f args kws σ = some (d, σ') := by
  obtain ⟨ρ', he⟩ := he
  unfold callM
  simp only [hT, Option.bind_some, hb, he, hf]
end

-- EV begin
local macro_rules | `(tactic| walk_at "EV") => do
  let mut t ← `(tactic| first | assumption | ((with_reducible first | apply nl_own | apply nl_not) <;> walk_at "EV") | exact rfl | (simp only [List.length_map, List.length_append, List.length_cons, List.length_nil]; omega) | omega | first | exact hm_conv | exact hm_get | exact hm_items | exact hm_sd | exact hm_add | exact hm_getall)
  for n in "x_cons x_stop x_ite_f x_ite_t al_go_f al_go_t al_stop_f al_stop_t t_not_f t_not_t b_go_f b_go_t b_stop_f b_stop_t e_ife_f e_ife_t sp_cons sv_skip sT_tup sT_one x_del x_setitem x_setattr x_setall x_expr x_assign x_ret if_one t_sm t_cmp t_var t_or t_and b_one e_or e_and e_attr e_sm e_new e_meth e_bi e_call e_slice e_neg e_not e_idx e_cmp e_bin e_list e_tuple o_yes k_cons es_cons e_var sp_nil sv_hit x_nil if_nil al_nil t_bool t_none o_no k_nil es_nil e_tyn e_glob e_bool e_none e_str e_int".splitOn " " do
    t ← `(tactic| first | ((with_reducible apply $(Lean.mkIdent (Lean.Name.mkSimple n))) <;> walk_at "EV") | $t:tactic)
  return t
-- EV end
section

noncomputable def Closed (σ : Store) : Prop := σ.all (OObj.under σ.length) = true
theorem pick_runL {α : Type} (xs : List α) (a : Nat) : ∀ k : Nat, ((List.range k).map (a + ·)).filterMap (xs[·]?) = (xs.drop a).take k
  | 0 => by simp
  | k + 1 => by
    rw [List.range_succ, List.map_append, List.filterMap_append, pick_runL xs a k, List.take_add_one]
    congr 1
    simp only [List.map_cons, List.map_nil, List.getElem?_drop]
    cases h : xs[a + k]? <;> simp [h]
theorem pickL_plain {α : Type} (xs : List α) (lo hi : Option Int) : pickL xs lo hi none = (xs.drop (lo.elim 0 (clipAt xs.length))).take (hi.elim xs.length (clipAt xs.length) - lo.elim 0 (clipAt xs.length)) := by
  unfold pickL
  rw [sliceBounds_plain]
  simp only [sliceRange_one, pick_runL]
theorem pickL_all {α : Type} (xs : List α) : pickL xs none none none = xs := by
  rw [pickL_plain]; simp
theorem pickL_mem {α : Type} {xs : List α} {lo hi st : Option Int} {x : α} (h : x ∈ pickL xs lo hi st) : x ∈ xs := by
  obtain ⟨i, _, e⟩ := List.mem_filterMap.mp h
  exact List.mem_of_getElem? e
theorem pickL_map {α β : Type} (f : α → β) (xs : List α) (lo hi st : Option Int) : pickL (xs.map f) lo hi st = (pickL xs lo hi st).map f := by
  unfold pickL
  rw [List.length_map, List.map_filterMap]
  congr 1
  funext i
  rw [List.getElem?_map]
theorem pickL_len {α : Type} (xs : List α) (lo hi st : Option Int) : (pickL xs lo hi st).length ≤ xs.length := by
  unfold pickL
  refine Nat.le_trans (List.length_filterMap_le _ _) (sliceRange_length_le _ _ _ _ (fun hc => ?_) fun hc => ?_)
  · simp only [sliceBounds] at hc ⊢
    simp only [hc, if_true]
    constructor
    · cases lo with
      | none => simp
      | some i => dsimp only; omega
    · cases hi with
      | none => simp
      | some i => dsimp only; omega
  · simp only [sliceBounds] at hc ⊢
    simp only [hc, if_false]
    constructor
    · cases lo with
      | none => simp
      | some i => dsimp only; omega
    · cases hi with
      | none => simp
      | some i => dsimp only; omega

structure HT (K : Cfg) (T : List (String × Fn)) : Prop where
  ne : ¬ K.vd = K.nd
  conv : T.lookup "Headers._convert_string_type" = some (fn_Hconvert_string_type K)
  seti : T.lookup "Headers.__setitem__" = some (fn_H_setitem K)
  deli : T.lookup "Headers.__delitem__" = some (fn_H_delitem K)
  get : T.lookup "Headers.get" = some (fn_H_get K)
  items : T.lookup "Headers.items" = some (fn_H_items K)
  sd : T.lookup "Headers.setdefault" = some (fn_H_setdefault K)
  add : T.lookup "Headers.add_header" = some (fn_H_add_header K)
  init : T.lookup "Headers.__init__" = some (fn_H_init K)

noncomputable def NmOk (x : List Nat) : Prop := x.length ≤ 1000 ∧ ∀ c ∈ x, 32 ≤ c ∧ c < 127
noncomputable def VlOk (x : List Nat) : Prop := x.length ≤ 1000 ∧ ∀ c ∈ x, 32 ≤ c ∧ c ≠ 127 ∧ c < 0x110000

theorem fin_len {τ : Store} {n : Nat} {v : V} (h : n = τ.length) : fin n v τ = (v, τ) := by
  subst h
  unfold fin
  rw [List.take_length]
  split
  · split
    · rename_i k
      split
      · rfl
      · rename_i hk
        have : ownLst τ k = none := by unfold ownLst; rw [List.getElem?_eq_none (Nat.le_of_not_lt hk)]
        rw [this]
    · split <;> rfl
  · rfl

mutual
theorem _root_.Mine.V.under_mono {n m : Nat} (h : n ≤ m) : ∀ {v : V}, v.under n = true → v.under m = true
  | .none, _ => rfl
  | .bool _, _ => rfl
  | .int _, _ => rfl
  | .str _, _ => rfl
  | .tuple l, q => V.unders_mono h (vs := l) q
  | .list l, q => V.unders_mono h (vs := l) q
  | .own k, q => decide_eq_true (Nat.lt_of_lt_of_le (of_decide_eq_true (show decide (k < n) = true from q)) h)
  | .gl _, _ => rfl
  | .ty _, _ => rfl
  | .rng _ _ _, _ => rfl
  | .items k, q => decide_eq_true (Nat.lt_of_lt_of_le (of_decide_eq_true (show decide (k < n) = true from q)) h)
theorem _root_.Mine.V.unders_mono {n m : Nat} (h : n ≤ m) : ∀ {vs : List V}, V.unders n vs = true → V.unders m vs = true
  | [], _ => rfl
  | v :: r, q => by
    have q : (v.under n && V.unders n r) = true := q
    rw [Bool.and_eq_true] at q
    show (v.under m && V.unders m r) = true
    rw [V.under_mono h q.1, V.unders_mono h q.2]; rfl
end
theorem _root_.Mine.OObj.under_mono {n m : Nat} (h : n ≤ m) {o : OObj} (q : o.under n = true) : o.under m = true := by
  cases o with
  | lst vs => exact V.unders_mono h q
  | inst d => exact decide_eq_true (Nat.lt_of_lt_of_le (of_decide_eq_true (show decide (d < n) = true from q)) h)
  | attrs v => cases v with
    | none => rfl
    | some v => exact V.under_mono h q
  | dct es =>
    have q : es.all (fun p => p.2.under n) = true := q
    show es.all (fun p => p.2.under m) = true
    rw [List.all_eq_true] at q ⊢
    exact fun p hp => V.under_mono h (q p hp)
theorem fin_cut {τ ρ : Store} {n : Nat} {v : V} (hc : Closed τ) (hn : n = τ.length) (hv : ∀ k, v ≠ .own k) (hu : v.under n = true) : fin n v (τ ++ ρ) = (v, τ) := by
  subst hn
  unfold fin
  rw [List.take_left]
  rw [if_pos (show τ.all _ = true from hc)]
  cases v <;> first | exact absurd rfl (hv _) | (dsimp only; rw [if_pos hu])
variable {K : Cfg} {T : List (String × Fn)}
theorem conv_name (H : HT K T) {n : Nat} {σ : Store} {h : V} {x : List Nat} (hx : NmOk x) :
    callM K T (n+1) "Headers._convert_string_type" [h, .str x] [("name", .bool true)] σ = some (.str x, σ) := by
  have h1 : smId K.nd K.vd "search" σ (.gl K.nd) = some "re.Pattern.search" := by unfold smId; dsimp only; rw [if_pos ⟨rfl, .inl rfl⟩]
  have h2 : smV K.nd K.vd "search" σ (.gl K.nd) [.str x] = some (.none, σ) := by
    have hs : x.all (fun c => decide (32 ≤ c) && c != 127) = true := by
      rw [List.all_eq_true]; intro c hc; have := hx.2 c hc; simp; omega
    show searchS K.nd K.vd σ (.gl K.nd) [.str x] = _
    exact if_pos ⟨Nat.le_trans hx.1 (by decide), .inl ⟨rfl, hs⟩⟩
  refine call_of (v := .str x) (τ' := σ) (ρ := [("self", some h), ("value", some (.str x)), ("name", some (.bool true)), ("regex", none)]) H.conv (by rfl) ?_ (fin_len rfl)
  apply Exists.intro
  dsimp only [fn_Hconvert_string_type]
  walk_at "EV"
theorem conv_val (H : HT K T) {n : Nat} {σ : Store} {h : V} {x : List Nat} (hx : VlOk x) :
    callM K T (n+1) "Headers._convert_string_type" [h, .str x] [("name", .bool false)] σ = some (.str x, σ) := by
  have h1 : smId K.nd K.vd "search" σ (.gl K.vd) = some "re.Pattern.search" := by unfold smId; dsimp only; rw [if_pos ⟨rfl, .inr rfl⟩]
  have h2 : smV K.nd K.vd "search" σ (.gl K.vd) [.str x] = some (.none, σ) := by
    have hs : x.all (fun c => (decide (32 ≤ c) || c == 9) && c != 127) = true := by
      rw [List.all_eq_true]; intro c hc; have := hx.2 c hc; simp; omega
    show searchS K.nd K.vd σ (.gl K.vd) [.str x] = _
    exact if_pos ⟨Nat.le_trans hx.1 (by decide), .inr ⟨rfl, hs⟩⟩
  refine call_of (v := .str x) (τ' := σ) (ρ := [("self", some h), ("value", some (.str x)), ("name", some (.bool false)), ("regex", none)]) H.conv (by rfl) ?_ (fin_len rfl)
  apply Exists.intro
  dsimp only [fn_Hconvert_string_type]
  walk_at "EV"
abbrev Hs := List (List Nat × List Nat)
noncomputable def pr (p : List Nat × List Nat) : V := .tuple [.str p.1, .str p.2]
noncomputable def HsOk (hs : Hs) : Prop := ∀ p ∈ hs, NmOk p.1 ∧ VlOk p.2
structure Tb (σ : Store) (h l : Nat) (hs : Hs) : Prop where
  d : ∃ d, σ[h]? = some (.inst d) ∧ σ[d]? = some (.attrs (some (.own l)))
  l : σ[l]? = some (.lst (hs.map pr))
noncomputable def lw (x : List Nat) : List Nat := x.map lowerN
theorem lw_ok {x : List Nat} (h : NmOk x) : lowerT x = some (lw x) := by
  unfold lowerT
  rw [if_pos]
  · rfl
  · refine ⟨?_, by have := h.1; omega⟩
    rw [List.all_eq_true]; intro c hc; have := h.2 c hc; simp; omega
theorem lw_nm {x : List Nat} (h : NmOk x) : NmOk (lw x) := by
  refine ⟨by simpa [lw] using h.1, fun c hc => ?_⟩
  obtain ⟨d, hd, e⟩ := List.mem_map.mp hc
  have := h.2 d hd
  unfold lowerN at e
  split at e <;> omega

theorem compM_keep {step : V → Rho → List V → Store → Option (Rho × List V × Store)} {ok : Store → Bool} {σ : Store} (P : Rho → Prop) (f : V → List V) (hok : ok σ = true) :
    ∀ {vs : List V}, (∀ v ∈ vs, (f v).length ≤ 1) → (∀ v ∈ vs, ∀ ρ acc, P ρ → acc.length ≤ 1000 → ∃ ρ', P ρ' ∧ step v ρ acc σ = some (ρ', acc ++ f v, σ)) → ∀ {ρ acc}, P ρ → acc.length + vs.length ≤ 1000 → ∃ ρ', P ρ' ∧ compM step ok vs ρ acc σ = some (ρ', acc ++ vs.flatMap f, σ) := by
  intro vs
  induction vs with
  | nil => intro _ _ ρ acc hP _; exact ⟨ρ, hP, by simp [compM, hok]⟩
  | cons v r ih =>
    intro h1 hs ρ acc hP hl
    rw [List.length_cons] at hl
    obtain ⟨ρ', hP', e⟩ := hs v (.head _) ρ acc hP (by omega)
    have hv := h1 v (.head _)
    obtain ⟨ρ'', hP'', e'⟩ := ih (fun v hv => h1 v (.tail _ hv)) (fun v hv => hs v (.tail _ hv)) (ρ := ρ') (acc := acc ++ f v) hP' (by rw [List.length_append]; omega)
    refine ⟨ρ'', hP'', ?_⟩
    unfold compM
    rw [if_pos hok, e, Option.bind_some]
    dsimp only
    rw [e', List.flatMap_cons, List.append_assoc]

theorem loopM_seek {step : V → Rho → Store → Option (Fl × Rho × Store)} {ok : Store → Bool} {σ : Store} (P : Rho → Prop) (f : V → Option V) (hok : ok σ = true) :
    ∀ {vs : List V}, (∀ v ∈ vs, ∀ ρ, P ρ → ∃ ρ', P ρ' ∧ step v ρ σ = some ((match f v with | some w => Fl.ret w | none => Fl.next), ρ', σ)) → ∀ {ρ}, P ρ → ∃ ρ', P ρ' ∧ loopM step ok vs ρ σ = some ((match vs.findSome? f with | some w => Fl.ret w | none => Fl.next), ρ', σ) := by
  intro vs
  induction vs with
  | nil => intro _ ρ hP; exact ⟨ρ, hP, by simp [loopM, hok]⟩
  | cons v r ih =>
    intro hs ρ hP
    obtain ⟨ρ', hP', e⟩ := hs v (.head _) ρ hP
    cases hf : f v with
    | some w =>
      rw [hf] at e
      refine ⟨ρ', hP', ?_⟩
      unfold loopM
      rw [if_pos hok, e, Option.bind_some, List.findSome?_cons, hf]
    | none =>
      rw [hf] at e
      obtain ⟨ρ'', hP'', e'⟩ := ih (fun v hv => hs v (.tail _ hv)) hP'
      refine ⟨ρ'', hP'', ?_⟩
      unfold loopM
      rw [if_pos hok, e, Option.bind_some, List.findSome?_cons, hf]
      exact e'
theorem loopM_keep {step : V → Rho → Store → Option (Fl × Rho × Store)} {ok : Store → Bool} {σ : Store} (P : Rho → Prop) (hok : ok σ = true)
    {vs : List V} (hs : ∀ v ∈ vs, ∀ ρ, P ρ → ∃ ρ', P ρ' ∧ step v ρ σ = some (Fl.next, ρ', σ)) {ρ} (hP : P ρ) : ∃ ρ', P ρ' ∧ loopM step ok vs ρ σ = some (Fl.next, ρ', σ) := by
  have := loopM_seek P (fun _ => none) hok hs hP
  rwa [show vs.findSome? (fun _ => (none : Option V)) = none from by simp] at this
noncomputable def Turn (K : Cfg) (O : Orc) (σ : Store) (e : ME) (t : MT) (ifs : MEs) (P : Rho → Prop) (f : V → List V) (v : V) (ρ : Rho) : Prop :=
  ∃ ρ₁ b, setT ρ t v = some ρ₁ ∧ P ρ₁ ∧ ifsM K O ρ₁ σ ifs = some (b, σ) ∧ if b then ∃ w, evalM K O ρ₁ σ e = some (w, σ) ∧ f v = [w] else f v = []
theorem e_comp1 {O : Orc} {ρ : Rho} {σ : Store} {own : Bool} {e it : ME} {t : MT} {ifs : MEs} {x : V} {vs : List V} {r : V × Store} (P : Rho → Prop) (f : V → List V) (h : evalM K O ρ σ it = some (x, σ)) (hv : iterC σ x = some vs) (hst : still x vs σ = true)
    (turn : ∀ v ∈ vs, ∀ ρ, P ρ → Turn K O σ e t ifs P f v ρ)
    (hP : P (t.names.map (fun x => (x, none)) ++ (".0", none) :: ρ)) (hl : vs.length ≤ 1000) (hn : newL own (vs.flatMap f) σ = some r) : evalM K O ρ σ (.comp own e (.cons t it ifs .nil)) = some r := by
  have hr : (MGs.cons t it ifs .nil).names.map (fun x => (x, (none : Option V))) ++ ρ = t.names.map (fun x => (x, none)) ++ (".0", none) :: ρ := by simp [MGs.names]
  obtain ⟨ρ', -, hc⟩ := compM_keep (step := fun v ρ acc σ => (setT ρ t v).bind fun ρ => (ifsM K O ρ σ ifs).bind fun (b, σ) => if b then (evalM K O ρ σ e).bind fun (v, σ) => if acc.length ≤ 1000 then some (ρ, acc ++ [v], σ) else none else some (ρ, acc, σ)) (ok := still x vs) P f hst (vs := vs) (fun v hv => by
      by_cases hp : ∃ ρ, P ρ
      · obtain ⟨ρ, hp⟩ := hp
        obtain ⟨_, b, _, _, _, q⟩ := turn v hv ρ hp
        cases b with
        | true => obtain ⟨w, _, q⟩ := q; rw [q]; simp
        | false => rw [show f v = [] from q]; simp
      · exact absurd ⟨_, hP⟩ hp) (fun v hv ρ acc hp ha => by
      obtain ⟨ρ₁, b, q1, q2, q3, q⟩ := turn v hv ρ hp
      refine ⟨ρ₁, q2, ?_⟩
      cases b with
      | true =>
        obtain ⟨w, q4, q5⟩ := q
        rw [q5]; exact turn_in (el := fun ρ σ => evalM K O ρ σ e) q1 q3 q4 ha
      | false =>
        rw [show f v = [] from q, List.append_nil]; exact turn_out (el := fun ρ σ => evalM K O ρ σ e) q1 q3) hP (acc := []) (by simpa using hl)
  refine e_comp (ρ' := ρ') (g_one h hv ?_) hn
  rw [hr]; exact hc
theorem tr_yes {O : Orc} {ρ ρ₁ : Rho} {σ : Store} {e : ME} {t : MT} {ifs : MEs} {v w : V} {P : Rho → Prop} {f : V → List V} (h : setT ρ t v = some ρ₁) (hp : P ρ₁) (k : ifsM K O ρ₁ σ ifs = some (true, σ)) (q : evalM K O ρ₁ σ e = some (w, σ)) (hf : f v = [w]) :
    Turn K O σ e t ifs P f v ρ := ⟨ρ₁, true, h, hp, k, w, q, hf⟩
theorem tr_no {O : Orc} {ρ ρ₁ : Rho} {σ : Store} {e : ME} {t : MT} {ifs : MEs} {v : V} {P : Rho → Prop} {f : V → List V} (h : setT ρ t v = some ρ₁) (hp : P ρ₁) (k : ifsM K O ρ₁ σ ifs = some (false, σ)) (hf : f v = []) :
    Turn K O σ e t ifs P f v ρ := ⟨ρ₁, false, h, hp, k, hf⟩
theorem x_keep {O : Orc} {ρ : Rho} {σ : Store} {it : ME} {t : MT} {ms : MSs} {x : V} {vs : List V} (P : Rho → Prop) (h : evalM K O ρ σ it = some (x, σ)) (hv : iterOf σ x = some vs) (hst : still x vs σ = true)
    (turn : ∀ v ∈ vs, ∀ ρ, P ρ → ∃ ρ₁ ρ', setT ρ t v = some ρ₁ ∧ execsM K O ρ₁ σ ms = some (.next, ρ', σ) ∧ P ρ') (hP : P ρ) : ∃ ρ', P ρ' ∧ execM K O ρ σ (.for t it ms) = some (.next, ρ', σ) := by
  obtain ⟨ρ', hp, q⟩ := loopM_keep (step := fun v ρ σ => (setT ρ t v).bind fun ρ => execsM K O ρ σ ms) (ok := still x vs) P hst (fun v hv ρ hp => by
    obtain ⟨ρ₁, ρ', q1, q2, q3⟩ := turn v hv ρ hp
    refine ⟨ρ', q3, ?_⟩
    rw [q1]; exact q2) hP
  exact ⟨ρ', hp, x_for h hv q⟩
theorem x_seek {O : Orc} {ρ : Rho} {σ : Store} {it : ME} {t : MT} {ms : MSs} {x : V} {vs : List V} (P : Rho → Prop) (f : V → Option V) (h : evalM K O ρ σ it = some (x, σ)) (hv : iterOf σ x = some vs) (hst : still x vs σ = true)
    (turn : ∀ v ∈ vs, ∀ ρ, P ρ → ∃ ρ₁ ρ', setT ρ t v = some ρ₁ ∧ execsM K O ρ₁ σ ms = some ((match f v with | some w => Fl.ret w | none => Fl.next), ρ', σ) ∧ P ρ') (hP : P ρ) : ∃ ρ', P ρ' ∧ execM K O ρ σ (.for t it ms) = some ((match vs.findSome? f with | some w => Fl.ret w | none => Fl.next), ρ', σ) := by
  obtain ⟨ρ', hp, q⟩ := loopM_seek (step := fun v ρ σ => (setT ρ t v).bind fun ρ => execsM K O ρ σ ms) (ok := still x vs) P f hst (fun v hv ρ hp => by
    obtain ⟨ρ₁, ρ', q1, q2, q3⟩ := turn v hv ρ hp
    refine ⟨ρ', q3, ?_⟩
    rw [q1]; exact q2) hP
  exact ⟨ρ', hp, x_for h hv q⟩
noncomputable def del (hs : Hs) (x : List Nat) : Hs := hs.filter fun p => lw p.1 ≠ lw x
theorem pr_flat (hs : Hs) (x : List Nat) : (hs.map pr).flatMap (fun v => match v with
    | .tuple [.str a, .str b] => if lw a = lw x then [] else [v]
    | _ => []) = (del hs x).map pr := by
  induction hs with
  | nil => rfl
  | cons p r ih =>
    rw [List.map_cons, List.flatMap_cons, ih]
    unfold del
    rw [List.filter_cons]
    by_cases h : lw p.1 = lw x <;> simp [pr, h]

theorem plain_nm {x : List Nat} (h : NmOk x) : ∀ c ∈ x, c < 1114112 := fun c hc => by have := h.2 c hc; omega
theorem eqV_str {a b : List Nat} (ha : NmOk a) (hb : NmOk b) : eqV (.str a) (.str b) = some (decide (a = b)) := by
  have h1 : a.all (fun c => decide (c < 0x110000)) = true := by rw [List.all_eq_true]; intro c hc; have := ha.2 c hc; simp; omega
  have h2 : b.all (fun c => decide (c < 0x110000)) = true := by rw [List.all_eq_true]; intro c hc; have := hb.2 c hc; simp; omega
  unfold eqV
  simp only [V.plain, h1, h2, V.deep, eqb_str]
  have : (a == b) = decide (a = b) := by cases q : (a == b) <;> simp_all
  simp [this]
theorem deli_ok (H : HT K T) {n : Nat} {σ : Store} {h l : Nat} {hs : Hs} {x : List Nat} (B : Tb σ h l hs) (hh : HsOk hs) (hl : hs.length ≤ 900) (hx : NmOk x) :
    callM K T (n+2) "Headers.__delitem__" [.own h, .str x] [] σ = some (.none, σ.set l (.lst ((del hs x).map pr))) := by
  obtain ⟨⟨d, h1, h2⟩, h3⟩ := B
  have hi : isInst σ h = true := by unfold isInst; rw [instK_at h1, attrsK_at h2]; rfl
  have hlow : smV K.nd K.vd "lower" σ (.str x) [] = some (.str (lw x), σ) := by show (lowerT x).map _ = _; rw [lw_ok hx]; rfl
  have hcv := conv_name H (n := n) (σ := σ) (h := .own h) (lw_nm hx)
  have hd : (del hs x).length ≤ hs.length := List.length_filter_le ..
  have hit : iterC σ (.own l) = some (hs.map pr) := by show ownLst σ l = _; unfold ownLst; rw [h3]
  have hc : evalM K (callM K T (n+1)) [("self", some (.own h)), ("name", some (.str (lw x)))] σ (.comp false (.var "kv") (.cons (.one "kv") (.attr (.var "self")) (.cons (.cmp .NotEq (.sm (.idx (.var "kv") (.int 0)) "lower" .nil) (.var "name")) .nil) .nil)) = some (.list ((del hs x).map pr), σ) := by
    rw [← pr_flat]
    refine e_comp1 (fun ρ => ∃ a, ρ = ("kv", a) :: [(".0", none), ("self", some (.own h)), ("name", some (.str (lw x)))]) _ (x := .own l) (by walk_at "EV") hit ?_ ?_ ⟨_, rfl⟩ (by rw [List.length_map]; omega) (nl_not (by rw [pr_flat, List.length_map]; omega))
    · simp only [still, ownLst, h3, V.eqbs_refl]
    · intro v hv ρ hP
      obtain ⟨p, hp, rfl⟩ := List.mem_map.mp hv
      obtain ⟨a, rfl⟩ := hP
      have hp1 := (hh p hp).1
      have hlow : smV K.nd K.vd "lower" σ (.str p.1) [] = some (.str (lw p.1), σ) := by show (lowerT p.1).map _ = _; rw [lw_ok hp1]; rfl
      by_cases e : lw p.1 = lw x
      · have hq : cmpV σ .NotEq (.str (lw p.1)) (.str (lw x)) = some (.bool false) := by show (eqV (.str (lw p.1)) (.str (lw x))).map _ = _; rw [eqV_str (lw_nm hp1) (lw_nm hx), decide_eq_true e]; rfl
        refine tr_no (ρ₁ := ("kv", some (pr p)) :: [(".0", none), ("self", some (.own h)), ("name", some (.str (lw x)))]) ?_ ?_ ?_ ?_
        · walk_at "EV"
        · exact ⟨_, rfl⟩
        · walk_at "EV"
        · exact if_pos e
      · have hq : cmpV σ .NotEq (.str (lw p.1)) (.str (lw x)) = some (.bool true) := by show (eqV (.str (lw p.1)) (.str (lw x))).map _ = _; rw [eqV_str (lw_nm hp1) (lw_nm hx), decide_eq_false e]; rfl
        refine tr_yes (w := pr p) (ρ₁ := ("kv", some (pr p)) :: [(".0", none), ("self", some (.own h)), ("name", some (.str (lw x)))]) ?_ ?_ ?_ ?_ ?_
        · walk_at "EV"
        · exact ⟨_, rfl⟩
        · walk_at "EV"
        · walk_at "EV"
        · exact if_neg e
  refine call_next (τ' := σ.set l (.lst ((del hs x).map pr))) (ρ := [("self", some (.own h)), ("name", some (.str x))]) H.deli (by rfl) ?_ (fin_len (by rw [List.length_set]))
  apply Exists.intro
  dsimp only [fn_H_delitem]
  walk_at "EV"
theorem Tb.set {σ : Store} {h l : Nat} {hs hs' : Hs} (B : Tb σ h l hs) : Tb (σ.set l (.lst (hs'.map pr))) h l hs' := by
  obtain ⟨⟨d, h1, h2⟩, h3⟩ := B
  have n1 : l ≠ h := by rintro rfl; rw [h1] at h3; cases h3
  have n2 : l ≠ d := by rintro rfl; rw [h2] at h3; cases h3
  have hl : l < σ.length := (List.getElem?_eq_some_iff.mp h3).1
  exact ⟨⟨d, by rw [List.getElem?_set_ne n1]; exact h1, by rw [List.getElem?_set_ne n2]; exact h2⟩, by simp [hl]⟩
theorem del_ok {hs : Hs} {x : List Nat} (h : HsOk hs) : HsOk (del hs x) := fun p hp => h p (List.mem_filter.mp hp).1
theorem del_len {hs : Hs} {x : List Nat} : (del hs x).length ≤ hs.length := List.length_filter_le ..
theorem Tb.inst {σ : Store} {h l : Nat} {hs : Hs} (B : Tb σ h l hs) : isInst σ h = true := by
  obtain ⟨⟨d, h1, h2⟩, h3⟩ := B
  unfold isInst; rw [instK_at h1, attrsK_at h2]; rfl
theorem sm_low {σ : Store} {x : List Nat} (h : NmOk x) : smV K.nd K.vd "lower" σ (.str x) [] = some (.str (lw x), σ) := by show (lowerT x).map _ = _; rw [lw_ok h]; rfl
theorem id_app {σ : Store} {l : Nat} {vs : List V} (h : σ[l]? = some (.lst vs)) : smId K.nd K.vd "append" σ (.own l) = some "list.append" := by
  unfold smId; dsimp only; rw [h]; rfl
theorem sm_app {σ : Store} {l : Nat} {vs : List V} {v : V} (h : σ[l]? = some (.lst vs)) (hl : vs.length ≤ 1000) : smV K.nd K.vd "append" σ (.own l) [v] = some (.none, σ.set l (.lst (vs ++ [v]))) := by
  show lstK σ l _ = _
  rw [lstK_at h, if_pos hl]
theorem set_app {σ : Store} {l : Nat} {hs : Hs} {x y : List Nat} : σ.set l (.lst (hs.map pr ++ [.tuple [.str x, .str y]])) = σ.set l (.lst ((hs ++ [(x, y)]).map pr)) := by
  rw [List.map_append]; rfl
theorem seti_ok (H : HT K T) {n : Nat} {σ : Store} {h l : Nat} {hs : Hs} {x y : List Nat} (B : Tb σ h l hs) (hh : HsOk hs) (hl : hs.length ≤ 900) (hx : NmOk x) (hy : VlOk y) :
    callM K T (n+3) "Headers.__setitem__" [.own h, .str x, .str y] [] σ = some (.none, σ.set l (.lst ((del hs x ++ [(x, y)]).map pr))) := by
  have hd := deli_ok H (n := n) B hh hl hx
  have B1 := B.set (hs' := del hs x)
  have hi := B.inst
  have hi1 := B1.inst
  obtain ⟨⟨d, h1, h2⟩, h3⟩ := B1
  have hl' := del_len (hs := hs) (x := x)
  have hl2 : ((del hs x).map pr).length ≤ 1000 := by rw [List.length_map]; omega
  have c1 := conv_name H (n := n + 1) (σ := σ.set l (.lst ((del hs x).map pr))) (h := .own h) hx
  have c2 := conv_val H (n := n + 1) (σ := σ.set l (.lst ((del hs x).map pr))) (h := .own h) hy
  have a1 := id_app (K := K) h3
  have a2 := sm_app (K := K) (v := .tuple [.str x, .str y]) h3 hl2
  rw [List.set_set, set_app] at a2
  refine call_next (τ' := σ.set l (.lst ((del hs x ++ [(x, y)]).map pr))) (ρ := [("self", some (.own h)), ("name", some (.str x)), ("val", some (.str y))]) H.seti (by rfl) ?_ (fin_len (by rw [List.length_set]))
  apply Exists.intro
  dsimp only [fn_H_setitem]
  walk_at "EV"

noncomputable def gets (hs : Hs) (x : List Nat) : Option (List Nat) := (hs.find? fun p => lw p.1 = lw x).map (·.2)
noncomputable def ansV : Option (List Nat) → V
  | some y => .str y
  | none => .none

noncomputable def seekF (x : List Nat) (v : V) : Option V := match v with
  | .tuple [.str a, .str b] => if lw a = lw x then some (.str b) else none
  | _ => none
theorem pr_find (hs : Hs) (x : List Nat) : (hs.map pr).findSome? (seekF x) = (gets hs x).map .str := by
  induction hs with
  | nil => rfl
  | cons p r ih =>
    unfold gets
    rw [List.map_cons, List.findSome?_cons, List.find?_cons]
    by_cases e : lw p.1 = lw x
    · simp [pr, seekF, e]
    · simp [pr, seekF, e]; rw [ih]; simp [gets]
theorem c_str {σ : Store} {a b : List Nat} (ha : NmOk a) (hb : NmOk b) (e : a = b) : cmpV σ .Eq (.str a) (.str b) = some (.bool true) := by
  show (eqV (.str a) (.str b)).map _ = _; rw [eqV_str ha hb, decide_eq_true e]; rfl
theorem c_strn {σ : Store} {a b : List Nat} (ha : NmOk a) (hb : NmOk b) (e : ¬ a = b) : cmpV σ .Eq (.str a) (.str b) = some (.bool false) := by
  show (eqV (.str a) (.str b)).map _ = _; rw [eqV_str ha hb, decide_eq_false e]; rfl
theorem get_ok (H : HT K T) {n : Nat} {σ : Store} {h l : Nat} {hs : Hs} {x : List Nat} (B : Tb σ h l hs) (hh : HsOk hs) (hl : hs.length ≤ 900) (hx : NmOk x) :
    callM K T (n+2) "Headers.get" [.own h, .str x] [] σ = some (ansV (gets hs x), σ) := by
  have hi := B.inst
  obtain ⟨⟨d, h1, h2⟩, h3⟩ := B
  have hlow := sm_low (K := K) (σ := σ) hx
  have hcv := conv_name H (n := n) (σ := σ) (h := .own h) (lw_nm hx)
  have hit : iterOf σ (.own l) = some (hs.map pr) := by show ownLst σ l = _; unfold ownLst; rw [h3]
  obtain ⟨ρ', ⟨a, b, rfl⟩, hf⟩ := x_seek (K := K) (O := callM K T (n+1)) (ρ := [("self", some (.own h)), ("name", some (.str (lw x))), ("default", some .none), ("k", none), ("v", none)]) (σ := σ) (it := .attr (.var "self")) (t := .tup ["k", "v"])
    (ms := (.cons (.ite (.cmp .Eq (.sm (.var "k") "lower" .nil) (.var "name")) (.cons (.ret (.var "v")) .nil) .nil) .nil)) (fun ρ => ∃ a b, ρ = [("self", some (.own h)), ("name", some (.str (lw x))), ("default", some .none), ("k", a), ("v", b)]) (seekF x) (x := .own l) (by walk_at "EV") hit (by simp only [still, ownLst, h3, V.eqbs_refl])
    (fun v hv ρ hP => by
      obtain ⟨p, hp, rfl⟩ := List.mem_map.mp hv
      obtain ⟨a, b, rfl⟩ := hP
      have hp1 := (hh p hp).1
      have hlow := sm_low (K := K) (σ := σ) hp1
      refine ⟨[("self", some (.own h)), ("name", some (.str (lw x))), ("default", some .none), ("k", some (.str p.1)), ("v", some (.str p.2))], [("self", some (.own h)), ("name", some (.str (lw x))), ("default", some .none), ("k", some (.str p.1)), ("v", some (.str p.2))], ?_, ?_, ⟨_, _, rfl⟩⟩
      · unfold pr; walk_at "EV"
      · by_cases e : lw p.1 = lw x
        · have hq := c_str (σ := σ) (lw_nm hp1) (lw_nm hx) e
          rw [show seekF x (pr p) = some (.str p.2) from if_pos e]
          dsimp only
          walk_at "EV"
        · have hq := c_strn (σ := σ) (lw_nm hp1) (lw_nm hx) e
          rw [show seekF x (pr p) = none from if_neg e]
          dsimp only
          walk_at "EV") ⟨_, _, rfl⟩
  rw [pr_find] at hf
  refine call_of (v := ansV (gets hs x)) (τ' := σ) (ρ := [("self", some (.own h)), ("name", some (.str x)), ("default", some .none), ("k", none), ("v", none)]) H.get (by rfl) ?_ (fin_len rfl)
  apply Exists.intro
  dsimp only [fn_H_get]
  cases hg : gets hs x with
  | none =>
    rw [hg] at hf
    have hf : execM _ _ _ _ _ = some (.next, _, _) := hf
    walk_at "EV"
  | some y =>
    rw [hg] at hf
    have hf : execM _ _ _ _ _ = some (.ret (.str y), _, _) := hf
    walk_at "EV"
theorem items_ok (H : HT K T) {n : Nat} {σ : Store} {h l : Nat} {hs : Hs} (B : Tb σ h l hs) (hl : hs.length ≤ 900) :
    callM K T (n+1) "Headers.items" [.own h] [] σ = some (.list (hs.map pr), σ) := by
  obtain ⟨⟨d, h1, h2⟩, h3⟩ := B
  have hs' : sliceV false σ (.own l) none none none = some (.list (hs.map pr), σ) := by
    have hl1 : (hs.map pr).length ≤ 1000 := by rw [List.length_map]; omega
    unfold sliceV
    rw [if_neg (by nofun)]
    dsimp only [lstOf, ownLst]
    rw [h3]
    dsimp only [Option.bind]
    rw [if_pos hl1, pickL_all]
    exact nl_not hl1
  refine call_of (v := .list (hs.map pr)) (τ' := σ) (ρ := [("self", some (.own h))]) H.items (by rfl) ?_ (fin_len rfl)
  apply Exists.intro
  dsimp only [fn_H_items]
  walk_at "EV"
theorem set_same {σ : Store} {l : Nat} {x : OObj} (h : σ[l]? = some x) : σ.set l x = σ := by
  obtain ⟨hl, rfl⟩ := List.getElem?_eq_some_iff.mp h
  exact List.set_getElem_self hl
noncomputable def sdH (hs : Hs) (x y : List Nat) : Hs := match gets hs x with
  | some _ => hs
  | none => hs ++ [(x, y)]
noncomputable def sdA (hs : Hs) (x y : List Nat) : List Nat := (gets hs x).getD y
theorem sd_ok (H : HT K T) {n : Nat} {σ : Store} {h l : Nat} {hs : Hs} {x y : List Nat} (B : Tb σ h l hs) (hh : HsOk hs) (hl : hs.length ≤ 900) (hx : NmOk x) (hy : VlOk y) :
    callM K T (n+3) "Headers.setdefault" [.own h, .str x, .str y] [] σ = some (.str (sdA hs x y), σ.set l (.lst ((sdH hs x y).map pr))) := by
  have hg := get_ok H (n := n) B hh hl hx
  have hi := B.inst
  obtain ⟨⟨d, h1, h2⟩, h3⟩ := B
  cases hgx : gets hs x with
  | some z =>
    rw [hgx] at hg
    have hg : callM _ _ _ _ _ _ _ = some (.str z, σ) := hg
    have e1 : sdH hs x y = hs := by unfold sdH; rw [hgx]
    have e2 : sdA hs x y = z := by unfold sdA; rw [hgx]; rfl
    rw [e1, e2, set_same h3]
    refine call_of (v := .str z) (τ' := σ) (ρ := [("self", some (.own h)), ("name", some (.str x)), ("value", some (.str y)), ("result", none)]) H.sd (by rfl) ?_ (fin_len rfl)
    apply Exists.intro
    dsimp only [fn_H_setdefault]
    walk_at "EV"
  | none =>
    rw [hgx] at hg
    have hg : callM _ _ _ _ _ _ _ = some (.none, σ) := hg
    have e1 : sdH hs x y = hs ++ [(x, y)] := by unfold sdH; rw [hgx]
    have e2 : sdA hs x y = y := by unfold sdA; rw [hgx]; rfl
    have hl1 : (hs.map pr).length ≤ 1000 := by rw [List.length_map]; omega
    have c1 := conv_name H (n := n + 1) (σ := σ) (h := .own h) hx
    have c2 := conv_val H (n := n + 1) (σ := σ) (h := .own h) hy
    have a1 := id_app (K := K) h3
    have a2 := sm_app (K := K) (v := .tuple [.str x, .str y]) h3 hl1
    rw [set_app] at a2
    rw [e1, e2]
    refine call_of (v := .str y) (τ' := σ.set l (.lst ((hs ++ [(x, y)]).map pr))) (ρ := [("self", some (.own h)), ("name", some (.str x)), ("value", some (.str y)), ("result", none)]) H.sd (by rfl) ?_ (fin_len (by rw [List.length_set]))
    apply Exists.intro
    dsimp only [fn_H_setdefault]
    walk_at "EV"
theorem under_pr (n : Nat) (hs : Hs) : V.unders n (hs.map pr) = true := by
  induction hs with
  | nil => rfl
  | cons p r ih => simp [V.unders, pr, V.under, ih]
theorem Closed.set {σ : Store} {l : Nat} {hs : Hs} (h : Closed σ) : Closed (σ.set l (.lst (hs.map pr))) := by
  unfold Closed at h ⊢
  rw [List.length_set, List.all_eq_true]
  intro o ho
  rcases List.mem_or_eq_of_mem_set ho with ho | rfl
  · exact List.all_eq_true.mp h o ho
  · exact under_pr _ hs
theorem get_pre {α : Type} {τ : List α} {i : Nat} {a : α} {r : List α} (h : τ[i]? = some a) : (τ ++ r)[i]? = some a := by
  rw [List.getElem?_append_left (List.getElem?_eq_some_iff.mp h).1]; exact h
theorem get_last {α : Type} {τ : List α} {a : α} : (τ ++ [a])[τ.length]? = some a := by
  rw [List.getElem?_append_right (Nat.le_refl _)]; simp
theorem set_last {α : Type} {τ : List α} {a b : α} : (τ ++ [a]).set τ.length b = τ ++ [b] := by
  rw [List.set_append_right _ _ (Nat.le_refl _)]; simp
theorem Tb.pre {σ : Store} {h l : Nat} {hs : Hs} {r : Store} (B : Tb σ h l hs) : Tb (σ ++ r) h l hs :=
  let ⟨⟨d, a, b⟩, c⟩ := B; ⟨⟨d, get_pre a, get_pre b⟩, get_pre c⟩
theorem add_ok (H : HT K T) {n : Nat} {σ : Store} {h l : Nat} {hs : Hs} {x y : List Nat} (B : Tb σ h l hs) (hcl : Closed σ) (hh : HsOk hs) (hl : hs.length ≤ 900) (hx : NmOk x) (hy : VlOk y) :
    callM K T (n+2) "Headers.add_header" [.own h, .str x, .str y] [] σ = some (.none, σ.set l (.lst ((hs ++ [(x, y)]).map pr))) := by
  have hl1 : (hs.map pr).length ≤ 1000 := by rw [List.length_map]; omega
  have hlt : l < σ.length := (List.getElem?_eq_some_iff.mp B.l).1
  have hb : (fn_H_add_header K).binds [.own h, .str x, .str y] [] σ = some ([("self", some (.own h)), ("_name", some (.str x)), ("_value", some (.str y)), ("_params", some (.own σ.length)), ("parts", none), ("k", none), ("v", none)], σ ++ [.dct []]) := rfl
  have hc2 : Closed (σ.set l (.lst ((hs ++ [(x, y)]).map pr))) := hcl.set
  have hend : List.set ((σ ++ [OObj.dct []]) ++ [OObj.lst [.str y]]) l (.lst (hs.map pr ++ [.tuple [.str x, .str y]])) = σ.set l (.lst ((hs ++ [(x, y)]).map pr)) ++ [OObj.dct [], OObj.lst [.str y]] := by
    rw [set_app, List.append_assoc, List.set_append_left _ _ hlt]; rfl
  have gd : (σ ++ [OObj.dct []])[σ.length]? = some (.dct []) := get_last
  have B1 : Tb (σ ++ [.dct []]) h l hs := B.pre
  generalize hτ : σ ++ [OObj.dct []] = τ at *
  have B2 : Tb (τ ++ [.lst []]) h l hs := B1.pre
  have B3 : Tb (τ ++ [.lst [.str y]]) h l hs := B1.pre
  have i2 := B2.inst
  have i3 := B3.inst
  obtain ⟨⟨d, h1, h2⟩, h3⟩ := B3
  have c1 := conv_val H (n := n) (σ := τ ++ [.lst []]) (h := .own h) hy
  have c2 := conv_name H (n := n) (σ := τ ++ [.lst [.str y]]) (h := .own h) hx
  have a1 := id_app (K := K) (get_last (τ := τ) (a := .lst []))
  have a2 := sm_app (K := K) (v := .str y) (get_last (τ := τ) (a := .lst [])) (by simp)
  rw [set_last] at a2
  have a2 : smV K.nd K.vd "append" (τ ++ [.lst []]) (.own τ.length) [.str y] = some (.none, τ ++ [.lst [.str y]]) := a2
  have b1 := id_app (K := K) h3
  have b2 := sm_app (K := K) (v := .tuple [.str x, .str y]) h3 hl1
  have gd' : (τ ++ [.lst [.str y]])[σ.length]? = some (.dct []) := get_pre gd
  have m1 : smId K.nd K.vd "items" (τ ++ [.lst [.str y]]) (.own σ.length) = some "dict.items" := by unfold smId; dsimp only; rw [gd']; rfl
  have m2 : smV K.nd K.vd "items" (τ ++ [.lst [.str y]]) (.own σ.length) [] = some (.items σ.length, τ ++ [.lst [.str y]]) := by show itemsS (τ ++ [.lst [.str y]]) (.own σ.length) [] = _; show (match (τ ++ [OObj.lst [V.str y]])[σ.length]? with | some (.dct _) => _ | _ => none) = _; rw [gd']; rfl
  have m3 : iterOf (τ ++ [.lst [.str y]]) (.items σ.length) = some [] := by unfold iterOf; dsimp only; rw [gd']
  have m4 : still (.items σ.length) [] (τ ++ [.lst [.str y]]) = true := by unfold still; dsimp only; rw [gd']; rfl
  have j1 : smV K.nd K.vd "join" (τ ++ [.lst [.str y]]) (.str [59, 32]) [.own τ.length] = some (.str y, τ ++ [.lst [.str y]]) := by
    have hL : lstOf (τ ++ [OObj.lst [V.str y]]) (.own τ.length) = some [V.str y] := by show ownLst _ _ = _; unfold ownLst; rw [get_last]
    show Option.bind (lstOf (τ ++ [OObj.lst [V.str y]]) (.own τ.length)) _ = _
    rw [hL]
    exact if_pos (by have := hy.1; simp; omega)
  obtain ⟨ρ', rfl, hf⟩ := x_keep (K := K) (O := callM K T (n+1)) (ρ := [("self", some (.own h)), ("_name", some (.str x)), ("_value", some (.str y)), ("_params", some (.own σ.length)), ("parts", some (.own τ.length)), ("k", none), ("v", none)]) (σ := τ ++ [.lst [.str y]])
    (it := .sm (.var "_params") "items" .nil) (t := .tup ["k", "v"]) (ms := (.cons .raise (.cons .raise .nil))) (fun ρ => ρ = [("self", some (.own h)), ("_name", some (.str x)), ("_value", some (.str y)), ("_params", some (.own σ.length)), ("parts", some (.own τ.length)), ("k", none), ("v", none)]) (by walk_at "EV") m3 m4 (fun v hv => nomatch hv) rfl
  refine call_next (τ' := List.set (τ ++ [OObj.lst [V.str y]]) l (.lst (hs.map pr ++ [.tuple [.str x, .str y]]))) H.add hb ?_ (by rw [hend]; exact fin_cut hc2 (by rw [List.length_set]) (by nofun) rfl)
  apply Exists.intro
  dsimp only [fn_H_add_header]
  walk_at "EV"
theorem init_ok (H : HT K T) {n : Nat} {σ : Store} {h d l : Nat} {hs : Hs} (h1 : σ[h]? = some (.inst d)) (h2 : σ[d]? = some (.attrs none)) (h3 : σ[l]? = some (.lst (hs.map pr))) (hh : HsOk hs) :
    callM K T (n+2) "Headers.__init__" [.own h, .own l] [] σ = some (.none, σ.set d (.attrs (some (.own l)))) := by
  have n1 : d ≠ h := by rintro rfl; rw [h1] at h2; cases h2
  have n2 : d ≠ l := by rintro rfl; rw [h2] at h3; cases h3
  have hdt : d < σ.length := (List.getElem?_eq_some_iff.mp h2).1
  have B : Tb (σ.set d (.attrs (some (.own l)))) h l hs := ⟨⟨d, by rw [List.getElem?_set_ne n1]; exact h1, by rw [List.getElem?_set_self hdt]⟩, by rw [List.getElem?_set_ne n2]; exact h3⟩
  have hi := B.inst
  have g3 := B.l
  have hty : biV "type" σ [.own l] = some (.ty "list", σ) := by
    have hL : lstOf σ (.own l) = some (hs.map pr) := by show ownLst _ _ = _; unfold ownLst; rw [h3]
    show ((lstOf σ (.own l)).map fun _ => (V.ty "list", σ)) = _
    rw [hL]; rfl
  have hit : iterOf (σ.set d (.attrs (some (.own l)))) (.own l) = some (hs.map pr) := by show ownLst _ l = _; unfold ownLst; rw [g3]
  obtain ⟨ρ', ⟨a, b, rfl⟩, hf⟩ := x_keep (K := K) (O := callM K T (n+1)) (ρ := [("self", some (.own h)), ("headers", some (.own l)), ("k", none), ("v", none)]) (σ := σ.set d (.attrs (some (.own l)))) (it := .var "headers") (t := .tup ["k", "v"])
    (ms := (.cons (.expr (.meth (.var "self") "_convert_string_type" (.cons (.var "k") .nil) (.cons "name" (.bool true) .nil))) (.cons (.expr (.meth (.var "self") "_convert_string_type" (.cons (.var "v") .nil) (.cons "name" (.bool false) .nil))) .nil)))
    (fun ρ => ∃ a b, ρ = [("self", some (.own h)), ("headers", some (.own l)), ("k", a), ("v", b)]) (x := .own l) (by walk_at "EV") hit (by simp only [still, ownLst, g3, V.eqbs_refl])
    (fun v hv ρ hP => by
      obtain ⟨p, hp, rfl⟩ := List.mem_map.mp hv
      obtain ⟨a, b, rfl⟩ := hP
      have c1 := conv_name H (n := n) (σ := σ.set d (.attrs (some (.own l)))) (h := .own h) (hh p hp).1
      have c2 := conv_val H (n := n) (σ := σ.set d (.attrs (some (.own l)))) (h := .own h) (hh p hp).2
      refine ⟨[("self", some (.own h)), ("headers", some (.own l)), ("k", some (.str p.1)), ("v", some (.str p.2))], [("self", some (.own h)), ("headers", some (.own l)), ("k", some (.str p.1)), ("v", some (.str p.2))], ?_, ?_, ⟨_, _, rfl⟩⟩
      · unfold pr; walk_at "EV"
      · walk_at "EV") ⟨_, _, rfl⟩
  refine call_next (τ' := σ.set d (.attrs (some (.own l)))) (ρ := [("self", some (.own h)), ("headers", some (.own l)), ("k", none), ("v", none)]) H.init (by rfl) ?_ (fin_len (by rw [List.length_set]))
  apply Exists.intro
  dsimp only [fn_H_init]
  walk_at "EV"
end

section

variable {K : Cfg} {T : List (String × Fn)}
noncomputable def Val3 (v : List Nat) : Prop := v = [] ∨ v = [49] ∨ v = [50]
theorem val_ok {v : List Nat} (h : Val3 v) : VlOk v := by
  rcases h with rfl | rfl | rfl <;> simp [VlOk]
theorem fmod_nat (x : Int) (m : Nat) (h : 0 < m) : ∃ r : Nat, r < m ∧ Int.fmod x m = r := by
  have h1 := Int.emod_nonneg x (b := (m : Int)) (by omega)
  have h2 := Int.emod_lt_of_pos x (b := (m : Int)) (by omega)
  rw [Int.fmod_eq_emod_of_nonneg x (by omega)]
  exact ⟨(x % m).toNat, by omega, by omega⟩
theorem fdiv_cast (r m : Nat) : Int.fdiv (r : Int) (m : Int) = ((r / m : Nat) : Int) := by
  rw [Int.fdiv_eq_ediv_of_nonneg _ (by omega)]; simp
theorem fmod_cast (r m : Nat) : Int.fmod (r : Int) (m : Int) = ((r % m : Nat) : Int) := by
  rw [Int.fmod_eq_emod_of_nonneg _ (by omega)]; simp

theorem b_mod {σ : Store} {x y z : Int} (hy : y ≠ 0) (e : Int.fmod x y = z) : binV σ .Mod (.int x) (.int y) = some (.int z) := by
  show (if y = 0 then none else some (V.int (Int.fmod x y))) = _; rw [if_neg hy, e]
theorem b_div {σ : Store} {x y z : Int} (hy : ¬ (y = 0 ∨ y.natAbs ≥ 1073741824)) (e : Int.fdiv x y = z) : binV σ .FloorDiv (.int x) (.int y) = some (.int z) := by
  show (if y = 0 ∨ y.natAbs ≥ 1073741824 then none else some (V.int (Int.fdiv x y))) = _; rw [if_neg hy, e]
theorem lt4 {k : Nat} (h : k < 4) : k = 0 ∨ k = 1 ∨ k = 2 ∨ k = 3 := (by decide : ∀ k < 4, k = 0 ∨ k = 1 ∨ k = 2 ∨ k = 3) k h
theorem c_nat {σ : Store} {a b : Nat} (e : a = b) : cmpV σ .Eq (.int (a : Int)) (.int (b : Int)) = some (.bool true) := by
  subst e
  show (eqV (.int (a : Int)) (.int (a : Int))).map _ = _
  simp [eqV, V.plain, V.deep, eqb_int]
theorem c_natn {σ : Store} {a b : Nat} (e : ¬ a = b) : cmpV σ .Eq (.int (a : Int)) (.int (b : Int)) = some (.bool false) := by
  show (eqV (.int (a : Int)) (.int (b : Int))).map _ = _
  have : ¬ ((a : Int) = b) := by omega
  simp [eqV, V.plain, V.deep, eqb_int, this]
theorem c_ne {σ : Store} {x y : V} {b : Bool} (h : cmpV σ .Eq x y = some (.bool b)) : cmpV σ .NotEq x y = some (.bool !b) := by
  unfold cmpV at h ⊢
  dsimp only at h ⊢
  cases q : eqV (thawed σ x) (thawed σ y) with
  | none => rw [q] at h; cases h
  | some c => rw [q] at h; cases h; rfl
theorem HsOk.app {hs : Hs} (h : HsOk hs) {x y : List Nat} (hx : NmOk x) (hy : VlOk y) : HsOk (hs ++ [(x, y)]) := by
  intro p hp
  rcases List.mem_append.mp hp with hp | hp
  · exact h p hp
  · rw [List.mem_singleton.mp hp]; exact ⟨hx, hy⟩
theorem new_ok (H : HT K T) {n : Nat} {ρ : Rho} {σ τ : Store} {es : MEs} {l : Nat} {hs : Hs} (h : evalsM K (callM K T (n+2)) ρ σ es = some ([.own l], τ)) (h3 : τ[l]? = some (.lst (hs.map pr))) (hh : HsOk hs) (hcl : Closed τ) :
    ∃ τ', evalM K (callM K T (n+2)) ρ σ (.new es) = some (.own (τ.length + 1), τ') ∧ Tb τ' (τ.length + 1) l hs ∧ Closed τ' ∧ ∃ r, τ' = τ ++ r := by
  have h1 : (τ ++ [OObj.attrs none, OObj.inst τ.length])[τ.length + 1]? = some (.inst τ.length) := by rw [List.getElem?_append_right (by omega)]; simp
  have h2 : (τ ++ [OObj.attrs none, OObj.inst τ.length])[τ.length]? = some (.attrs none) := by rw [List.getElem?_append_right (by omega)]; simp
  have hlt : l < τ.length := (List.getElem?_eq_some_iff.mp h3).1
  have e := init_ok H (n := n) h1 h2 (get_pre h3) hh
  have hs' : (τ ++ [OObj.attrs none, OObj.inst τ.length]).set τ.length (.attrs (some (.own l))) = τ ++ [OObj.attrs (some (.own l)), OObj.inst τ.length] := by
    rw [List.set_append_right _ _ (Nat.le_refl _)]; simp
  rw [hs'] at e
  refine ⟨_, e_new h rfl e, ⟨⟨τ.length, ?_, ?_⟩, get_pre h3⟩, ?_, _, rfl⟩
  · rw [List.getElem?_append_right (by omega)]; simp
  · rw [List.getElem?_append_right (by omega)]; simp
  · unfold Closed at hcl ⊢
    rw [List.all_append, Bool.and_eq_true]
    constructor
    · rw [List.all_eq_true] at hcl ⊢
      intro o ho
      exact OObj.under_mono (by simp) (hcl o ho)
    · simp [OObj.under, V.under]; omega
theorem eqV_plain {a b : V} (ha : a.plain = true) (hb : b.plain = true) (da : a.deep ≤ 8) (db : b.deep ≤ 8) : eqV a b = some (V.eqb a b) := by
  unfold eqV
  split
  · cases ha
  · rw [if_pos (by simp [ha, hb, da, db])]
theorem flat_map1 {α : Type} (f : α → V) (g : V → List V) (h : α → V) (e : ∀ x, g (f x) = [h x]) (l : List α) : (l.map f).flatMap g = l.map h := by
  induction l with
  | nil => rfl
  | cons x r ih => rw [List.map_cons, List.flatMap_cons, ih, e]; rfl
theorem idxL {σ : Store} {vs : List V} {i : Nat} (h : i < vs.length) (hb : i ≤ 1000000) : idxV σ (.list vs) (.int (i : Int)) = some vs[i] := by
  have h1 : -1000000 ≤ (i : Int) ∧ (i : Int) ≤ 1000000 := by omega
  have h2 : ¬ (i : Int) < 0 := by omega
  have h3 : (decide (0 ≤ (i : Int)) && decide ((i : Int) < (vs.length : Int))) = true := by simp; omega
  show seqAt vs (i : Int) = _
  simp only [seqAt, if_pos h1, seqIndex?, if_neg h2, h3, if_true]
  simp [h]
theorem bi_len {σ : Store} {vs : List V} (h : vs.length ≤ 1000) : biV "len" σ [.list vs] = some (.int vs.length, σ) := by
  show (if vs.length ≤ 1000 then some (V.int vs.length, σ) else none) = _
  rw [if_pos h]
theorem sl_list {σ : Store} {vs : List V} {lo hi st : Option Int} (h : vs.length ≤ 1000) (hs : st ≠ some 0) : sliceV false σ (.list vs) lo hi st = some (.list (pickL vs lo hi st), σ) := by
  unfold sliceV
  rw [if_neg hs]
  dsimp only [lstOf]
  rw [Option.bind_some, if_pos h]
  exact nl_not (Nat.le_trans (pickL_len ..) h)
theorem loopM_fold {step : V → Rho → Store → Option (Fl × Rho × Store)} {ok : Store → Bool} {α : Type} (g : α → V) (I : List α → Rho → Store → Prop) (whole : List α)
    (hs : ∀ d x e, whole = d ++ x :: e → ∀ ρ σ, I d ρ σ → ∃ ρ' σ', step (g x) ρ σ = some (Fl.next, ρ', σ') ∧ I (d ++ [x]) ρ' σ') (he : ∀ d ρ σ, I d ρ σ → ok σ = true) : ∀ {r d : List α}, whole = d ++ r →
    ∀ {ρ σ}, I d ρ σ → ∃ ρ' σ', loopM step ok (r.map g) ρ σ = some (Fl.next, ρ', σ') ∧ I whole ρ' σ' := by
  intro r
  induction r with
  | nil => intro d hw ρ σ hI; exact ⟨ρ, σ, by rw [List.map_nil, loopM, if_pos (he d ρ σ hI)], by rw [hw, List.append_nil]; exact hI⟩
  | cons x r ih =>
    intro d hw ρ σ hI
    obtain ⟨ρ', σ', h2, h3⟩ := hs d x r hw ρ σ hI
    obtain ⟨ρ'', σ'', h4, h5⟩ := ih (d := d ++ [x]) (by rw [hw, List.append_assoc]; rfl) h3
    refine ⟨ρ'', σ'', ?_, h5⟩
    rw [List.map_cons, loopM, if_pos (he d ρ σ hI), h2, Option.bind_some]
    exact h4
end

section
abbrev Pr := Nat × List Nat
noncomputable def lt (q : Pr) : Nat := q.1 / 2
noncomputable def fk (G P : List Pr) (k : Nat) : List Pr := P.filter fun q => decide (lt q ∈ (G.take k).map lt)
noncomputable def kep (G P : List Pr) : Nat → Nat
  | 0 => 0
  | k + 1 => if fk G P (k + 1) = G.take (k + 1) then k + 1 else kep G P k
noncomputable def kept (G P : List Pr) : Nat := kep G P G.length
noncomputable def xtr (G P : List Pr) : List Nat := (List.range 3).filter fun l => decide (l ∈ P.map lt) && decide (l ∉ G.map lt)
noncomputable def far (G P : List Pr) : Nat := G.length - kept G P + (xtr G P).length
noncomputable def aft (P : List Pr) (c : Nat × Pr) : List Pr := match c.1 with
  | 0 => P.filter (fun q => decide (lt q ≠ lt c.2)) ++ [c.2]
  | 1 => P.filter (fun q => decide (lt q ≠ lt c.2))
  | 2 => P ++ [c.2]
  | _ => if lt c.2 ∈ P.map lt then P else P ++ [c.2]
noncomputable def dw (l : Nat) : Nat := match l with
  | 0 => 0
  | 1 => 3
  | _ => 4
noncomputable def kinds (G P : List Pr) (g : Pr) : List Nat := if lt g ∈ (G.take (kept G P)).map lt then [2] else if lt g ∈ P.map lt then [0] else [0, 2, 3]
noncomputable def near (G P : List Pr) : List (Nat × Pr) := (xtr G P).map (fun l => (1, (dw l, []))) ++ ((G.drop (kept G P)).take 1).flatMap fun g => (kinds G P g).map fun k => (k, g)
noncomputable def menu (G : List Pr) : List (Nat × Pr) := [(1, (0, [])), (1, (3, [])), (1, (4, []))] ++ G.flatMap fun g => [(0, g), (2, g), (3, g)]

theorem fk_zero (G P : List Pr) : fk G P 0 = G.take 0 := by
  unfold fk; simp
theorem kep_le (G P : List Pr) : ∀ n, kep G P n ≤ n
  | 0 => Nat.le_refl 0
  | n + 1 => by
    have ih := kep_le G P n
    unfold kep; split
    · exact Nat.le_refl _
    · exact Nat.le_succ_of_le ih
theorem kep_good (G P : List Pr) : ∀ n, fk G P (kep G P n) = G.take (kep G P n)
  | 0 => fk_zero G P
  | n + 1 => by
    unfold kep; split
    · assumption
    · exact kep_good G P n
theorem kep_max (G P : List Pr) {k : Nat} (h : fk G P k = G.take k) : ∀ n, k ≤ n → k ≤ kep G P n
  | 0, hk => hk
  | n + 1, hk => by
    unfold kep; split
    · exact hk
    · rename_i hn
      rcases Nat.lt_or_ge n k with hlt | hge
      · have : k = n + 1 := Nat.le_antisymm hk hlt
        subst this; exact absurd h hn
      · exact kep_max G P h n hge
theorem kept_le (G P : List Pr) : kept G P ≤ G.length := kep_le G P _
theorem kept_good (G P : List Pr) : fk G P (kept G P) = G.take (kept G P) := kep_good G P _
theorem kept_max {G P : List Pr} {k : Nat} (h : fk G P k = G.take k) (hk : k ≤ G.length) : k ≤ kept G P := kep_max G P h _ hk

theorem mem_fk {G P : List Pr} {k : Nat} {q : Pr} : q ∈ fk G P k ↔ q ∈ P ∧ lt q ∈ (G.take k).map lt := by
  unfold fk; rw [List.mem_filter, decide_eq_true_iff]
theorem fk_app (G P R : List Pr) (k : Nat) : fk G (P ++ R) k = fk G P k ++ fk G R k := List.filter_append ..
theorem fk_one (G : List Pr) (g : Pr) (k : Nat) : fk G [g] k = if lt g ∈ (G.take k).map lt then [g] else [] := by
  unfold fk; rw [List.filter_cons]; simp
theorem fk_cut (G P : List Pr) (l k : Nat) : fk G (P.filter fun q => decide (lt q ≠ l)) k = (fk G P k).filter fun q => decide (lt q ≠ l) := by
  unfold fk; rw [List.filter_filter, List.filter_filter]; congr 1; funext p; exact Bool.and_comm _ _
theorem cut_off {l : Nat} {P : List Pr} (h : l ∉ P.map lt) : P.filter (fun q => decide (lt q ≠ l)) = P := by
  rw [List.filter_eq_self]; intro q hq; rw [decide_eq_true_iff]; intro e; exact h (e ▸ List.mem_map_of_mem hq)
theorem fk_off {G P : List Pr} {l k : Nat} (h : l ∉ (G.take k).map lt) : fk G (P.filter fun q => decide (lt q ≠ l)) k = fk G P k := by
  rw [fk_cut]; refine cut_off fun hm => ?_
  obtain ⟨q, hq, e⟩ := List.mem_map.mp hm
  exact h (e ▸ (mem_fk.mp hq).2)
theorem take_mono {G : List Pr} {j k : Nat} (h : j ≤ k) {l : Nat} (m : l ∈ (G.take j).map lt) : l ∈ (G.take k).map lt := by
  obtain ⟨q, hq, rfl⟩ := List.mem_map.mp m
  refine List.mem_map_of_mem ?_
  have : G.take j = (G.take k).take j := by rw [List.take_take, Nat.min_eq_left h]
  rw [this] at hq
  exact List.mem_of_mem_take hq
theorem fk_fk {G P : List Pr} {j k : Nat} (h : j ≤ k) : fk G (fk G P k) j = fk G P j := by
  unfold fk; rw [List.filter_filter]; refine List.filter_congr fun q _ => ?_
  by_cases m : lt q ∈ (G.take j).map lt
  · rw [decide_eq_true m, decide_eq_true (take_mono h m)]; rfl
  · rw [decide_eq_false m]; rfl
theorem fk_self (G : List Pr) (k : Nat) : fk G (G.take k) k = G.take k := by
  unfold fk; rw [List.filter_eq_self]; intro q hq; rw [decide_eq_true_iff]; exact List.mem_map_of_mem hq
theorem take_succ {G : List Pr} {k : Nat} (h : k + 1 ≤ G.length) : G.take (k + 1) = G.take k ++ [G[k]'(by omega)] := by
  rw [List.take_add_one, List.getElem?_eq_getElem (by omega)]; rfl

theorem add_good {G P : List Pr} {g : Pr} {k : Nat} (hk : k ≤ G.length) (h : fk G (P ++ [g]) k = G.take k) : k ≤ kept G P ∨ (k = kept G P + 1 ∧ G[kept G P]? = some g ∧ fk G P k = G.take (kept G P)) := by
  rw [fk_app, fk_one] at h
  split at h
  · rename_i m
    rcases k with _ | k
    · simp at m
    rw [take_succ hk] at h
    obtain ⟨h1, h2⟩ := List.append_inj' h rfl
    have h3 : fk G P k = G.take k := by rw [← fk_fk (Nat.le_succ k), h1]; exact fk_self G k
    have h4 := kept_max h3 (by omega)
    rcases Nat.lt_or_ge k (kept G P) with hlt | hge
    · exact .inl hlt
    · have e : k = kept G P := Nat.le_antisymm h4 hge
      refine .inr ⟨by rw [e], ?_, ?_⟩
      · rw [← e, List.getElem?_eq_getElem (by omega)]; injection h2 with h2; rw [h2]
      · rw [← e]; exact h1
  · rw [List.append_nil] at h; exact .inl (kept_max h hk)
theorem add_next {G P : List Pr} {g : Pr} (hg : G[kept G P]? = some g) (h : fk G P (kept G P + 1) = G.take (kept G P)) : fk G (P ++ [g]) (kept G P + 1) = G.take (kept G P + 1) := by
  obtain ⟨hl, e⟩ := List.getElem?_eq_some_iff.mp hg
  rw [fk_app, fk_one, h, take_succ hl, e, if_pos]
  rw [List.map_append, List.mem_append]; exact .inr (by simp)
theorem fk_next_in {G P : List Pr} {g : Pr} (hg : G[kept G P]? = some g) (h : lt g ∈ (G.take (kept G P)).map lt) : fk G P (kept G P + 1) = G.take (kept G P) := by
  obtain ⟨hl, e⟩ := List.getElem?_eq_some_iff.mp hg
  rw [← kept_good G P]
  unfold fk
  refine List.filter_congr fun q _ => ?_
  rw [take_succ hl, e, List.map_append]
  refine decide_eq_decide.mpr ⟨fun m => ?_, fun m => List.mem_append.mpr (.inl m)⟩
  rcases List.mem_append.mp m with m | m
  · exact m
  · rw [List.map_cons, List.map_nil, List.mem_singleton] at m; rw [m]; exact h
theorem fk_next_out {G P : List Pr} {g : Pr} (hg : G[kept G P]? = some g) (h : lt g ∉ P.map lt) : fk G P (kept G P + 1) = G.take (kept G P) := by
  obtain ⟨hl, e⟩ := List.getElem?_eq_some_iff.mp hg
  rw [← kept_good G P]
  unfold fk
  refine List.filter_congr fun q hq => ?_
  rw [take_succ hl, e, List.map_append]
  refine decide_eq_decide.mpr ⟨fun m => ?_, fun m => List.mem_append.mpr (.inl m)⟩
  rcases List.mem_append.mp m with m | m
  · exact m
  · rw [List.map_cons, List.map_nil, List.mem_singleton] at m; exact absurd (m ▸ List.mem_map_of_mem hq) h
theorem next_letters {G P : List Pr} {g : Pr} (hg : G[kept G P]? = some g) (h : fk G P (kept G P + 1) = G.take (kept G P)) (hn : lt g ∉ (G.take (kept G P)).map lt) : lt g ∉ P.map lt := by
  obtain ⟨hl, e⟩ := List.getElem?_eq_some_iff.mp hg
  intro m
  obtain ⟨q, hq, eq⟩ := List.mem_map.mp m
  have : q ∈ fk G P (kept G P + 1) := mem_fk.mpr ⟨hq, by rw [take_succ hl, e, List.map_append, eq]; simp⟩
  rw [h] at this
  exact hn (eq ▸ List.mem_map_of_mem this)

theorem kept_lub {G P : List Pr} {m : Nat} (h : ∀ k, k ≤ G.length → fk G P k = G.take k → k ≤ m) : kept G P ≤ m := h _ (kept_le G P) (kept_good G P)
theorem kept_add {G P : List Pr} {g : Pr} : (G[kept G P]? = some g ∧ (lt g ∈ (G.take (kept G P)).map lt ∨ lt g ∉ P.map lt) → kept G (P ++ [g]) = kept G P + 1) ∧ (¬ (G[kept G P]? = some g ∧ (lt g ∈ (G.take (kept G P)).map lt ∨ lt g ∉ P.map lt)) → kept G (P ++ [g]) ≤ kept G P) := by
  constructor
  · rintro ⟨hg, h⟩
    obtain ⟨hl, _⟩ := List.getElem?_eq_some_iff.mp hg
    refine Nat.le_antisymm (kept_lub fun k hk q => ?_) (kept_max (add_next hg ?_) hl)
    · rcases add_good hk q with h | h <;> omega
    · rcases h with h | h
      · exact fk_next_in hg h
      · exact fk_next_out hg h
  · intro hn
    refine kept_lub fun k hk q => ?_
    rcases add_good hk q with h | ⟨rfl, h1, h2⟩
    · exact h
    · refine absurd ⟨h1, ?_⟩ hn
      by_cases m : lt g ∈ (G.take (kept G P)).map lt
      · exact .inl m
      · exact .inr (next_letters h1 h2 m)
theorem cut_good {G P : List Pr} {l k : Nat} (h : fk G (P.filter fun q => decide (lt q ≠ l)) k = G.take k) : l ∉ (G.take k).map lt ∧ fk G P k = G.take k := by
  have n : l ∉ (G.take k).map lt := by
    intro m
    obtain ⟨q, hq, e⟩ := List.mem_map.mp m
    rw [← h, fk_cut, List.mem_filter, decide_eq_true_iff] at hq
    exact hq.2 e
  exact ⟨n, by rw [← h, fk_off n]⟩
theorem kept_cut_le (G P : List Pr) (l : Nat) : kept G (P.filter fun q => decide (lt q ≠ l)) ≤ kept G P := kept_lub fun k hk q => kept_max (cut_good q).2 hk
theorem kept_cut_eq {G P : List Pr} {l : Nat} (h : l ∉ G.map lt) : kept G (P.filter fun q => decide (lt q ≠ l)) = kept G P := by
  refine Nat.le_antisymm (kept_cut_le G P l) (kept_max ?_ (kept_le G P))
  rw [fk_off, kept_good]
  intro m; obtain ⟨q, hq, e⟩ := List.mem_map.mp m
  exact h (e ▸ List.mem_map_of_mem (List.mem_of_mem_take hq))
theorem cut_gone (P : List Pr) (l : Nat) : l ∉ (P.filter fun q => decide (lt q ≠ l)).map lt := by
  intro m; obtain ⟨q, hq, e⟩ := List.mem_map.mp m
  have := (List.mem_filter.mp hq).2
  exact (of_decide_eq_true this) e
theorem kept_set {G P : List Pr} {g : Pr} : (G[kept G P]? = some g ∧ lt g ∉ (G.take (kept G P)).map lt → kept G (P.filter (fun q => decide (lt q ≠ lt g)) ++ [g]) = kept G P + 1) ∧ (¬ (G[kept G P]? = some g ∧ lt g ∉ (G.take (kept G P)).map lt) → kept G (P.filter (fun q => decide (lt q ≠ lt g)) ++ [g]) ≤ kept G P) := by
  have le := kept_cut_le G P (lt g)
  have a := @kept_add G (P.filter fun q => decide (lt q ≠ lt g)) g
  have hg := cut_gone P (lt g)
  constructor
  · rintro ⟨h1, h2⟩
    have e : kept G (P.filter fun q => decide (lt q ≠ lt g)) = kept G P := Nat.le_antisymm le (kept_max (by rw [fk_off h2, kept_good]) (kept_le G P))
    rw [e] at a
    exact a.1 ⟨h1, .inr hg⟩
  · intro hn
    by_cases m : G[kept G (P.filter fun q => decide (lt q ≠ lt g))]? = some g
    · have h3 := a.1 ⟨m, .inr hg⟩
      rw [h3]
      refine Nat.lt_of_le_of_ne le fun e => hn ?_
      rw [← e]
      exact ⟨m, (cut_good (kept_good G _)).1⟩
    · exact Nat.le_trans (a.2 fun h => m h.1) le

theorem xtr_mem {G P : List Pr} {l : Nat} : l ∈ xtr G P ↔ l < 3 ∧ l ∈ P.map lt ∧ l ∉ G.map lt := by
  unfold xtr; rw [List.mem_filter, List.mem_range, Bool.and_eq_true, decide_eq_true_iff, decide_eq_true_iff]
theorem xtr_congr {G P P' : List Pr} (h : ∀ l, l ∉ G.map lt → (l ∈ P.map lt ↔ l ∈ P'.map lt)) : xtr G P = xtr G P' := by
  unfold xtr; refine List.filter_congr fun l _ => ?_
  by_cases m : l ∉ G.map lt
  · rw [decide_eq_decide.mpr (h l m)]
  · rw [decide_eq_false m, Bool.and_false, Bool.and_false]
theorem cut_mem {P : List Pr} {l k : Nat} : k ∈ (P.filter fun q => decide (lt q ≠ l)).map lt ↔ k ∈ P.map lt ∧ k ≠ l := by
  constructor
  · intro m; obtain ⟨q, hq, rfl⟩ := List.mem_map.mp m
    obtain ⟨h1, h2⟩ := List.mem_filter.mp hq
    exact ⟨List.mem_map_of_mem h1, of_decide_eq_true h2⟩
  · rintro ⟨m, hn⟩
    obtain ⟨q, hq, rfl⟩ := List.mem_map.mp m
    exact List.mem_map_of_mem (List.mem_filter.mpr ⟨hq, decide_eq_true hn⟩)
theorem xtr_cut (G P : List Pr) (l : Nat) : xtr G (P.filter fun q => decide (lt q ≠ l)) = (xtr G P).filter fun k => decide (k ≠ l) := by
  unfold xtr; rw [List.filter_filter]; refine List.filter_congr fun k _ => ?_
  rw [Bool.eq_iff_iff]
  simp only [Bool.and_eq_true, decide_eq_true_iff, cut_mem]
  constructor
  · rintro ⟨⟨a, b⟩, c⟩; exact ⟨b, a, c⟩
  · rintro ⟨b, a, c⟩; exact ⟨⟨a, b⟩, c⟩
theorem len_cut {l : Nat} : ∀ {L : List Nat}, L.Nodup → l ∈ L → (L.filter fun k => decide (k ≠ l)).length + 1 = L.length
  | [], _, h => nomatch h
  | a :: r, hn, h => by
    rw [List.nodup_cons] at hn
    rcases List.mem_cons.mp h with rfl | h
    · rw [List.filter_cons, if_neg (by simp)]
      rw [List.filter_eq_self.mpr]; · rfl
      intro k hk; rw [decide_eq_true_iff]; rintro rfl; exact hn.1 hk
    · rw [List.filter_cons, if_pos (by rw [decide_eq_true_iff]; rintro rfl; exact hn.1 h)]
      rw [List.length_cons, len_cut hn.2 h, List.length_cons]
theorem xtr_nodup (G P : List Pr) : (xtr G P).Nodup := List.nodup_range.filter _

theorem far_cut_in {G P : List Pr} {l : Nat} (h : l ∈ xtr G P) : far G (P.filter fun q => decide (lt q ≠ l)) + 1 = far G P := by
  unfold far
  rw [kept_cut_eq (xtr_mem.mp h).2.2, xtr_cut, Nat.add_assoc, len_cut (xtr_nodup G P) h]
theorem far_cut_out {G P : List Pr} {l : Nat} (h : l ∉ xtr G P) : far G P ≤ far G (P.filter fun q => decide (lt q ≠ l)) := by
  unfold far
  rw [xtr_cut, show (xtr G P).filter (fun k => decide (k ≠ l)) = xtr G P from List.filter_eq_self.mpr fun k hk => decide_eq_true fun e => h (e ▸ hk)]
  have := kept_cut_le G P l
  omega
theorem far_up {G P P' : List Pr} (hx : xtr G P' = xtr G P) (h : kept G P' = kept G P + 1) : far G P' + 1 = far G P := by
  unfold far
  have := kept_le G P'
  rw [hx]; omega
theorem far_stay {G P P' : List Pr} (hx : xtr G P' = xtr G P) (h : kept G P' ≤ kept G P) : far G P ≤ far G P' := by
  unfold far
  rw [hx]; omega
theorem xtr_add {G P : List Pr} {g : Pr} (hg : g ∈ G) : xtr G (P ++ [g]) = xtr G P := xtr_congr fun l hl => by
  rw [List.map_append, List.mem_append, List.map_cons, List.map_nil, List.mem_singleton]
  constructor
  · rintro (h | rfl)
    · exact h
    · exact absurd (List.mem_map_of_mem hg) hl
  · exact .inl
theorem xtr_cutg {G P : List Pr} {g : Pr} (hg : g ∈ G) : xtr G (P.filter fun q => decide (lt q ≠ lt g)) = xtr G P := by
  rw [xtr_cut]; exact List.filter_eq_self.mpr fun k hk => decide_eq_true fun e => (xtr_mem.mp hk).2.2 (e ▸ List.mem_map_of_mem hg)

theorem near_lay {G P : List Pr} {k : Nat} {g : Pr} (hk : k ≠ 1) : (k, g) ∈ near G P ↔ G[kept G P]? = some g ∧ k ∈ kinds G P g := by
  unfold near
  rw [List.mem_append]
  constructor
  · rintro (h | h)
    · obtain ⟨l, _, e⟩ := List.mem_map.mp h
      exact absurd (congrArg Prod.fst e).symm hk
    · obtain ⟨g', h1, h2⟩ := List.mem_flatMap.mp h
      obtain ⟨k', h3, e⟩ := List.mem_map.mp h2
      cases e
      refine ⟨?_, h3⟩
      cases q : G.drop (kept G P) with
      | nil => rw [q] at h1; exact nomatch h1
      | cons x r =>
        rw [q, List.take_succ_cons, List.take_zero, List.mem_singleton] at h1
        have := congrArg (·[0]?) q
        simp only [List.getElem?_drop, Nat.add_zero, List.getElem?_cons_zero] at this
        rw [this, h1]
  · rintro ⟨h1, h2⟩
    refine .inr (List.mem_flatMap.mpr ⟨g, ?_, List.mem_map_of_mem h2⟩)
    obtain ⟨hl, e⟩ := List.getElem?_eq_some_iff.mp h1
    rw [List.drop_eq_getElem_cons hl, List.take_succ_cons, e]; exact List.mem_cons_self ..
theorem dw_lt {l : Nat} (h : l < 3) (v : List Nat) : lt (dw l, v) = l := by
  exact (by decide : ∀ l < 3, dw l / 2 = l) l h
theorem near_del {G P : List Pr} {l : Nat} (hl : l < 3) : (1, (dw l, [])) ∈ near G P ↔ l ∈ xtr G P := by
  unfold near
  rw [List.mem_append]
  constructor
  · rintro (h | h)
    · obtain ⟨k, hk, e⟩ := List.mem_map.mp h
      have e := congrArg (fun x : Nat × Pr => lt x.2) e
      dsimp only at e
      rw [dw_lt hl, dw_lt (xtr_mem.mp hk).1] at e
      exact e ▸ hk
    · obtain ⟨g', h1, h2⟩ := List.mem_flatMap.mp h
      obtain ⟨k', h3, e⟩ := List.mem_map.mp h2
      have e := congrArg Prod.fst e
      subst e
      unfold kinds at h3
      split at h3
      · simp at h3
      · split at h3 <;> simp at h3
  · intro h; exact .inl (List.mem_map_of_mem (f := fun l => (1, (dw l, ([] : List Nat)))) h)
theorem menu_mem {G : List Pr} {c : Nat × Pr} : c ∈ menu G ↔ (∃ l, l < 3 ∧ c = (1, (dw l, []))) ∨ (∃ k g, (k = 0 ∨ k = 2 ∨ k = 3) ∧ g ∈ G ∧ c = (k, g)) := by
  unfold menu
  rw [List.mem_append, List.mem_flatMap]
  constructor
  · rintro (h | ⟨g, hg, h⟩)
    · left
      simp only [List.mem_cons, List.not_mem_nil, or_false] at h
      rcases h with rfl | rfl | rfl
      · exact ⟨0, by decide, rfl⟩
      · exact ⟨1, by decide, rfl⟩
      · exact ⟨2, by decide, rfl⟩
    · right
      simp only [List.mem_cons, List.not_mem_nil, or_false] at h
      rcases h with rfl | rfl | rfl
      · exact ⟨0, g, .inl rfl, hg, rfl⟩
      · exact ⟨2, g, .inr (.inl rfl), hg, rfl⟩
      · exact ⟨3, g, .inr (.inr rfl), hg, rfl⟩
  · rintro (⟨l, hl, rfl⟩ | ⟨k, g, hk, hg, rfl⟩)
    · left
      obtain rfl | rfl | rfl : l = 0 ∨ l = 1 ∨ l = 2 := by omega
      all_goals simp [dw]
    · right
      refine ⟨g, hg, ?_⟩
      rcases hk with rfl | rfl | rfl <;> simp
theorem near_menu {G P : List Pr} {c : Nat × Pr} (h : c ∈ near G P) : c ∈ menu G := by
  rw [menu_mem]
  by_cases hk : c.1 = 1
  · left
    obtain ⟨k, g⟩ := c
    cases hk
    unfold near at h
    rcases List.mem_append.mp h with h | h
    · obtain ⟨l, hl, e⟩ := List.mem_map.mp h
      exact ⟨l, (xtr_mem.mp hl).1, e.symm⟩
    · obtain ⟨g', h1, h2⟩ := List.mem_flatMap.mp h
      obtain ⟨k', h3, e⟩ := List.mem_map.mp h2
      have e := congrArg Prod.fst e
      subst e
      unfold kinds at h3
      split at h3
      · simp at h3
      · split at h3 <;> simp at h3
  · right
    obtain ⟨k, g⟩ := c
    obtain ⟨h1, h2⟩ := (near_lay hk).mp h
    refine ⟨k, g, ?_, List.mem_of_getElem? h1, rfl⟩
    unfold kinds at h2
    split at h2
    · simp at h2; omega
    · split at h2 <;> simp at h2 <;> omega
theorem step {G P : List Pr} {c : Nat × Pr} (hc : c ∈ menu G) : (c ∈ near G P → far G (aft P c) + 1 = far G P) ∧ (c ∉ near G P → far G P ≤ far G (aft P c)) := by
  rcases menu_mem.mp hc with ⟨l, hl, rfl⟩ | ⟨k, g, hk, hg, rfl⟩
  · rw [near_del hl]
    show (l ∈ xtr G P → far G (P.filter fun q => decide (lt q ≠ lt (dw l, []))) + 1 = far G P) ∧ (l ∉ xtr G P → far G P ≤ far G (P.filter fun q => decide (lt q ≠ lt (dw l, []))))
    rw [dw_lt hl]
    exact ⟨far_cut_in, far_cut_out⟩
  · rcases hk with rfl | rfl | rfl
    · rw [near_lay (by decide)]
      have h := @kept_set G P g
      have hx : xtr G (P.filter (fun q => decide (lt q ≠ lt g)) ++ [g]) = xtr G P := by rw [xtr_add hg, xtr_cutg hg]
      have e : (0 ∈ kinds G P g) ↔ lt g ∉ (G.take (kept G P)).map lt := by
        unfold kinds
        split
        · rename_i m; simp only [List.mem_singleton]; exact ⟨fun h => by omega, fun h => absurd m h⟩
        · rename_i m; split
          · exact ⟨fun _ => m, fun _ => List.mem_singleton.mpr rfl⟩
          · exact ⟨fun _ => m, fun _ => List.mem_cons_self ..⟩
      rw [e]
      exact ⟨fun q => far_up hx (h.1 q), fun q => far_stay hx (h.2 q)⟩
    · rw [near_lay (by decide)]
      have h := @kept_add G P g
      have hx := xtr_add (P := P) hg
      have e : (2 ∈ kinds G P g) ↔ (lt g ∈ (G.take (kept G P)).map lt ∨ lt g ∉ P.map lt) := by
        unfold kinds
        split
        · rename_i m; exact ⟨fun _ => .inl m, fun _ => List.mem_singleton.mpr rfl⟩
        · rename_i m; split
          · rename_i m2; simp only [List.mem_singleton]; exact ⟨fun h => by omega, fun h => by rcases h with h | h; exact absurd h m; exact absurd m2 h⟩
          · rename_i m2; exact ⟨fun _ => .inr m2, fun _ => List.mem_cons_of_mem _ (List.mem_cons_self ..)⟩
      rw [e]
      exact ⟨fun q => far_up hx (h.1 q), fun q => far_stay hx (h.2 q)⟩
    · rw [near_lay (by decide)]
      show (_ → far G (if lt g ∈ P.map lt then P else P ++ [g]) + 1 = far G P) ∧ (_ → far G P ≤ far G (if lt g ∈ P.map lt then P else P ++ [g]))
      by_cases m : lt g ∈ P.map lt
      · rw [if_pos m]
        have e : 3 ∉ kinds G P g := by
          unfold kinds
          split
          · simp
          · simp
        exact ⟨fun h => absurd h.2 e, fun _ => Nat.le_refl _⟩
      · rw [if_neg m]
        have h := @kept_add G P g
        have hx := xtr_add (P := P) hg
        have e : G[kept G P]? = some g ∧ 3 ∈ kinds G P g ↔ (G[kept G P]? = some g ∧ (lt g ∈ (G.take (kept G P)).map lt ∨ lt g ∉ P.map lt)) := by
          constructor
          · rintro ⟨a, b⟩; exact ⟨a, .inr m⟩
          · rintro ⟨a, b⟩
            refine ⟨a, ?_⟩
            have n : lt g ∉ (G.take (kept G P)).map lt := by
              intro h
              obtain ⟨q, hq, eq⟩ := List.mem_map.mp h
              rw [← kept_good G P] at hq
              exact m (eq ▸ List.mem_map_of_mem (mem_fk.mp hq).1)
            unfold kinds
            rw [if_neg n, if_neg m]; simp
        rw [e]
        exact ⟨fun q => far_up hx (h.1 q), fun q => far_stay hx (h.2 q)⟩
theorem near_some {G P : List Pr} (h : 0 < far G P) : ∃ c, c ∈ near G P := by
  unfold far at h
  by_cases hx : xtr G P = []
  · rw [hx] at h
    have hl : kept G P < G.length := by have := kept_le G P; simp at h; omega
    have hg : G[kept G P]? = some G[kept G P] := List.getElem?_eq_getElem hl
    obtain ⟨k, hk, h1⟩ : ∃ k, k ∈ kinds G P G[kept G P] ∧ k ≠ 1 := by
      unfold kinds
      split
      · exact ⟨2, by simp, by decide⟩
      · split
        · exact ⟨0, by simp, by decide⟩
        · exact ⟨0, by simp, by decide⟩
    exact ⟨(k, G[kept G P]), (near_lay h1).mpr ⟨hg, hk⟩⟩
  · obtain ⟨l, hl⟩ := List.exists_mem_of_ne_nil _ hx
    exact ⟨_, (near_del (xtr_mem.mp hl).1).mpr hl⟩
theorem far_end {G P : List Pr} (hP : ∀ q ∈ P, q.1 < 6) (h : far G P = 0) : P = G := by
  unfold far at h
  have hk : kept G P = G.length := by have := kept_le G P; omega
  have hx : xtr G P = [] := List.length_eq_zero_iff.mp (by omega)
  have g := kept_good G P
  rw [hk, List.take_length] at g
  rw [← g]
  unfold fk
  symm
  rw [List.filter_eq_self]
  intro q hq
  rw [decide_eq_true_iff, List.take_length]
  refine Classical.byContradiction fun n => ?_
  have : lt q ∈ xtr G P := xtr_mem.mpr ⟨by unfold lt; have := hP q hq; omega, List.mem_map_of_mem hq, n⟩
  rw [hx] at this
  exact nomatch this
end

section

variable {K : Cfg} {T : List (String × Fn)}
noncomputable def n6 (p : Nat) : List Nat := match p with
  | 0 => [97]
  | 1 => [65]
  | 2 => [98]
  | 3 => [66]
  | 4 => [99]
  | _ => [67]
noncomputable def toH (P : List Pr) : Hs := P.map fun q => (n6 q.1, q.2)
noncomputable def pv (q : Pr) : V := .tuple [.str (n6 q.1), .str q.2]
noncomputable def cv (c : Nat × Pr) : V := .tuple [.int c.1, pv c.2]
noncomputable def lv (l : Nat) : V := .int l
noncomputable def POk (q : Pr) : Prop := q.1 < 6 ∧ Val3 q.2
noncomputable def PsOk (P : List Pr) : Prop := ∀ q ∈ P, POk q
theorem toH_pr (P : List Pr) : (toH P).map pr = P.map pv := by
  unfold toH; rw [List.map_map]; rfl
theorem n6_ok (p : Nat) : NmOk (n6 p) := by
  unfold n6 NmOk; split <;> simp
theorem lt6 {p : Nat} (h : p < 6) : p = 0 ∨ p = 1 ∨ p = 2 ∨ p = 3 ∨ p = 4 ∨ p = 5 := (by decide : ∀ p < 6, p = 0 ∨ p = 1 ∨ p = 2 ∨ p = 3 ∨ p = 4 ∨ p = 5) p h
theorem n6_lw {p q : Nat} (hp : p < 6) (hq : q < 6) : lw (n6 p) = lw (n6 q) ↔ p / 2 = q / 2 := by
  rcases lt6 hp with rfl | rfl | rfl | rfl | rfl | rfl <;> rcases lt6 hq with rfl | rfl | rfl | rfl | rfl | rfl <;> decide
theorem n6_inj {p q : Nat} (hp : p < 6) (hq : q < 6) (h : n6 p = n6 q) : p = q := by
  revert h
  rcases lt6 hp with rfl | rfl | rfl | rfl | rfl | rfl <;> rcases lt6 hq with rfl | rfl | rfl | rfl | rfl | rfl <;> decide
theorem toH_ok {P : List Pr} (h : PsOk P) : HsOk (toH P) := fun p hp => by
  obtain ⟨q, hq, rfl⟩ := List.mem_map.mp hp
  exact ⟨n6_ok _, val_ok (h q hq).2⟩
theorem toH_del {P : List Pr} (h : PsOk P) {q : Pr} (hq : q.1 < 6) : del (toH P) (n6 q.1) = toH (P.filter fun p => decide (lt p ≠ lt q)) := by
  unfold del toH
  rw [List.filter_map]
  congr 1
  refine List.filter_congr fun p hp => ?_
  refine decide_eq_decide.mpr ?_
  show ¬ lw (n6 p.1) = lw (n6 q.1) ↔ ¬ lt p = lt q
  rw [n6_lw (h p hp).1 hq]; rfl
theorem toH_app (P : List Pr) (q : Pr) : toH (P ++ [q]) = toH P ++ [(n6 q.1, q.2)] := by unfold toH; rw [List.map_append]; rfl
theorem toH_sd {P : List Pr} (h : PsOk P) {q : Pr} (hq : q.1 < 6) : sdH (toH P) (n6 q.1) q.2 = toH (if lt q ∈ P.map lt then P else P ++ [q]) := by
  have e : (gets (toH P) (n6 q.1) = none) ↔ lt q ∉ P.map lt := by
    unfold gets
    rw [Option.map_eq_none_iff, List.find?_eq_none]
    constructor
    · intro h1 m
      obtain ⟨p, hp, e⟩ := List.mem_map.mp m
      refine h1 (n6 p.1, p.2) (List.mem_map_of_mem (f := fun q => (n6 q.1, q.2)) hp) ?_
      rw [decide_eq_true_iff]
      exact (n6_lw (h p hp).1 hq).mpr e
    · intro h1 x hx
      obtain ⟨p, hp, rfl⟩ := List.mem_map.mp hx
      rw [decide_eq_true_iff]
      intro e
      exact h1 (List.mem_map.mpr ⟨p, hp, (n6_lw (h p hp).1 hq).mp e⟩)
  unfold sdH
  split
  · rename_i v q1
    rw [if_pos]
    refine Classical.byContradiction fun n => ?_
    rw [e.mpr n] at q1; cases q1
  · rename_i q1
    rw [if_neg (e.mp q1), toH_app]

theorem val_all {x : List Nat} (h : Val3 x) : x.all (fun c => decide (c < 0x110000)) = true := by
  rcases h with rfl | rfl | rfl <;> decide
theorem n6_all (p : Nat) : (n6 p).all (fun c => decide (c < 0x110000)) = true := by
  unfold n6; split <;> decide
theorem pv_plain {q : Pr} (h : POk q) : (pv q).plain = true := by
  show ((n6 q.1).all (fun c => decide (c < 0x110000)) && (q.2.all (fun c => decide (c < 0x110000)) && true)) = true
  rw [n6_all, val_all h.2]; rfl
theorem pv_deep (q : Pr) : (pv q).deep = 1 := rfl
theorem cv_plain {c : Nat × Pr} (h : POk c.2) : (cv c).plain = true := by
  show (true && ((pv c.2).plain && true)) = true
  rw [pv_plain h]; rfl
theorem cv_deep (c : Nat × Pr) : (cv c).deep = 2 := rfl
theorem plains_map {α : Type} {f : α → V} {l : List α} {n : Nat} (h : ∀ x ∈ l, (f x).plain = true) (d : ∀ x, (f x).deep ≤ n) : V.plains (l.map f) = true ∧ V.deeps (l.map f) ≤ n := by
  induction l with
  | nil => exact ⟨rfl, Nat.zero_le _⟩
  | cons x r ih =>
    obtain ⟨a, b⟩ := ih fun y hy => h y (.tail _ hy)
    constructor
    · show ((f x).plain && V.plains (r.map f)) = true
      rw [h x (.head _), a]; rfl
    · show max (f x).deep (V.deeps (r.map f)) ≤ n
      exact Nat.max_le.mpr ⟨d x, b⟩
theorem map_inj {α : Type} {f : α → V} {A B : List α} (h : ∀ x ∈ A, ∀ y ∈ B, f x = f y → x = y) (e : A.map f = B.map f) : A = B := by
  induction A generalizing B with
  | nil => cases B with
    | nil => rfl
    | cons => cases e
  | cons x r ih => cases B with
    | nil => cases e
    | cons y q =>
      rw [List.map_cons, List.map_cons] at e
      injection e with e1 e2
      rw [h x (.head _) y (.head _) e1, ih (fun a ha b hb => h a (.tail _ ha) b (.tail _ hb)) e2]
theorem pv_inj {p q : Pr} (hp : POk p) (hq : POk q) (h : pv p = pv q) : p = q := by
  unfold pv at h
  injection h with h
  injection h with h1 h2
  injection h1 with h1
  injection h2 with h2
  injection h2 with h2
  obtain ⟨a, b⟩ := p
  obtain ⟨c, d⟩ := q
  have h1 : a = c := n6_inj hp.1 hq.1 h1
  have h2 : b = d := h2
  rw [h1, h2]
theorem cv_inj {c d : Nat × Pr} (hc : POk c.2) (hd : POk d.2) (h : cv c = cv d) : c = d := by
  unfold cv at h
  injection h with h
  injection h with h1 h2
  injection h1 with h1
  injection h2 with h2
  obtain ⟨a, b⟩ := c
  obtain ⟨a', b'⟩ := d
  have h1 : a = a' := Int.ofNat.inj h1
  have h2 : b = b' := pv_inj hc hd h2
  rw [h1, h2]
theorem c_lists {α : Type} {f : α → V} {n : Nat} {σ : Store} [DecidableEq α] {A B : List α} (ha : ∀ x ∈ A, (f x).plain = true) (hb : ∀ x ∈ B, (f x).plain = true) (d : ∀ x, (f x).deep ≤ n) (hn : n ≤ 7) (hi : ∀ x ∈ A, ∀ y ∈ B, f x = f y → x = y) :
    cmpV σ .Eq (.list (A.map f)) (.list (B.map f)) = some (.bool (decide (A = B))) := by
  show (eqV (.list (A.map f)) (.list (B.map f))).map _ = _
  obtain ⟨a1, a2⟩ := plains_map ha d
  obtain ⟨b1, b2⟩ := plains_map hb d
  rw [eqV_plain (a := .list (A.map f)) (b := .list (B.map f)) a1 b1 (by show V.deeps _ + 1 ≤ 8; omega) (by show V.deeps _ + 1 ≤ 8; omega), Option.map_some]
  congr 2
  rw [Bool.eq_iff_iff, V.eqb_iff, decide_eq_true_iff]
  exact ⟨fun h => map_inj hi (V.list.inj h), fun h => by rw [h]⟩
theorem c_in {α : Type} {f : α → V} {n : Nat} {σ : Store} [DecidableEq α] {x : α} {B : List α} (ha : (f x).plain = true) (hb : ∀ x ∈ B, (f x).plain = true) (d : ∀ x, (f x).deep ≤ n) (hn : n ≤ 7) (hi : ∀ y ∈ B, f y = f x → y = x) :
    cmpV σ .In (f x) (.list (B.map f)) = some (.bool (decide (x ∈ B))) := by
  show (inV (f x) (B.map f)).map _ = _
  obtain ⟨b1, b2⟩ := plains_map hb d
  have dx := d x
  unfold inV
  rw [if_pos (by rw [ha, b1, decide_eq_true (show (f x).deep ≤ 8 by omega), decide_eq_true (show V.deeps (B.map f) ≤ 8 by omega)]; rfl), Option.map_some]
  congr 2
  rw [Bool.eq_iff_iff, decide_eq_true_iff, List.any_eq_true]
  constructor
  · rintro ⟨v, hv, e⟩
    obtain ⟨y, hy, rfl⟩ := List.mem_map.mp hv
    exact hi y hy (V.eqb_eq e) ▸ hy
  · intro h; exact ⟨f x, List.mem_map_of_mem h, V.eqb_refl _⟩
theorem c_notin {σ : Store} {x y : V} {b : Bool} (h : cmpV σ .In x y = some (.bool b)) : cmpV σ .NotIn x y = some (.bool !b) := by
  obtain ⟨vs, rfl, h⟩ := listK_inv (show listK y _ = _ from h)
  obtain ⟨c, q, e⟩ := Option.map_eq_some_iff.mp h
  cases e
  show (inV x vs).map _ = _
  rw [q]; rfl
theorem lv_inj {a b : Nat} (h : lv a = lv b) : a = b := by
  unfold lv at h; injection h with h; exact Int.ofNat.inj h
theorem c_in_lv {σ : Store} {l : Nat} {L : List Nat} : cmpV σ .In (.int (l : Int)) (.list (L.map lv)) = some (.bool (decide (l ∈ L))) := c_in (f := lv) (n := 0) rfl (fun _ _ => rfl) (fun _ => Nat.le_refl _) (by decide) fun _ _ h => lv_inj h
theorem pick_take {α : Type} (xs : List α) (k : Nat) : pickL xs none (some (k : Int)) none = xs.take k := by
  rw [pickL_plain, show (Option.elim (some (k : Int)) xs.length (clipAt xs.length)) = min k xs.length from clipAt_nat xs.length k]
  show (xs.drop 0).take (min k xs.length - 0) = _
  rw [List.drop_zero, Nat.sub_zero]
  rcases Nat.le_total k xs.length with h | h
  · rw [Nat.min_eq_left h]
  · rw [Nat.min_eq_right h, List.take_length, List.take_of_length_le h]
theorem pick_one {α : Type} (xs : List α) (k : Nat) : pickL xs (some (k : Int)) (some ((k + 1 : Nat) : Int)) none = (xs.drop k).take 1 := by
  rw [pickL_plain, show (Option.elim (some ((k + 1 : Nat) : Int)) xs.length (clipAt xs.length)) = min (k + 1) xs.length from clipAt_nat xs.length (k + 1), show (Option.elim (some (k : Int)) 0 (clipAt xs.length)) = min k xs.length from clipAt_nat xs.length k]
  rcases Nat.lt_or_ge k xs.length with h | h
  · rw [Nat.min_eq_left (Nat.le_of_lt h), Nat.min_eq_left h, show k.succ - k = 1 by omega]
  · rw [Nat.min_eq_right h, Nat.min_eq_right (Nat.le_succ_of_le h), Nat.sub_self, List.drop_eq_nil_of_le h, List.take_nil, List.take_zero]

theorem e_zip {O : Orc} {ρ : Rho} {σ : Store} {own : Bool} {e : ME} {es ifs : MEs} {xs : List String} {us ws : List V} {r : V × Store} (P : Rho → Prop) (f : V → List V) (h : evalsM K O ρ σ es = some ([.list us, .list ws], σ))
    (turn : ∀ v ∈ List.zipWith (fun a b => V.tuple [a, b]) us ws, ∀ ρ, P ρ → Turn K O σ e (.tup xs) ifs P f v ρ)
    (hP : P (xs.map (fun x => (x, none)) ++ (".0", none) :: ρ)) (hl : (List.zipWith (fun a b => V.tuple [a, b]) us ws).length ≤ 1000) (hn : newL own ((List.zipWith (fun a b => V.tuple [a, b]) us ws).flatMap f) σ = some r) : evalM K O ρ σ (.comp own e (.zip xs es ifs)) = some r := by
  have hr : (MGs.zip xs es ifs).names.map (fun x => (x, (none : Option V))) ++ ρ = xs.map (fun x => (x, none)) ++ (".0", none) :: ρ := by simp [MGs.names]
  obtain ⟨ρ', -, hc⟩ := compM_keep (step := fun v ρ acc σ => (setT ρ (.tup xs) v).bind fun ρ => (ifsM K O ρ σ ifs).bind fun (b, σ) => if b then (evalM K O ρ σ e).bind fun (v, σ) => if acc.length ≤ 1000 then some (ρ, acc ++ [v], σ) else none else some (ρ, acc, σ)) (ok := fun _ => true) P f rfl (vs := List.zipWith (fun a b => V.tuple [a, b]) us ws) (fun v hv => by
      obtain ⟨_, b, _, _, _, q⟩ := turn v hv _ hP
      cases b with
      | true => obtain ⟨w, _, q⟩ := q; rw [q]; simp
      | false => rw [show f v = [] from q]; simp) (fun v hv ρ acc hp ha => by
      obtain ⟨ρ₁, b, q1, q2, q3, q⟩ := turn v hv ρ hp
      refine ⟨ρ₁, q2, ?_⟩
      cases b with
      | true =>
        obtain ⟨w, q4, q5⟩ := q
        rw [q5]; exact turn_in (t := .tup xs) (el := fun ρ σ => evalM K O ρ σ e) q1 q3 q4 ha
      | false =>
        rw [show f v = [] from q, List.append_nil]; exact turn_out (t := .tup xs) (el := fun ρ σ => evalM K O ρ σ e) q1 q3) hP (acc := []) (by simpa using hl)
  refine e_comp (ρ' := ρ') ?_ hn
  rw [hr]
  show Option.bind _ _ = _
  rw [h, Option.bind_some]
  exact hc
theorem x_foldI {O : Orc} {ρ : Rho} {σ : Store} {it : ME} {t : MT} {ms : MSs} {x : V} {α : Type} (g : α → V) {r : List α} (I : List α → Rho → Store → Prop) (h : evalM K O ρ σ it = some (x, σ)) (hv : iterOf σ x = some (r.map g)) (hst : ∀ σ, still x (r.map g) σ = true)
    (turn : ∀ d x e, r = d ++ x :: e → ∀ ρ σ, I d ρ σ → ∃ ρ₁ ρ' σ', setT ρ t (g x) = some ρ₁ ∧ execsM K O ρ₁ σ ms = some (.next, ρ', σ') ∧ I (d ++ [x]) ρ' σ') (h0 : I [] ρ σ) : ∃ ρ' σ', execM K O ρ σ (.for t it ms) = some (.next, ρ', σ') ∧ I r ρ' σ' := by
  obtain ⟨ρ', σ', q, hI⟩ := loopM_fold (step := fun v ρ σ => (setT ρ t v).bind fun ρ => execsM K O ρ σ ms) (ok := still x (r.map g)) g I r (fun d y e hw ρ σ hI => by
    obtain ⟨ρ₁, ρ', σ', q1, q2, q3⟩ := turn d y e hw ρ σ hI
    refine ⟨ρ', σ', ?_, q3⟩
    rw [q1]; exact q2) (fun _ _ σ _ => hst σ) (r := r) (d := []) rfl h0
  exact ⟨ρ', σ', x_for h hv q, hI⟩

structure LT (K : Cfg) (T : List (String × Fn)) : Prop where
  H : HT K T
  pair : T.lookup "_law_pair" = some (fn_law_pair K)
  letters : T.lookup "_law_letters" = some (fn_law_letters K)
  stand : T.lookup "_law_stand" = some (fn_law_stand K)
  far : T.lookup "_law_far" = some (fn_law_far K)
  nearer : T.lookup "_law_nearer" = some (fn_law_nearer K)
  after : T.lookup "_law_after" = some (fn_law_after K)
  walk : T.lookup "_law_walk" = some (fn_law_walk K)
  law : T.lookup "law" = some (fn_law K)

theorem idx_n6 {p : Nat} (h : p < 6) (σ : Store) : idxV σ (.str [97, 65, 98, 66, 99, 67]) (.int (p : Int)) = some (.str (n6 p)) := by
  rcases lt6 h with rfl | rfl | rfl | rfl | rfl | rfl <;> rfl
theorem pair_ok (L : LT K T) (n : Nat) (x : Int) (σ : Store) : ∃ q : Pr, POk q ∧ callM K T (n+1) "_law_pair" [.int x] [] σ = some (pv q, σ) := by
  obtain ⟨r, hr, e⟩ := fmod_nat x 18 (by omega)
  have e18 : binV σ .Mod (.int x) (.int 18) = some (.int (r : Int)) := b_mod (by decide) e
  have m6 : binV σ .Mod (.int r) (.int 6) = some (.int ((r % 6 : Nat) : Int)) := b_mod (by decide) (fmod_cast r 6)
  have d6 : binV σ .FloorDiv (.int r) (.int 6) = some (.int ((r / 6 : Nat) : Int)) := b_div (by decide) (fdiv_cast r 6)
  have h1 : r % 6 < 6 := Nat.mod_lt _ (by omega)
  have h2 : r / 6 < 3 := by omega
  have hi := idx_n6 h1 σ
  generalize r % 6 = a at *
  generalize r / 6 = m at *
  obtain ⟨v, hv, hi2⟩ : ∃ v, Val3 v ∧ idxV σ (.list [.str [], .str [49], .str [50]]) (.int (m : Int)) = some (.str v) := by
    obtain rfl | rfl | rfl : m = 0 ∨ m = 1 ∨ m = 2 := by omega
    · exact ⟨[], .inl rfl, rfl⟩
    · exact ⟨[49], .inr (.inl rfl), rfl⟩
    · exact ⟨[50], .inr (.inr rfl), rfl⟩
  refine ⟨(a, v), ⟨h1, hv⟩, ?_⟩
  refine call_of (v := pv (a, v)) (τ' := σ) (ρ := [("number", some (.int x)), ("rest", none)]) L.pair (by rfl) ?_ (fin_len rfl)
  apply Exists.intro
  dsimp only [fn_law_pair, pv]
  walk_at "EV"
theorem index_n6 {p : Nat} (h : p < 6) (σ : Store) : smV K.nd K.vd "index" σ (.str [97, 65, 98, 66, 99, 67]) [.str (n6 p)] = some (.int (p : Int), σ) := by
  show indexS σ (.str [97, 65, 98, 66, 99, 67]) [.str (n6 p)] = _
  have key : Builtin.Str.occurrences (strV [97, 65, 98, 66, 99, 67]) (strV (n6 p)) 0 (strV [97, 65, 98, 66, 99, 67]).length 1 = [p] := by
    rcases lt6 h with rfl | rfl | rfl | rfl | rfl | rfl <;> decide +kernel
  show (Option.map _ (Builtin.Str.occurrences (strV [97, 65, 98, 66, 99, 67]) (strV (n6 p)) 0 (strV [97, 65, 98, 66, 99, 67]).length 1).head?).or _ = _
  rw [key]; rfl
theorem letters_ok (L : LT K T) (n : Nat) {P : List Pr} (h : PsOk P) (hl : P.length ≤ 900) (σ : Store) : callM K T (n+1) "_law_letters" [.list (P.map pv)] [] σ = some (.list ((P.map lt).map lv), σ) := by
  refine call_of (v := .list ((P.map lt).map lv)) (τ' := σ) (ρ := [("pairs", some (.list (P.map pv)))]) L.letters (by rfl) ?_ (fin_len rfl)
  apply Exists.intro
  dsimp only [fn_law_letters]
  have fl : (P.map pv).flatMap (fun v => match v with | .tuple [.str a, .str b] => [lv ((if a = [97] then 0 else if a = [65] then 1 else if a = [98] then 2 else if a = [66] then 3 else if a = [99] then 4 else 5) / 2)] | _ => []) = (P.map lt).map lv := by
    rw [List.map_map]
    induction P with
    | nil => rfl
    | cons q r ih =>
      rw [List.map_cons, List.flatMap_cons, ih (fun p hp => h p (.tail _ hp)) (Nat.le_trans (Nat.le_succ _) hl), List.map_cons]
      obtain ⟨p, y⟩ := q
      rcases lt6 (h _ (.head _)).1 with e | e | e | e | e | e <;> (dsimp only at e; subst e; rfl)
  refine x_stop (x_ret (e_comp1 (x := .list (P.map pv)) (fun ρ' => ∃ a b, ρ' = [("word", a), ("value", b), (".0", none), ("pairs", some (.list (P.map pv)))]) _ (e_var rfl) rfl rfl ?_ ⟨_, _, rfl⟩ (by rw [List.length_map]; omega) (by rw [fl]; exact nl_not (by rw [List.length_map, List.length_map]; omega))))
  intro v hv ρ hP
  obtain ⟨q, hq, rfl⟩ := List.mem_map.mp hv
  obtain ⟨a, b, rfl⟩ := hP
  have hq6 := (h q hq).1
  have i1 := index_n6 (K := K) hq6 σ
  have d2 : binV σ .FloorDiv (.int (q.1 : Int)) (.int 2) = some (lv (lt q)) := b_div (by decide) (fdiv_cast q.1 2)
  have i0 : smId K.nd K.vd "index" σ (.str [97, 65, 98, 66, 99, 67]) = some "str.index" := rfl
  refine tr_yes (w := lv (lt q)) (ρ₁ := [("word", some (.str (n6 q.1))), ("value", some (.str q.2)), (".0", none), ("pairs", some (.list (P.map pv)))]) ?_ ?_ ?_ ?_ ?_
  · unfold pv; walk_at "EV"
  · exact ⟨_, _, rfl⟩
  · walk_at "EV"
  · walk_at "EV"
  · obtain ⟨p, y⟩ := q
    rcases lt6 hq6 with e | e | e | e | e | e <;> (dsimp only at e; subst e; rfl)
end

section

variable {K : Cfg} {T : List (String × Fn)}
noncomputable def stR (P G : List Pr) (a b c d e : Option V) : Rho := [("pairs", some (.list (P.map pv))), ("goal", some (.list (G.map pv))), ("there", a), ("due", b), ("kept", c), ("k", d), ("under", e)]
noncomputable def stBody : MSs := (.cons (.assign (.one "under") (.slice false (.var "due") .no (.yes (.var "k")) .no)) (.cons (.ite (.cmp .Eq (.comp false (.var "pair") (.zip ["pair", "letter"] (.cons (.var "pairs") (.cons (.var "there") .nil)) (.cons (.cmp .In (.var "letter") (.var "under")) .nil))) (.slice false (.var "goal") .no (.yes (.var "k")) .no)) (.cons (.assign (.one "kept") (.var "k")) .nil) .nil) .nil))
theorem sl_take {α : Type} {f : α → V} {xs : List α} {σ : Store} (h : xs.length ≤ 1000) (k : Nat) : sliceV false σ (.list (xs.map f)) none (some (k : Int)) none = some (.list ((xs.take k).map f), σ) := by
  rw [sl_list (lo := none) (hi := some (k : Int)) (st := none) (by rw [List.length_map]; exact h) nofun, pickL_map, pick_take]
theorem c_pairs {A B : List Pr} {σ : Store} (ha : PsOk A) (hb : PsOk B) : cmpV σ .Eq (.list (A.map pv)) (.list (B.map pv)) = some (.bool (decide (A = B))) :=
  c_lists (n := 1) (fun x hx => pv_plain (ha x hx)) (fun x hx => pv_plain (hb x hx)) (fun _ => Nat.le_refl _) (by decide) fun x hx y hy h => pv_inj (ha x hx) (hb y hy) h
theorem PsOk.take {P : List Pr} (h : PsOk P) (k : Nat) : PsOk (P.take k) := fun q hq => h q (List.mem_of_mem_take hq)
theorem PsOk.filter {P : List Pr} (h : PsOk P) (f : Pr → Bool) : PsOk (P.filter f) := fun q hq => h q (List.mem_filter.mp hq).1
theorem zip_pl (P : List Pr) : List.zipWith (fun a b => V.tuple [a, b]) (P.map pv) ((P.map lt).map lv) = P.map fun q => V.tuple [pv q, lv (lt q)] := by
  induction P with
  | nil => rfl
  | cons q r ih => rw [List.map_cons, List.map_cons, List.map_cons, List.zipWith_cons_cons, ih, List.map_cons]
set_option maxHeartbeats 2000000 in
theorem st_turn {O : Orc} {P G : List Pr} {c d e : Option V} {σ : Store} {k m : Nat} (hP : PsOk P) (hG : PsOk G) (lP : P.length ≤ 900) (lG : G.length ≤ 900) :
    execsM K O (stR P G (some (.list ((P.map lt).map lv))) (some (.list ((G.map lt).map lv))) (some (.int (m : Int))) (some (.int (k : Int))) e) σ stBody =
      some (.next, stR P G (some (.list ((P.map lt).map lv))) (some (.list ((G.map lt).map lv))) (some (.int ((if fk G P k = G.take k then k else m : Nat) : Int))) (some (.int (k : Int))) (some (.list (((G.take k).map lt).map lv))), σ) := by
  have s1 : sliceV false σ (.list ((G.map lt).map lv)) none (some (k : Int)) none = some (.list (((G.take k).map lt).map lv), σ) := by
    rw [sl_take (by rw [List.length_map]; omega)]; simp only [List.map_take]
  have s2 : sliceV false σ (.list (G.map pv)) none (some (k : Int)) none = some (.list ((G.take k).map pv), σ) := sl_take (by omega) k
  have fl : (List.zipWith (fun a b => V.tuple [a, b]) (P.map pv) ((P.map lt).map lv)).flatMap (fun v => match v with | .tuple [x, .int l] => (if l.toNat ∈ (G.take k).map lt then [x] else []) | _ => []) = (fk G P k).map pv := by
    rw [zip_pl]
    unfold fk
    induction P with
    | nil => rfl
    | cons q r ih =>
      rw [List.map_cons, List.flatMap_cons, ih (fun p hp => hP p (.tail _ hp)) (Nat.le_trans (Nat.le_succ _) lP), List.filter_cons]
      by_cases m : lt q ∈ (G.take k).map lt
      · rw [if_pos (decide_eq_true m), List.map_cons]
        show (if lt q ∈ _ then _ else _) ++ _ = _
        rw [if_pos m]; rfl
      · rw [if_neg (by rw [decide_eq_false m]; decide)]
        show (if lt q ∈ _ then _ else _) ++ _ = _
        rw [if_neg m]; rfl
  have lz : (List.zipWith (fun a b => V.tuple [a, b]) (P.map pv) ((P.map lt).map lv)).length ≤ 1000 := by rw [zip_pl, List.length_map]; omega
  have hfk : (fk G P k).length ≤ P.length := List.length_filter_le ..
  have hcomp : ∀ (u : Option V), u = some (.list (((G.take k).map lt).map lv)) → evalM K O (stR P G (some (.list ((P.map lt).map lv))) (some (.list ((G.map lt).map lv))) (some (.int (m : Int))) (some (.int (k : Int))) u) σ (.comp false (.var "pair") (.zip ["pair", "letter"] (.cons (.var "pairs") (.cons (.var "there") .nil)) (.cons (.cmp .In (.var "letter") (.var "under")) .nil))) = some (.list ((fk G P k).map pv), σ) := by
    rintro u rfl
    refine e_zip (fun ρ' => ∃ a b, ρ' = ("pair", a) :: ("letter", b) :: (".0", none) :: stR P G (some (.list ((P.map lt).map lv))) (some (.list ((G.map lt).map lv))) (some (.int (m : Int))) (some (.int (k : Int))) (some (.list (((G.take k).map lt).map lv)))) _ (us := P.map pv) (ws := (P.map lt).map lv) (by unfold stR; walk_at "EV") ?_ ⟨_, _, rfl⟩ lz (by rw [fl]; exact nl_not (by rw [List.length_map]; omega))
    intro v hv ρ hp
    rw [zip_pl] at hv
    obtain ⟨q, hq, rfl⟩ := List.mem_map.mp hv
    obtain ⟨a, b, rfl⟩ := hp
    have ci := c_in_lv (σ := σ) (l := lt q) (L := (G.take k).map lt)
    by_cases mm : lt q ∈ (G.take k).map lt
    · rw [decide_eq_true mm] at ci
      refine tr_yes (w := pv q) (ρ₁ := ("pair", some (pv q)) :: ("letter", some (lv (lt q))) :: (".0", none) :: stR P G (some (.list ((P.map lt).map lv))) (some (.list ((G.map lt).map lv))) (some (.int (m : Int))) (some (.int (k : Int))) (some (.list (((G.take k).map lt).map lv)))) ?_ ?_ ?_ ?_ ?_
      · walk_at "EV"
      · exact ⟨_, _, rfl⟩
      · exact if_one (t_cmp (e_var rfl) (e_var rfl) ci)
      · exact e_var rfl
      · show (if lt q ∈ _ then _ else _) = _
        rw [if_pos mm]
    · rw [decide_eq_false mm] at ci
      refine tr_no (ρ₁ := ("pair", some (pv q)) :: ("letter", some (lv (lt q))) :: (".0", none) :: stR P G (some (.list ((P.map lt).map lv))) (some (.list ((G.map lt).map lv))) (some (.int (m : Int))) (some (.int (k : Int))) (some (.list (((G.take k).map lt).map lv)))) ?_ ?_ ?_ ?_
      · walk_at "EV"
      · exact ⟨_, _, rfl⟩
      · exact if_one (t_cmp (e_var rfl) (e_var rfl) ci)
      · show (if lt q ∈ _ then _ else _) = _
        rw [if_neg mm]
  have x1 : execM K O (stR P G (some (.list ((P.map lt).map lv))) (some (.list ((G.map lt).map lv))) (some (.int (m : Int))) (some (.int (k : Int))) e) σ (.assign (.one "under") (.slice false (.var "due") .no (.yes (.var "k")) .no)) = some (.next, stR P G (some (.list ((P.map lt).map lv))) (some (.list ((G.map lt).map lv))) (some (.int (m : Int))) (some (.int (k : Int))) (some (.list (((G.take k).map lt).map lv))), σ) := by
    unfold stR; exact x_assign (e_slice (e_var rfl) o_no (o_yes (e_var rfl)) o_no rfl rfl rfl s1) (by walk_at "EV")
  have hc := c_pairs (σ := σ) (hP.filter fun q => decide (lt q ∈ (G.take k).map lt)) (hG.take k)
  have ht : ∀ t, decide (fk G P k = G.take k) = t → testM K O (stR P G (some (.list ((P.map lt).map lv))) (some (.list ((G.map lt).map lv))) (some (.int (m : Int))) (some (.int (k : Int))) (some (.list (((G.take k).map lt).map lv)))) σ (.cmp .Eq (.comp false (.var "pair") (.zip ["pair", "letter"] (.cons (.var "pairs") (.cons (.var "there") .nil)) (.cons (.cmp .In (.var "letter") (.var "under")) .nil))) (.slice false (.var "goal") .no (.yes (.var "k")) .no)) = some (t, σ) := fun t e => by
    have hc : cmpV σ .Eq (.list ((fk G P k).map pv)) (.list ((G.take k).map pv)) = some (.bool (decide (fk G P k = G.take k))) := hc
    rw [e] at hc
    exact t_cmp (hcomp _ rfl) (e_slice (e_var rfl) o_no (o_yes (e_var rfl)) o_no rfl rfl rfl s2) hc
  unfold stBody
  refine x_cons x1 (x_cons ?_ x_nil)
  by_cases hq : fk G P k = G.take k
  · rw [if_pos hq]
    exact x_ite_t (ht true (decide_eq_true hq)) (x_cons (x_assign (e_var rfl) (by unfold stR; walk_at "EV")) x_nil)
  · rw [if_neg hq]
    exact x_ite_f (ht false (decide_eq_false hq)) x_nil
theorem it_range (n : Nat) (h : n ≤ 999) (σ : Store) : iterOf σ (.rng 1 ((n : Int) + 1) 1) = some ((List.range n).map fun i => V.int ((i + 1 : Nat) : Int)) := by
  show (if _ then some ((List.range (Builtin.Range.rangeSize 1 ((n : Int) + 1) 1).toNat).map fun (i : Nat) => V.int (1 + (i : Int) * 1)) else none) = _
  rw [if_pos ⟨.inl rfl, by omega, by omega, by omega, by omega⟩]
  have : (Builtin.Range.rangeSize 1 ((n : Int) + 1) 1).toNat = n := by unfold Builtin.Range.rangeSize; simp; split <;> omega
  rw [this]
  congr 1
  refine List.map_congr_left fun i _ => ?_
  congr 1; omega
theorem it_three (σ : Store) : iterC σ (.rng 0 3 1) = some ([0, 1, 2].map lv) := by rfl
theorem bi_rng {a b : Int} {σ : Store} (h : -1000 ≤ a ∧ a ≤ 1000 ∧ -1000 ≤ b ∧ b ≤ 1000) : biV "range" σ [.int a, .int b] = some (.rng a b 1, σ) := by
  show Option.or (if -1000 ≤ a ∧ a ≤ 1000 ∧ -1000 ≤ b ∧ b ≤ 1000 then some (V.rng a b 1, σ) else none) _ = _
  rw [if_pos h]; rfl
set_option maxHeartbeats 2000000 in
theorem stand_ok (L : LT K T) {n : Nat} {P G : List Pr} (hP : PsOk P) (hG : PsOk G) (lP : P.length ≤ 900) (lG : G.length ≤ 900) (σ : Store) :
    callM K T (n+2) "_law_stand" [.list (P.map pv), .list (G.map pv)] [] σ = some (.tuple [.int (kept G P : Nat), .list ((xtr G P).map lv)], σ) := by
  have l1 := letters_ok L n hP lP σ
  have l2 := letters_ok L n hG lG σ
  have hln : biV "len" σ [.list (G.map pv)] = some (.int (G.length : Nat), σ) := by rw [bi_len (by rw [List.length_map]; omega), List.length_map]
  have hadd : binV σ .Add (.int (G.length : Nat)) (.int 1) = some (.int ((G.length : Int) + 1)) := rfl
  have hr := bi_rng (a := 1) (b := (G.length : Int) + 1) (σ := σ) (by omega)
  have x1 : execM K (callM K T (n+1)) (stR P G none none none none none) σ (.assign (.one "there") (.call "_law_letters" (.cons (.var "pairs") .nil))) = some (.next, stR P G (some (.list ((P.map lt).map lv))) none none none none, σ) := by unfold stR; walk_at "EV"
  have x2 : execM K (callM K T (n+1)) (stR P G (some (.list ((P.map lt).map lv))) none none none none) σ (.assign (.one "due") (.call "_law_letters" (.cons (.var "goal") .nil))) = some (.next, stR P G (some (.list ((P.map lt).map lv))) (some (.list ((G.map lt).map lv))) none none none, σ) := by unfold stR; walk_at "EV"
  have x3 : execM K (callM K T (n+1)) (stR P G (some (.list ((P.map lt).map lv))) (some (.list ((G.map lt).map lv))) none none none) σ (.assign (.one "kept") (.int 0)) = some (.next, stR P G (some (.list ((P.map lt).map lv))) (some (.list ((G.map lt).map lv))) (some (.int (0 : Nat))) none none, σ) := by unfold stR; walk_at "EV"
  obtain ⟨ρ', σ', x4, rfl, d, e, rfl⟩ := x_foldI (K := K) (O := callM K T (n+1)) (ρ := stR P G (some (.list ((P.map lt).map lv))) (some (.list ((G.map lt).map lv))) (some (.int (0 : Nat))) none none) (σ := σ) (it := .bi "range" (.cons (.int 1) (.cons (.bin .Add (.bi "len" (.cons (.var "goal") .nil)) (.int 1)) .nil))) (t := .one "k") (ms := stBody) (x := .rng 1 ((G.length : Int) + 1) 1) (fun i : Nat => V.int ((i + 1 : Nat) : Int)) (r := List.range G.length)
    (fun done ρ' σ' => σ' = σ ∧ ∃ d e, ρ' = stR P G (some (.list ((P.map lt).map lv))) (some (.list ((G.map lt).map lv))) (some (.int (kep G P done.length : Nat))) d e)
    (by unfold stR; walk_at "EV") (it_range _ (by omega) σ) (fun _ => rfl)
    (fun done x rest hw ρ' σ' hI => by
      obtain ⟨rfl, d, e, rfl⟩ := hI
      have hx : x = done.length := by
        have := congrArg (·[done.length]?) hw
        simp only [List.getElem?_append_right (Nat.le_refl _), Nat.sub_self, List.getElem?_cons_zero] at this
        obtain ⟨hlt, he⟩ := List.getElem?_eq_some_iff.mp this
        rw [List.getElem_range] at he; exact he.symm
      subst hx
      refine ⟨_, _, _, ?_, st_turn (c := none) (d := none) (e := e) (m := kep G P done.length) (k := done.length + 1) hP hG lP lG, rfl, some (.int ((done.length + 1 : Nat) : Int)), some (.list (((G.take (done.length + 1)).map lt).map lv)), ?_⟩
      · unfold stR; walk_at "EV"
      · rw [List.length_append, List.length_singleton]; rfl) ⟨rfl, none, none, rfl⟩
  rw [List.length_range] at x4
  have fl : ([0, 1, 2].map lv).flatMap (fun v => match v with | .int l => (if (decide (l.toNat ∈ P.map lt) && decide (l.toNat ∉ G.map lt)) = true then [v] else []) | _ => []) = (xtr G P).map lv := by
    have : ∀ L : List Nat, (L.map lv).flatMap (fun v => match v with | .int l => (if (decide (l.toNat ∈ P.map lt) && decide (l.toNat ∉ G.map lt)) = true then [v] else []) | _ => []) = (L.filter fun l => decide (l ∈ P.map lt) && decide (l ∉ G.map lt)).map lv := by
      intro L
      induction L with
      | nil => rfl
      | cons l r ih =>
        rw [List.map_cons, List.flatMap_cons, ih, List.filter_cons]
        show (if (decide (l ∈ P.map lt) && decide (l ∉ G.map lt)) = true then [lv l] else []) ++ _ = _
        split <;> rfl
    exact this [0, 1, 2]
  have hx5 : evalM K (callM K T (n+1)) (stR P G (some (.list ((P.map lt).map lv))) (some (.list ((G.map lt).map lv))) (some (.int (kep G P G.length : Nat))) d e) σ' (.comp false (.var "letter") (.cons (.one "letter") (.bi "range" (.cons (.int 3) .nil)) (.cons (.and (.cons (.cmp .In (.var "letter") (.var "there")) (.cons (.cmp .NotIn (.var "letter") (.var "due")) .nil))) .nil) .nil)) = some (.list ((xtr G P).map lv), σ') := by
    refine e_comp1 (x := .rng 0 3 1) (fun ρ' => ∃ a, ρ' = ("letter", a) :: (".0", none) :: stR P G (some (.list ((P.map lt).map lv))) (some (.list ((G.map lt).map lv))) (some (.int (kep G P G.length : Nat))) d e) _ (by walk_at "EV") (it_three σ') rfl ?_ ⟨_, rfl⟩ (by decide) (by rw [fl]; exact nl_not (by rw [List.length_map]; exact Nat.le_trans (List.length_filter_le ..) (by decide)))
    intro v hv ρ hp
    obtain ⟨l, hl, rfl⟩ := List.mem_map.mp hv
    obtain ⟨a, rfl⟩ := hp
    have c1 := c_in_lv (σ := σ') (l := l) (L := P.map lt)
    have c2 := c_notin (c_in_lv (σ := σ') (l := l) (L := G.map lt))
    refine ⟨("letter", some (lv l)) :: (".0", none) :: stR P G (some (.list ((P.map lt).map lv))) (some (.list ((G.map lt).map lv))) (some (.int (kep G P G.length : Nat))) d e, decide (l ∈ P.map lt) && decide (l ∉ G.map lt), by walk_at "EV", ⟨_, rfl⟩, ?_, ?_⟩
    · refine if_one (t_and ?_)
      by_cases m : l ∈ P.map lt
      · rw [decide_eq_true m] at c1 ⊢
        rw [decide_not]
        refine al_go_t (t_cmp (e_var rfl) (e_var rfl) c1) ?_
        cases q : decide (l ∈ G.map lt) with
        | true => rw [q] at c2; exact al_stop_t (t_cmp (e_var rfl) (e_var rfl) c2)
        | false => rw [q] at c2; exact al_go_t (t_cmp (e_var rfl) (e_var rfl) c2) al_nil
      · rw [decide_eq_false m] at c1 ⊢
        exact al_stop_t (t_cmp (e_var rfl) (e_var rfl) c1)
    · cases q : decide (l ∈ P.map lt) && decide (l ∉ G.map lt) with
      | true =>
        rw [if_pos rfl]
        refine ⟨lv l, e_var rfl, ?_⟩
        show (if (decide (l ∈ P.map lt) && decide (l ∉ G.map lt)) = true then [lv l] else []) = _
        rw [q]; rfl
      | false =>
        rw [if_neg (by decide)]
        show (if (decide (l ∈ P.map lt) && decide (l ∉ G.map lt)) = true then [lv l] else []) = _
        rw [q]; rfl
  refine call_of (v := .tuple [.int (kept G P : Nat), .list ((xtr G P).map lv)]) (τ' := σ') (ρ := stR P G none none none none none) L.stand (by rfl) ?_ (fin_len rfl)
  apply Exists.intro
  dsimp only [fn_law_stand]
  exact x_cons x1 (x_cons x2 (x_cons x3 (x_cons x4 (x_stop (x_ret (e_tuple (es_cons (e_var rfl) (es_cons hx5 es_nil)) (by simp)))))))
theorem far_ok (L : LT K T) {n : Nat} {P G : List Pr} (hP : PsOk P) (hG : PsOk G) (lP : P.length ≤ 900) (lG : G.length ≤ 900) (σ : Store) :
    callM K T (n+3) "_law_far" [.list (P.map pv), .list (G.map pv)] [] σ = some (lv (far G P), σ) := by
  have h1 := stand_ok L (n := n) hP hG lP lG σ
  have hln : biV "len" σ [.list (G.map pv)] = some (.int (G.length : Nat), σ) := by rw [bi_len (by rw [List.length_map]; omega), List.length_map]
  have hx : (xtr G P).length ≤ 3 := List.length_filter_le ..
  have hlx : biV "len" σ [.list ((xtr G P).map lv)] = some (.int ((xtr G P).length : Nat), σ) := by rw [bi_len (by rw [List.length_map]; omega), List.length_map]
  have hk := kept_le G P
  have hs : binV σ .Sub (.int (G.length : Nat)) (.int (kept G P : Nat)) = some (.int ((G.length - kept G P : Nat) : Int)) := by
    show some (V.int ((G.length : Int) - (kept G P : Int))) = _
    congr 2; omega
  have ha : binV σ .Add (.int ((G.length - kept G P : Nat) : Int)) (.int ((xtr G P).length : Nat)) = some (lv (far G P)) := by
    show some (V.int (((G.length - kept G P : Nat) : Int) + ((xtr G P).length : Int))) = _
    unfold lv far
    congr 2
  refine call_of (v := lv (far G P)) (τ' := σ) (ρ := [("pairs", some (.list (P.map pv))), ("goal", some (.list (G.map pv))), ("kept", none), ("extra", none)]) L.far (by rfl) ?_ (fin_len rfl)
  apply Exists.intro
  dsimp only [fn_law_far]
  walk_at "EV"
end

section

variable {K : Cfg} {T : List (String × Fn)}
theorem x_for0 {O : Orc} {ρ : Rho} {σ σ₁ : Store} {it : ME} {t : MT} {ms : MSs} (h : evalM K O ρ σ it = some (.list [], σ₁)) : execM K O ρ σ (.for t it ms) = some (.next, ρ, σ₁) := x_for h rfl rfl
theorem x_for1 {O : Orc} {ρ ρ₁ ρ₂ : Rho} {σ σ₁ σ₂ : Store} {it : ME} {t : MT} {ms : MSs} {v : V} (h : evalM K O ρ σ it = some (.list [v], σ₁)) (k : setT ρ t v = some ρ₁) (q : execsM K O ρ₁ σ₁ ms = some (.next, ρ₂, σ₂)) : execM K O ρ σ (.for t it ms) = some (.next, ρ₂, σ₂) := by
  refine x_for h rfl ?_
  rw [loopM, if_pos (show still (.list [v]) [v] σ₁ = true from rfl), k, Option.bind_some, q, Option.bind_some]; rfl
theorem fin_own {τ σ : Store} {vs : List V} {n : Nat} (hc : Closed σ) (hn : n = σ.length) (ht : τ.take n = σ) (hk : τ[n]? = some (.lst vs)) (hu : V.unders n vs = true) : fin n (.own n) τ = (.list vs, σ) := by
  subst hn
  unfold fin
  rw [ht, if_pos (show σ.all _ = true from hc)]
  dsimp only
  rw [if_neg (Nat.lt_irrefl _)]
  unfold ownLst
  rw [hk]
  dsimp only
  rw [if_pos hu]
theorem unders_cv (n : Nat) (l : List (Nat × Pr)) : V.unders n (l.map cv) = true := by
  induction l with
  | nil => rfl
  | cons c r ih =>
    show ((cv c).under n && V.unders n (r.map cv)) = true
    rw [ih]; rfl
theorem idx_dw {l : Nat} (h : l < 3) (σ : Store) : idxV σ (.str [97, 66, 99]) (.int (l : Int)) = some (.str (n6 (dw l))) := by
  obtain rfl | rfl | rfl : l = 0 ∨ l = 1 ∨ l = 2 := by omega
  all_goals rfl
noncomputable def nrR (P G : List Pr) (a b c d e f : Option V) : Rho := [("pairs", some (.list (P.map pv))), ("goal", some (.list (G.map pv))), ("kept", a), ("extra", b), ("calls", c), ("pair", d), ("letter", e), ("kinds", f)]
theorem idx0 {σ : Store} {v : V} : idxV σ (.list [v]) (.int 0) = some v := by
  show (seqAt [v] 0) = _
  rfl
noncomputable def nrBody : MSs := (.cons (.assign (.one "letter") (.idx (.call "_law_letters" (.cons (.list false (.cons (.var "pair") .nil)) .nil)) (.int 0))) (.cons (.assign (.one "kinds") (.list false (.cons (.int 0) (.cons (.int 2) (.cons (.int 3) .nil))))) (.cons (.ite (.cmp .In (.var "letter") (.call "_law_letters" (.cons (.slice false (.var "goal") .no (.yes (.var "kept")) .no) .nil))) (.cons (.assign (.one "kinds") (.list false (.cons (.int 2) .nil))) .nil) (.cons (.ite (.cmp .In (.var "letter") (.call "_law_letters" (.cons (.var "pairs") .nil))) (.cons (.assign (.one "kinds") (.list false (.cons (.int 0) .nil))) .nil) .nil) .nil)) (.cons (.expr (.sm (.var "calls") "extend" (.cons (.comp true (.tuple (.cons (.var "kind") (.cons (.var "pair") .nil))) (.cons (.one "kind") (.var "kinds") .nil .nil)) .nil))) .nil))))
set_option maxHeartbeats 4000000 in
theorem nr_turn (L : LT K T) {n : Nat} {P G : List Pr} (hP : PsOk P) (hG : PsOk G) (lP : P.length ≤ 900) (lG : G.length ≤ 900) {g : Pr} (hg : g ∈ G) {σ : Store} {cs : List V} {k : Nat} (hk : σ[k]? = some (.lst cs)) (lc : cs.length ≤ 900) {b e f : Option V} :
    ∃ ρ', execsM K (callM K T (n+1)) (nrR P G (some (.int (kept G P : Nat))) b (some (.own k)) (some (pv g)) e f) σ nrBody = some (.next, ρ', (σ ++ [OObj.lst ((kinds G P g).map fun k => cv (k, g))]).set k (.lst (cs ++ (kinds G P g).map fun k => cv (k, g)))) ∧ ∃ d e f, ρ' = nrR P G (some (.int (kept G P : Nat))) b (some (.own k)) d e f := by
  have l1 := letters_ok L n (P := [g]) (fun q hq => by rw [List.mem_singleton.mp hq]; exact hG g hg) (by simp) σ
  have l2 := letters_ok L n (hG.take (kept G P)) (by rw [List.length_take]; omega) σ
  have l3 := letters_ok L n hP lP σ
  have s1 : sliceV false σ (.list (G.map pv)) none (some ((kept G P : Nat) : Int)) none = some (.list ((G.take (kept G P)).map pv), σ) := sl_take (by omega) _
  have hi : idxV σ (.list (([g].map lt).map lv)) (.int 0) = some (lv (lt g)) := idx0
  have c1 := c_in_lv (σ := σ) (l := lt g) (L := (G.take (kept G P)).map lt)
  have c2 := c_in_lv (σ := σ) (l := lt g) (L := P.map lt)
  have hkl : k < σ.length := (List.getElem?_eq_some_iff.mp hk).1
  have x1 : ∀ a, a = some (V.int (kept G P : Nat)) → execM K (callM K T (n+1)) (nrR P G a b (some (.own k)) (some (pv g)) e f) σ (.assign (.one "letter") (.idx (.call "_law_letters" (.cons (.list false (.cons (.var "pair") .nil)) .nil)) (.int 0))) = some (.next, nrR P G a b (some (.own k)) (some (pv g)) (some (lv (lt g))) f, σ) := fun a ha =>
    x_assign (e_idx (e_call (es_cons (e_list (es_cons (e_var rfl) es_nil) (nl_not (by simp))) es_nil) l1) e_int hi) (by unfold nrR; walk_at "EV")
  have x2 : ∀ a, execM K (callM K T (n+1)) (nrR P G a b (some (.own k)) (some (pv g)) (some (lv (lt g))) f) σ (.assign (.one "kinds") (.list false (.cons (.int 0) (.cons (.int 2) (.cons (.int 3) .nil))))) = some (.next, nrR P G a b (some (.own k)) (some (pv g)) (some (lv (lt g))) (some (.list ([0, 2, 3].map lv))), σ) := fun a =>
    x_assign (e_list (es_cons e_int (es_cons e_int (es_cons e_int es_nil))) (nl_not (by simp))) (by unfold nrR; walk_at "EV")
  have x3 : execM K (callM K T (n+1)) (nrR P G (some (.int (kept G P : Nat))) b (some (.own k)) (some (pv g)) (some (lv (lt g))) (some (.list ([0, 2, 3].map lv)))) σ (.ite (.cmp .In (.var "letter") (.call "_law_letters" (.cons (.slice false (.var "goal") .no (.yes (.var "kept")) .no) .nil))) (.cons (.assign (.one "kinds") (.list false (.cons (.int 2) .nil))) .nil) (.cons (.ite (.cmp .In (.var "letter") (.call "_law_letters" (.cons (.var "pairs") .nil))) (.cons (.assign (.one "kinds") (.list false (.cons (.int 0) .nil))) .nil) .nil) .nil)) =
      some (.next, nrR P G (some (.int (kept G P : Nat))) b (some (.own k)) (some (pv g)) (some (lv (lt g))) (some (.list ((kinds G P g).map lv))), σ) := by
    have t1 : ∀ t, decide (lt g ∈ (G.take (kept G P)).map lt) = t → testM K (callM K T (n+1)) (nrR P G (some (.int (kept G P : Nat))) b (some (.own k)) (some (pv g)) (some (lv (lt g))) (some (.list ([0, 2, 3].map lv)))) σ (.cmp .In (.var "letter") (.call "_law_letters" (.cons (.slice false (.var "goal") .no (.yes (.var "kept")) .no) .nil))) = some (t, σ) := fun t q => by
      rw [q] at c1
      exact t_cmp (e_var rfl) (e_call (es_cons (e_slice (e_var rfl) o_no (o_yes (e_var rfl)) o_no rfl rfl rfl s1) es_nil) l2) c1
    have t2 : ∀ t, decide (lt g ∈ P.map lt) = t → testM K (callM K T (n+1)) (nrR P G (some (.int (kept G P : Nat))) b (some (.own k)) (some (pv g)) (some (lv (lt g))) (some (.list ([0, 2, 3].map lv)))) σ (.cmp .In (.var "letter") (.call "_law_letters" (.cons (.var "pairs") .nil))) = some (t, σ) := fun t q => by
      rw [q] at c2
      exact t_cmp (e_var rfl) (e_call (es_cons (e_var rfl) es_nil) l3) c2
    unfold kinds
    by_cases m1 : lt g ∈ (G.take (kept G P)).map lt
    · rw [if_pos m1]
      exact x_ite_t (t1 true (decide_eq_true m1)) (x_cons (x_assign (e_list (es_cons e_int es_nil) (nl_not (by simp))) (by unfold nrR; walk_at "EV")) x_nil)
    · rw [if_neg m1]
      refine x_ite_f (t1 false (decide_eq_false m1)) (x_cons ?_ x_nil)
      by_cases m2 : lt g ∈ P.map lt
      · rw [if_pos m2]
        exact x_ite_t (t2 true (decide_eq_true m2)) (x_cons (x_assign (e_list (es_cons e_int es_nil) (nl_not (by simp))) (by unfold nrR; walk_at "EV")) x_nil)
      · rw [if_neg m2]
        exact x_ite_f (t2 false (decide_eq_false m2)) x_nil
  have lk : (kinds G P g).length ≤ 3 := by unfold kinds; split; decide; split <;> decide
  have fl : ((kinds G P g).map lv).flatMap (fun v => [V.tuple [v, pv g]]) = (kinds G P g).map fun k => cv (k, g) := flat_map1 lv _ (fun k => cv (k, g)) (fun _ => rfl) _
  have hc : evalM K (callM K T (n+1)) (nrR P G (some (.int (kept G P : Nat))) b (some (.own k)) (some (pv g)) (some (lv (lt g))) (some (.list ((kinds G P g).map lv)))) σ (.comp true (.tuple (.cons (.var "kind") (.cons (.var "pair") .nil))) (.cons (.one "kind") (.var "kinds") .nil .nil)) = some (.own σ.length, σ ++ [OObj.lst ((kinds G P g).map fun k => cv (k, g))]) := by
    refine e_comp1 (x := .list ((kinds G P g).map lv)) (fun ρ' => ∃ a, ρ' = ("kind", a) :: (".0", none) :: nrR P G (some (.int (kept G P : Nat))) b (some (.own k)) (some (pv g)) (some (lv (lt g))) (some (.list ((kinds G P g).map lv)))) _ (e_var rfl) rfl rfl ?_ ⟨_, rfl⟩ (by rw [List.length_map]; omega) (by rw [fl]; exact nl_own (by rw [List.length_map]; omega))
    intro v hv ρ hp
    obtain ⟨a, rfl⟩ := hp
    refine tr_yes (w := V.tuple [v, pv g]) (ρ₁ := ("kind", some v) :: (".0", none) :: nrR P G (some (.int (kept G P : Nat))) b (some (.own k)) (some (pv g)) (some (lv (lt g))) (some (.list ((kinds G P g).map lv)))) ?_ ⟨_, rfl⟩ if_nil (e_tuple (es_cons (e_var rfl) (es_cons (e_var rfl) es_nil)) (by simp)) rfl
    walk_at "EV"
  have hid : smId K.nd K.vd "extend" σ (.own k) = some "list.extend" := by unfold smId; dsimp only; rw [hk]; rfl
  have hx : smV K.nd K.vd "extend" (σ ++ [OObj.lst ((kinds G P g).map fun k => cv (k, g))]) (.own k) [.own σ.length] = some (.none, (σ ++ [OObj.lst ((kinds G P g).map fun k => cv (k, g))]).set k (.lst (cs ++ (kinds G P g).map fun k => cv (k, g)))) := by
    show extendS _ (.own k) [.own σ.length] = _
    show lstK (σ ++ [OObj.lst ((kinds G P g).map fun k => cv (k, g))]) k _ = _
    rw [lstK_at (get_pre hk), lstK_at get_last, if_pos ⟨Nat.ne_of_lt hkl, by rw [List.length_map]; omega⟩]
  refine ⟨nrR P G (some (.int (kept G P : Nat))) b (some (.own k)) (some (pv g)) (some (lv (lt g))) (some (.list ((kinds G P g).map lv))), ?_, _, _, _, rfl⟩
  · unfold nrBody
    exact x_cons (x1 _ rfl) (x_cons (x2 _) (x_cons x3 (x_cons (x_expr (e_sm (e_var rfl) hid (es_cons hc es_nil) hx)) x_nil)))
set_option maxHeartbeats 4000000 in
theorem nearer_ok (L : LT K T) {n : Nat} {P G : List Pr} (hP : PsOk P) (hG : PsOk G) (lP : P.length ≤ 900) (lG : G.length ≤ 800) {σ : Store} (hcl : Closed σ) :
    callM K T (n+3) "_law_nearer" [.list (P.map pv), .list (G.map pv)] [] σ = some (.list ((near G P).map cv), σ) := by
  have h1 := stand_ok L (n := n) hP hG lP (by omega) σ
  have hx3 : (xtr G P).length ≤ 3 := List.length_filter_le ..
  have x1 : execM K (callM K T (n+2)) (nrR P G none none none none none none) σ (.assign (.tup ["kept", "extra"]) (.call "_law_stand" (.cons (.var "pairs") (.cons (.var "goal") .nil)))) = some (.next, nrR P G (some (.int (kept G P : Nat))) (some (.list ((xtr G P).map lv))) none none none none, σ) := by unfold nrR; walk_at "EV"
  have fl : ((xtr G P).map lv).flatMap (fun v => match v with | .int l => [cv (1, (dw l.toNat, []))] | _ => []) = ((xtr G P).map fun l => (1, (dw l, ([] : List Nat)))).map cv := by
    rw [flat_map1 lv _ (fun l => cv (1, (dw l, []))) (fun _ => rfl), List.map_map]; rfl
  have hc : evalM K (callM K T (n+2)) (nrR P G (some (.int (kept G P : Nat))) (some (.list ((xtr G P).map lv))) none none none none) σ (.comp true (.tuple (.cons (.int 1) (.cons (.tuple (.cons (.idx (.str [97, 66, 99]) (.var "one")) (.cons (.str []) .nil))) .nil))) (.cons (.one "one") (.var "extra") .nil .nil)) = some (.own σ.length, σ ++ [OObj.lst (((xtr G P).map fun l => (1, (dw l, ([] : List Nat)))).map cv)]) := by
    refine e_comp1 (x := .list ((xtr G P).map lv)) (fun ρ' => ∃ a, ρ' = ("one", a) :: (".0", none) :: nrR P G (some (.int (kept G P : Nat))) (some (.list ((xtr G P).map lv))) none none none none) _ (e_var rfl) rfl rfl ?_ ⟨_, rfl⟩ (by rw [List.length_map]; omega) (by rw [fl]; exact nl_own (by rw [List.length_map, List.length_map]; omega))
    intro v hv ρ hp
    obtain ⟨l, hl, rfl⟩ := List.mem_map.mp hv
    obtain ⟨a, rfl⟩ := hp
    have hi := idx_dw (xtr_mem.mp hl).1 σ
    refine tr_yes (w := cv (1, (dw l, []))) (ρ₁ := ("one", some (lv l)) :: (".0", none) :: nrR P G (some (.int (kept G P : Nat))) (some (.list ((xtr G P).map lv))) none none none none) ?_ ⟨_, rfl⟩ if_nil (e_tuple (es_cons e_int (es_cons (e_tuple (es_cons (e_idx e_str (e_var rfl) hi) (es_cons e_str es_nil)) (by simp)) es_nil)) (by simp)) rfl
    walk_at "EV"
  have x2 : execM K (callM K T (n+2)) (nrR P G (some (.int (kept G P : Nat))) (some (.list ((xtr G P).map lv))) none none none none) σ (.assign (.one "calls") (.comp true (.tuple (.cons (.int 1) (.cons (.tuple (.cons (.idx (.str [97, 66, 99]) (.var "one")) (.cons (.str []) .nil))) .nil))) (.cons (.one "one") (.var "extra") .nil .nil))) = some (.next, nrR P G (some (.int (kept G P : Nat))) (some (.list ((xtr G P).map lv))) (some (.own σ.length)) none none none, σ ++ [OObj.lst (((xtr G P).map fun l => (1, (dw l, ([] : List Nat)))).map cv)]) :=
    x_assign hc (by unfold nrR; walk_at "EV")
  generalize hσ1 : σ ++ [OObj.lst (((xtr G P).map fun l => (1, (dw l, ([] : List Nat)))).map cv)] = σ1 at x2 hc
  have hk1 : σ1[σ.length]? = some (.lst (((xtr G P).map fun l => (1, (dw l, ([] : List Nat)))).map cv)) := by rw [← hσ1]; exact get_last
  have ht1 : σ1.take σ.length = σ := by rw [← hσ1, List.take_left]
  have hle : σ.length < σ1.length := (List.getElem?_eq_some_iff.mp hk1).1
  have e1 : binV σ1 .Add (.int (kept G P : Nat)) (.int 1) = some (.int ((kept G P + 1 : Nat) : Int)) := by
    show some (V.int ((kept G P : Int) + 1)) = _
    congr 2
  have s1 : sliceV false σ1 (.list (G.map pv)) (some ((kept G P : Nat) : Int)) (some ((kept G P + 1 : Nat) : Int)) none = some (.list (((G.drop (kept G P)).take 1).map pv), σ1) := by
    rw [sl_list (st := none) (by rw [List.length_map]; omega) nofun, pickL_map, pick_one]
  have hit : evalM K (callM K T (n+2)) (nrR P G (some (.int (kept G P : Nat))) (some (.list ((xtr G P).map lv))) (some (.own σ.length)) none none none) σ1 (.slice false (.var "goal") (.yes (.var "kept")) (.yes (.bin .Add (.var "kept") (.int 1))) .no) = some (.list (((G.drop (kept G P)).take 1).map pv), σ1) :=
    e_slice (e_var rfl) (o_yes (e_var rfl)) (o_yes (e_bin (e_var rfl) e_int e1)) o_no rfl rfl rfl s1
  have key : ∃ ρ' τ, execM K (callM K T (n+2)) (nrR P G (some (.int (kept G P : Nat))) (some (.list ((xtr G P).map lv))) (some (.own σ.length)) none none none) σ1 (.for (.one "pair") (.slice false (.var "goal") (.yes (.var "kept")) (.yes (.bin .Add (.var "kept") (.int 1))) .no) nrBody) = some (.next, ρ', τ) ∧ (∃ a b d e f, ρ' = nrR P G a b (some (.own σ.length)) d e f) ∧ τ.take σ.length = σ ∧ τ[σ.length]? = some (.lst ((near G P).map cv)) := by
    unfold near
    cases hd : G.drop (kept G P) with
    | nil =>
      rw [hd] at hit
      refine ⟨_, _, x_for0 hit, ⟨_, _, _, _, _, rfl⟩, ht1, ?_⟩
      rw [hk1]
      simp
    | cons g r =>
      rw [hd] at hit
      have hg : g ∈ G := List.mem_of_mem_drop (i := kept G P) (by rw [hd]; exact List.mem_cons_self ..)
      obtain ⟨ρ', q1, d, e, f, rfl⟩ := nr_turn L (n := n + 1) (b := some (.list ((xtr G P).map lv))) (e := none) (f := none) hP hG lP (by omega) hg hk1 (by rw [List.length_map, List.length_map]; omega)
      refine ⟨_, _, x_for1 hit (ρ₁ := nrR P G (some (.int (kept G P : Nat))) (some (.list ((xtr G P).map lv))) (some (.own σ.length)) (some (pv g)) none none) (by unfold nrR; walk_at "EV") q1, ⟨_, _, _, _, _, rfl⟩, ?_, ?_⟩
      · rw [List.take_set_of_le (Nat.le_refl _), List.take_append_of_le_length (Nat.le_of_lt hle), ht1]
      · rw [List.getElem?_set_self (by rw [List.length_append]; exact Nat.lt_of_lt_of_le hle (Nat.le_add_right _ _))]
        congr 2
        simp [List.map_append, List.map_map, Function.comp_def]
  obtain ⟨ρ', τ, x3, ⟨a, b, d, e, f, rfl⟩, ht2, hk2⟩ := key
  refine call_of (v := .own σ.length) (τ' := τ) (ρ := nrR P G none none none none none none) L.nearer (by rfl) ?_ (fin_own hcl rfl ht2 hk2 (unders_cv _ _))
  apply Exists.intro
  dsimp only [fn_law_nearer]
  exact x_cons x1 (x_cons x2 (x_cons x3 (x_stop (x_ret (e_var rfl)))))
end

section

variable {K : Cfg} {T : List (String × Fn)}
noncomputable def afBody : MSs := (.cons (.ite (.cmp .Eq (.var "kind") (.int 0)) (.cons (.setitem (.var "table") (.idx (.var "pair") (.int 0)) (.idx (.var "pair") (.int 1))) .nil) (.cons (.ite (.cmp .Eq (.var "kind") (.int 1)) (.cons (.del (.var "table") (.idx (.var "pair") (.int 0))) .nil) (.cons (.ite (.cmp .Eq (.var "kind") (.int 2)) (.cons (.expr (.meth (.var "table") "add_header" (.cons (.idx (.var "pair") (.int 0)) (.cons (.idx (.var "pair") (.int 1)) .nil)) .nil)) .nil) (.cons (.expr (.meth (.var "table") "setdefault" (.cons (.idx (.var "pair") (.int 0)) (.cons (.idx (.var "pair") (.int 1)) .nil)) .nil)) .nil)) .nil)) .nil)) (.cons (.ret (.meth (.var "table") "items" .nil .nil)) .nil))
theorem idx_p0 {σ : Store} {a b : V} : idxV σ (.tuple [a, b]) (.int 0) = some a := rfl
theorem idx_p1 {σ : Store} {a b : V} : idxV σ (.tuple [a, b]) (.int 1) = some b := rfl
theorem aft_len (P : List Pr) (c : Nat × Pr) : (aft P c).length ≤ P.length + 1 := by
  have := List.length_filter_le (fun q => decide (lt q ≠ lt c.2)) P
  unfold aft
  split
  · rw [List.length_append, List.length_singleton]; omega
  · omega
  · rw [List.length_append, List.length_singleton]; exact Nat.le_refl _
  · split
    · exact Nat.le_succ _
    · rw [List.length_append, List.length_singleton]; exact Nat.le_refl _
theorem PsOk.app {P : List Pr} (h : PsOk P) {q : Pr} (hq : POk q) : PsOk (P ++ [q]) := fun p hp => by
  rcases List.mem_append.mp hp with hp | hp
  · exact h p hp
  · rw [List.mem_singleton.mp hp]; exact hq
theorem aft_ok {P : List Pr} (h : PsOk P) {c : Nat × Pr} (hc : POk c.2) : PsOk (aft P c) := by
  unfold aft
  split
  · exact (h.filter _).app hc
  · exact h.filter _
  · exact h.app hc
  · split
    · exact h
    · exact h.app hc
set_option maxHeartbeats 4000000 in
theorem after_ok (L : HT K T) (hT : T.lookup "_law_after" = some (fn_law_after K)) {n : Nat} {σ : Store} {h l : Nat} {P : List Pr} {c : Nat × Pr} (B : Tb σ h l (toH P)) (hcl : Closed σ) (hP : PsOk P) (hl : P.length ≤ 800) (hc : c.1 < 4 ∧ POk c.2) :
    callM K T (n+4) "_law_after" [.own h, cv c] [] σ = some (.list ((aft P c).map pv), σ.set l (.lst ((aft P c).map pv))) := by
  obtain ⟨k, p, v⟩ := c
  obtain ⟨h1, h2, h3⟩ := hc
  dsimp only at h1 h2 h3
  have hv := val_ok h3
  have hn := n6_ok p
  have hi := B.inst
  have hh := toH_ok hP
  have lh : (toH P).length ≤ 900 := by unfold toH; rw [List.length_map]; omega
  have e1 := seti_ok L (n := n) B hh lh hn hv
  have e2 := deli_ok L (n := n + 1) B hh lh hn
  have e3 := add_ok L (n := n + 1) B hcl hh lh hn hv
  have e4 := sd_ok L (n := n) B hh lh hn hv
  rw [toH_del hP (q := (p, v)) h2, ← toH_app _ (p, v), toH_pr] at e1
  rw [toH_del hP (q := (p, v)) h2, toH_pr] at e2
  rw [← toH_app _ (p, v), toH_pr] at e3
  rw [toH_sd hP (q := (p, v)) h2, toH_pr] at e4
  have ep : (∃ a, a = aft P (k, (p, v))) := ⟨_, rfl⟩
  have la := aft_len P (k, (p, v))
  have B' : Tb (σ.set l (.lst ((aft P (k, (p, v))).map pv))) h l (toH (aft P (k, (p, v)))) := by
    rw [← toH_pr]; exact B.set
  have e5 := items_ok L (n := n + 2) B' (by unfold toH; rw [List.length_map]; omega)
  rw [toH_pr] at e5
  have hi' := B'.inst
  have f0 : idxV σ (pv (p, v)) (.int 0) = some (.str (n6 p)) := rfl
  have f1 : idxV σ (pv (p, v)) (.int 1) = some (.str v) := rfl
  have x2 : ∃ ρ', execsM K (callM K T (n+3)) [("table", some (.own h)), ("call", some (cv (k, (p, v)))), ("kind", some (.int (k : Int))), ("pair", some (pv (p, v)))] σ afBody = some (.ret (.list ((aft P (k, (p, v))).map pv)), ρ', σ.set l (.lst ((aft P (k, (p, v))).map pv))) := by
    refine ⟨[("table", some (.own h)), ("call", some (cv (k, (p, v)))), ("kind", some (.int (k : Int))), ("pair", some (pv (p, v)))], ?_⟩
    unfold afBody
    have hfin : execsM K (callM K T (n+3)) [("table", some (.own h)), ("call", some (cv (k, (p, v)))), ("kind", some (.int (k : Int))), ("pair", some (pv (p, v)))] (σ.set l (.lst ((aft P (k, (p, v))).map pv))) (.cons (.ret (.meth (.var "table") "items" .nil .nil)) .nil) = some (.ret (.list ((aft P (k, (p, v))).map pv)), [("table", some (.own h)), ("call", some (cv (k, (p, v)))), ("kind", some (.int (k : Int))), ("pair", some (pv (p, v)))], σ.set l (.lst ((aft P (k, (p, v))).map pv))) :=
      x_stop (x_ret (e_meth (e_var rfl) hi' es_nil k_nil rfl e5))
    refine x_cons ?_ hfin
    clear hfin e5 hi' B' la ep
    rcases lt4 h1 with hk | hk | hk | hk
    · have t0 : cmpV σ .Eq (.int (k : Int)) (.int 0) = some (.bool true) := c_nat hk
      subst hk
      exact x_ite_t (t_cmp (e_var rfl) e_int t0) (x_cons (x_setitem (e_idx (e_var rfl) e_int f1) (e_var rfl) (e_idx (e_var rfl) e_int f0) hi e1) x_nil)
    · have t0 : cmpV σ .Eq (.int (k : Int)) (.int 0) = some (.bool false) := c_natn (b := 0) (by omega)
      have t1 : cmpV σ .Eq (.int (k : Int)) (.int 1) = some (.bool true) := c_nat hk
      subst hk
      exact x_ite_f (t_cmp (e_var rfl) e_int t0) (x_cons (x_ite_t (t_cmp (e_var rfl) e_int t1) (x_cons (x_del (e_var rfl) (e_idx (e_var rfl) e_int f0) hi e2) x_nil)) x_nil)
    · have t0 : cmpV σ .Eq (.int (k : Int)) (.int 0) = some (.bool false) := c_natn (b := 0) (by omega)
      have t1 : cmpV σ .Eq (.int (k : Int)) (.int 1) = some (.bool false) := c_natn (b := 1) (by omega)
      have t2 : cmpV σ .Eq (.int (k : Int)) (.int 2) = some (.bool true) := c_nat hk
      subst hk
      exact x_ite_f (t_cmp (e_var rfl) e_int t0) (x_cons (x_ite_f (t_cmp (e_var rfl) e_int t1) (x_cons (x_ite_t (t_cmp (e_var rfl) e_int t2) (x_cons (x_expr (e_meth (e_var rfl) hi (es_cons (e_idx (e_var rfl) e_int f0) (es_cons (e_idx (e_var rfl) e_int f1) es_nil)) k_nil rfl e3)) x_nil)) x_nil)) x_nil)
    · have t0 : cmpV σ .Eq (.int (k : Int)) (.int 0) = some (.bool false) := c_natn (b := 0) (by omega)
      have t1 : cmpV σ .Eq (.int (k : Int)) (.int 1) = some (.bool false) := c_natn (b := 1) (by omega)
      have t2 : cmpV σ .Eq (.int (k : Int)) (.int 2) = some (.bool false) := c_natn (b := 2) (by omega)
      subst hk
      exact x_ite_f (t_cmp (e_var rfl) e_int t0) (x_cons (x_ite_f (t_cmp (e_var rfl) e_int t1) (x_cons (x_ite_f (t_cmp (e_var rfl) e_int t2) (x_cons (x_expr (e_meth (e_var rfl) hi (es_cons (e_idx (e_var rfl) e_int f0) (es_cons (e_idx (e_var rfl) e_int f1) es_nil)) k_nil rfl e4)) x_nil)) x_nil)) x_nil)
  obtain ⟨ρ', x2⟩ := x2
  refine call_of (v := .list ((aft P (k, (p, v))).map pv)) (τ' := σ.set l (.lst ((aft P (k, (p, v))).map pv))) (ρ := [("table", some (.own h)), ("call", some (cv (k, (p, v)))), ("kind", none), ("pair", none)]) hT (by rfl) ?_ (fin_len (by rw [List.length_set]))
  refine ⟨ρ', ?_⟩
  dsimp only [fn_law_after]
  refine x_cons (ρ₁ := [("table", some (.own h)), ("call", some (cv (k, (p, v)))), ("kind", some (.int (k : Int))), ("pair", some (pv (p, v)))]) (σ₁ := σ) (x_assign (e_var rfl) (by unfold cv; walk_at "EV")) x2

theorem Tb.other {σ : Store} {h l l' : Nat} {hs : Hs} {x : OObj} {vs : List V} (B : Tb σ h l hs) (hl : σ[l']? = some (.lst vs)) (ne : l' ≠ l) : Tb (σ.set l' x) h l hs := by
  obtain ⟨d, h1, h2⟩ := B.d
  refine ⟨⟨d, ?_, ?_⟩, ?_⟩
  · rw [List.getElem?_set_ne (by rintro rfl; rw [hl] at h1; cases h1)]; exact h1
  · rw [List.getElem?_set_ne (by rintro rfl; rw [hl] at h2; cases h2)]; exact h2
  · rw [List.getElem?_set_ne ne]; exact B.l
theorem Closed.app {σ : Store} (h : Closed σ) {vs : List V} (hu : ∀ n, V.unders n vs = true) : Closed (σ ++ [OObj.lst vs]) := by
  unfold Closed at h ⊢
  rw [List.all_append, Bool.and_eq_true]
  constructor
  · rw [List.all_eq_true] at h ⊢
    intro o ho
    exact OObj.under_mono (by simp) (h o ho)
  · simp only [List.all_cons, List.all_nil, Bool.and_true]; exact hu _
theorem unders_lv (n : Nat) (l : List Nat) : V.unders n (l.map lv) = true := by
  induction l with
  | nil => rfl
  | cons c r ih => exact ih
theorem unders_pv (n : Nat) (l : List Pr) : V.unders n (l.map pv) = true := by
  induction l with
  | nil => rfl
  | cons c r ih => exact ih
theorem compM_grow {step : V → Rho → List V → Store → Option (Rho × List V × Store)} {ok : Store → Bool} {α : Type} (g f : α → V) (P : Rho → Prop) (J : Store → Prop) (hok : ∀ σ, J σ → ok σ = true) :
    ∀ {L : List α}, (∀ x ∈ L, ∀ ρ acc σ, P ρ → J σ → acc.length ≤ 1000 → ∃ ρ' σ', P ρ' ∧ J σ' ∧ step (g x) ρ acc σ = some (ρ', acc ++ [f x], σ')) → ∀ {ρ acc σ}, P ρ → J σ → acc.length + L.length ≤ 1000 → ∃ ρ' σ', J σ' ∧ compM step ok (L.map g) ρ acc σ = some (ρ', acc ++ L.map f, σ') := by
  intro L
  induction L with
  | nil => intro _ ρ acc σ _ hJ _; exact ⟨ρ, σ, hJ, by simp [compM, hok σ hJ]⟩
  | cons v r ih =>
    intro hs ρ acc σ hP hJ hl
    rw [List.length_cons] at hl
    obtain ⟨ρ', σ', hP', hJ', e⟩ := hs v (.head _) ρ acc σ hP hJ (by omega)
    obtain ⟨ρ'', σ'', hJ'', e'⟩ := ih (fun v hv => hs v (.tail _ hv)) (ρ := ρ') (acc := acc ++ [f v]) (σ := σ') hP' hJ' (by rw [List.length_append, List.length_singleton]; omega)
    refine ⟨ρ'', σ'', hJ'', ?_⟩
    rw [List.map_cons]
    unfold compM
    rw [if_pos (hok σ hJ), e, Option.bind_some]
    dsimp only
    rw [e', List.append_assoc, List.map_cons]; rfl
theorem e_compG {O : Orc} {ρ : Rho} {σ : Store} {e it : ME} {y : String} {x : V} {α : Type} {L : List α} (g f : α → V) (P : Rho → Prop) (J : Store → Prop) (h : evalM K O ρ σ it = some (x, σ)) (hv : iterC σ x = some (L.map g)) (hst : ∀ σ, J σ → still x (L.map g) σ = true) (hl : L.length ≤ 1000)
    (turn : ∀ v ∈ L, ∀ ρ σ, P ρ → J σ → ∃ ρ₁ σ', setT ρ (.one y) (g v) = some ρ₁ ∧ P ρ₁ ∧ evalM K O ρ₁ σ e = some (f v, σ') ∧ J σ')
    (hP : P ((y, none) :: (".0", none) :: ρ)) (hJ : J σ) : ∃ σ', J σ' ∧ ∀ own r, newL own (L.map f) σ' = some r → evalM K O ρ σ (.comp own e (.cons (.one y) it .nil .nil)) = some r := by
  obtain ⟨ρ', σ', hJ', hc⟩ := compM_grow (step := fun v ρ acc σ => (setT ρ (.one y) v).bind fun ρ => (ifsM K O ρ σ .nil).bind fun (b, σ) => if b then (evalM K O ρ σ e).bind fun (v, σ) => if acc.length ≤ 1000 then some (ρ, acc ++ [v], σ) else none else some (ρ, acc, σ)) (ok := still x (L.map g)) g f P J hst (L := L) (fun v hv ρ acc σ hp hj ha => by
      obtain ⟨ρ₁, σ', q1, q2, q3, q4⟩ := turn v hv ρ σ hp hj
      exact ⟨ρ₁, σ', q2, q4, turn_in (t := .one y) (ifs := .nil) (el := fun ρ σ => evalM K O ρ σ e) q1 if_nil q3 ha⟩) hP hJ (acc := []) (by simpa using hl)
  exact ⟨σ', hJ', fun own r hn => e_comp (ρ' := ρ') (g_one h hv hc) hn⟩
theorem compM_flat {step : V → Rho → List V → Store → Option (Rho × List V × Store)} {ok : Store → Bool} {σ : Store} (P : Rho → Prop) (f : V → List V) (hok : ok σ = true) (m : Nat) :
    ∀ {vs : List V}, (∀ v ∈ vs, (f v).length ≤ m) → (∀ v ∈ vs, ∀ ρ acc, P ρ → acc.length ≤ 900 → ∃ ρ', P ρ' ∧ step v ρ acc σ = some (ρ', acc ++ f v, σ)) → ∀ {ρ acc}, P ρ → acc.length + m * vs.length ≤ 900 → ∃ ρ', compM step ok vs ρ acc σ = some (ρ', acc ++ vs.flatMap f, σ) := by
  intro vs
  induction vs with
  | nil => intro _ _ ρ acc hP _; exact ⟨ρ, by simp [compM, hok]⟩
  | cons v r ih =>
    intro h1 hs ρ acc hP hl
    rw [List.length_cons, Nat.mul_succ] at hl
    obtain ⟨ρ', hP', e⟩ := hs v (.head _) ρ acc hP (by omega)
    have hv := h1 v (.head _)
    obtain ⟨ρ'', e'⟩ := ih (fun v hv => h1 v (.tail _ hv)) (fun v hv => hs v (.tail _ hv)) (ρ := ρ') (acc := acc ++ f v) hP' (by rw [List.length_append]; omega)
    refine ⟨ρ'', ?_⟩
    unfold compM
    rw [if_pos hok, e, Option.bind_some]
    dsimp only
    rw [e', List.flatMap_cons, List.append_assoc]
theorem menu2 {O : Orc} {ρ : Rho} {σ : Store} {G : List Pr} (lG : G.length ≤ 100) (hg : look ρ "goal" = some (.list (G.map pv))) :
    evalM K O ρ σ (.comp false (.tuple (.cons (.var "kind") (.cons (.var "pair") .nil))) (.cons (.one "pair") (.var "goal") .nil (.cons (.one "kind") (.tuple (.cons (.int 0) (.cons (.int 2) (.cons (.int 3) .nil)))) .nil .nil))) = some (.list ((G.flatMap fun g => [(0, g), (2, g), (3, g)]).map cv), σ) := by
  have fl : (G.map pv).flatMap (fun g => [V.tuple [.int 0, g], V.tuple [.int 2, g], V.tuple [.int 3, g]]) = (G.flatMap fun g => [(0, g), (2, g), (3, g)]).map cv := by
    induction G with
    | nil => rfl
    | cons g r ih =>
      rw [List.map_cons, List.flatMap_cons, List.flatMap_cons, List.map_append]
      have : (r.map pv).flatMap (fun g => [V.tuple [.int 0, g], V.tuple [.int 2, g], V.tuple [.int 3, g]]) = (r.flatMap fun g => [(0, g), (2, g), (3, g)]).map cv := by
        clear hg ih lG
        induction r with
        | nil => rfl
        | cons g r ih => rw [List.map_cons, List.flatMap_cons, List.flatMap_cons, List.map_append, ih]; rfl
      rw [this]; rfl
  obtain ⟨ρ', hc⟩ := compM_flat (step := fun v ρ acc σ => (setT ρ (.one "pair") v).bind fun ρ => (ifsM K O ρ σ .nil).bind fun (b, σ) => if b then genM K O (fun ρ σ => evalM K O ρ σ (.tuple (.cons (.var "kind") (.cons (.var "pair") .nil)))) ρ ρ acc σ (.cons (.one "kind") (.tuple (.cons (.int 0) (.cons (.int 2) (.cons (.int 3) .nil)))) .nil .nil) else some (ρ, acc, σ)) (ok := still (.list (G.map pv)) (G.map pv)) (σ := σ)
    (fun ρ' => ∃ a b, ρ' = ("pair", a) :: ("kind", b) :: (".0", none) :: ρ) (fun g => [V.tuple [.int 0, g], V.tuple [.int 2, g], V.tuple [.int 3, g]]) rfl 3 (vs := G.map pv) (fun _ _ => Nat.le_refl _) (fun v hv ρ' acc hp ha => by
      obtain ⟨a, b, rfl⟩ := hp
      obtain ⟨ρ2, ⟨b', hρ2⟩, hc2⟩ := compM_keep (step := fun v ρ acc σ => (setT ρ (.one "kind") v).bind fun ρ => (ifsM K O ρ σ .nil).bind fun (b, σ) => if b then (evalM K O ρ σ (.tuple (.cons (.var "kind") (.cons (.var "pair") .nil)))).bind fun (v, σ) => if acc.length ≤ 1000 then some (ρ, acc ++ [v], σ) else none else some (ρ, acc, σ)) (ok := still (.tuple ([0, 2, 3].map lv)) ([0, 2, 3].map lv)) (σ := σ)
        (fun ρ' => ∃ b, ρ' = ("pair", some v) :: ("kind", b) :: (".0", none) :: ρ) (fun k => [V.tuple [k, v]]) rfl (vs := [0, 2, 3].map lv) (fun _ _ => Nat.le_refl _) (fun k hk ρ' acc hp ha => by
          obtain ⟨b, rfl⟩ := hp
          exact ⟨("pair", some v) :: ("kind", some k) :: (".0", none) :: ρ, ⟨_, rfl⟩, turn_in (t := .one "kind") (ifs := .nil) (el := fun ρ σ => evalM K O ρ σ (.tuple (.cons (.var "kind") (.cons (.var "pair") .nil)))) (by walk_at "EV") if_nil (e_tuple (es_cons (e_var rfl) (es_cons (e_var rfl) es_nil)) (by simp)) ha⟩) (ρ := ("pair", some v) :: ("kind", b) :: (".0", none) :: ρ) (acc := acc) ⟨_, rfl⟩ (by simp; omega)
      subst hρ2
      refine ⟨("pair", some v) :: ("kind", b') :: (".0", none) :: ρ, ⟨_, _, rfl⟩, ?_⟩
      rw [show setT (("pair", a) :: ("kind", b) :: (".0", none) :: ρ) (.one "pair") v = some (("pair", some v) :: ("kind", b) :: (".0", none) :: ρ) from by walk_at "EV", Option.bind_some, if_nil, Option.bind_some]
      dsimp only
      rw [if_pos rfl]
      exact g_one (x := .tuple ([0, 2, 3].map lv)) (e_tuple (es_cons e_int (es_cons e_int (es_cons e_int es_nil))) (by simp)) rfl hc2) (ρ := ("pair", none) :: ("kind", none) :: (".0", none) :: ρ) (acc := []) ⟨_, _, rfl⟩ (by simp; omega)
  refine e_comp (ρ' := ρ') (vs := (G.flatMap fun g => [(0, g), (2, g), (3, g)]).map cv) (σ₁ := σ) ?_ (nl_not ?_)
  · rw [← fl]
    show Option.bind _ _ = _; rw [e_var hg, Option.bind_some]
    dsimp only [iterC, iterOf]
    rw [Option.bind_some]
    simpa [MGs.names, MT.names] using hc
  · rw [List.length_map]
    have : ∀ G : List Pr, (G.flatMap fun g => [(0, g), (2, g), (3, g)]).length = 3 * G.length := fun G => by
      induction G with
      | nil => rfl
      | cons g r ih => rw [List.flatMap_cons, List.length_append, ih, List.length_cons]; simp; omega
    rw [this]; omega
end

section

variable {K : Cfg} {T : List (String × Fn)}
noncomputable def wkR (P G : List Pr) (a b c d e f g i : Option V) : Rho := [("begun", some (.list (P.map pv))), ("goal", some (.list (G.map pv))), ("menu", a), ("table", b), ("pairs", c), ("count", d), ("reached", e), ("left", f), ("nearer", g), ("first", i)]
noncomputable def mnV (G : List Pr) : V := .list ((menu G).map cv)
theorem menu_ok {G : List Pr} (hG : PsOk G) {c : Nat × Pr} (h : c ∈ menu G) : c.1 < 4 ∧ POk c.2 := by
  rcases menu_mem.mp h with ⟨l, hl, rfl⟩ | ⟨k, g, hk, hg, rfl⟩
  · obtain rfl | rfl | rfl : l = 0 ∨ l = 1 ∨ l = 2 := by omega
    all_goals exact ⟨by decide, by decide, .inl rfl⟩
  · exact ⟨by omega, hG g hg⟩
theorem menu_len (G : List Pr) : (menu G).length = 3 + 3 * G.length := by
  unfold menu
  rw [List.length_append]
  congr 1
  induction G with
  | nil => rfl
  | cons g r ih => rw [List.flatMap_cons, List.length_append, ih, List.length_cons]; simp; omega
theorem c_inE {α : Type} {f : α → V} {n : Nat} {σ : Store} [DecidableEq α] {x : α} {B : List α} (ha : (f x).plain = true) (hb : ∀ x ∈ B, (f x).plain = true) (d : ∀ x, (f x).deep ≤ n) (hn : n ≤ 7) (hi : ∀ y ∈ B, f y = f x → y = x) :
    ∃ t, cmpV σ .In (f x) (.list (B.map f)) = some (.bool t) ∧ (t = true ↔ x ∈ B) := ⟨_, c_in ha hb d hn hi, decide_eq_true_iff⟩
theorem bi_min {σ : Store} {a b : Nat} : biV "min" σ [.int (a : Int), .int (b : Int)] = some (lv (min a b), σ) := by
  show some (V.int (if (b : Int) < (a : Int) then (b : Int) else (a : Int)), σ) = _
  unfold lv
  congr 3
  split <;> omega
theorem ints_lv (L : List Nat) : intsOf (L.map lv) = some (L.map fun n : Nat => (n : Int)) := by
  induction L with
  | nil => rfl
  | cons n r ih => rw [List.map_cons, List.map_cons]; show (intsOf (r.map lv)).map _ = _; rw [ih]; rfl
theorem at_find {α : Type} {f : α → Nat} {z : Nat} : ∀ {L : List α}, (∃ c ∈ L, f c = z) → ∃ i c, L[i]? = some c ∧ f c = z ∧ intAt (z : Int) ((L.map f).map fun n : Nat => (n : Int)) = some i
  | [], h => by obtain ⟨c, hc, _⟩ := h; exact nomatch hc
  | x :: r, h => by
    by_cases hx : f x = z
    · exact ⟨0, x, rfl, hx, by rw [List.map_cons, List.map_cons, intAt, if_pos (by omega)]⟩
    · obtain ⟨c, hc, e⟩ := h
      rcases List.mem_cons.mp hc with rfl | hc
      · exact absurd e hx
      · obtain ⟨i, c, h1, h2, h3⟩ := at_find ⟨c, hc, e⟩
        exact ⟨i + 1, c, by rw [List.getElem?_cons_succ]; exact h1, h2, by rw [List.map_cons, List.map_cons, intAt, if_neg (by omega), h3]; rfl⟩
noncomputable def wk0 : MS := (.assign (.one "reached") (.comp false (.call "_law_after" (.cons (.new (.cons (.slice true (.var "pairs") .no .no .no) .nil)) (.cons (.var "call") .nil))) (.cons (.one "call") (.var "menu") .nil .nil)))
noncomputable def wk1 : MS := (.assign (.one "left") (.comp true (.call "_law_far" (.cons (.var "after") (.cons (.var "goal") .nil))) (.cons (.one "after") (.var "reached") .nil .nil)))
noncomputable def wk2 : MS := (.assign (.one "nearer") (.call "_law_nearer" (.cons (.var "pairs") (.cons (.var "goal") .nil))))
noncomputable def wk3 : MS := (.ite (.cmp .NotEq (.comp false (.bi "min" (.cons (.var "far") (.cons (.var "count") .nil))) (.cons (.one "far") (.var "left") .nil .nil)) (.comp false (.ife (.cmp .In (.var "call") (.var "nearer")) (.bin .Sub (.var "count") (.int 1)) (.var "count")) (.cons (.one "call") (.var "menu") .nil .nil))) (.cons (.ret (.bool false)) .nil) .nil)
noncomputable def wk4 : MS := (.assign (.one "first") (.sm (.var "left") "index" (.cons (.bin .Sub (.var "count") (.int 1)) .nil)))
noncomputable def wk5 : MS := (.expr (.call "_law_after" (.cons (.var "table") (.cons (.idx (.var "menu") (.var "first")) .nil))))
noncomputable def wk6 : MS := (.assign (.one "pairs") (.idx (.var "reached") (.var "first")))
noncomputable def wkBody : MSs := (.cons (.assign (.one "reached") (.comp false (.call "_law_after" (.cons (.new (.cons (.slice true (.var "pairs") .no .no .no) .nil)) (.cons (.var "call") .nil))) (.cons (.one "call") (.var "menu") .nil .nil))) (.cons (.assign (.one "left") (.comp true (.call "_law_far" (.cons (.var "after") (.cons (.var "goal") .nil))) (.cons (.one "after") (.var "reached") .nil .nil))) (.cons (.assign (.one "nearer") (.call "_law_nearer" (.cons (.var "pairs") (.cons (.var "goal") .nil)))) (.cons (.ite (.cmp .NotEq (.comp false (.bi "min" (.cons (.var "far") (.cons (.var "count") .nil))) (.cons (.one "far") (.var "left") .nil .nil)) (.comp false (.ife (.cmp .In (.var "call") (.var "nearer")) (.bin .Sub (.var "count") (.int 1)) (.var "count")) (.cons (.one "call") (.var "menu") .nil .nil))) (.cons (.ret (.bool false)) .nil) .nil) (.cons (.assign (.one "first") (.sm (.var "left") "index" (.cons (.bin .Sub (.var "count") (.int 1)) .nil))) (.cons (.expr (.call "_law_after" (.cons (.var "table") (.cons (.idx (.var "menu") (.var "first")) .nil)))) (.cons (.assign (.one "pairs") (.idx (.var "reached") (.var "first"))) .nil)))))))
noncomputable def Jt (h l : Nat) (P : List Pr) (σ : Store) : Prop := Tb σ h l (toH P) ∧ Closed σ
theorem Jt.app {h l : Nat} {P : List Pr} {σ : Store} (j : Jt h l P σ) {vs : List V} (hu : ∀ n, V.unders n vs = true) : Jt h l P (σ ++ [OObj.lst vs]) := ⟨j.1.pre, j.2.app hu⟩
theorem Jt.setp {h l : Nat} {P Q : List Pr} {σ : Store} (j : Jt h l P σ) : Jt h l Q (σ.set l (.lst (Q.map pv))) := by
  rw [← toH_pr]; exact ⟨j.1.set, j.2.set⟩
set_option maxHeartbeats 4000000 in
theorem wk_reached (L : LT K T) {n : Nat} {P0 G Pc : List Pr} {σ : Store} {h l : Nat} {b d e f g i : Option V} (J : Jt h l Pc σ) (hP : PsOk Pc) (hG : PsOk G) (lP : Pc.length ≤ 700) (lG : G.length ≤ 100) :
    ∃ σ', Jt h l Pc σ' ∧ execM K (callM K T (n+4)) (wkR P0 G (some (mnV G)) b (some (.list (Pc.map pv))) d e f g i) σ wk0 = some (.next, wkR P0 G (some (mnV G)) b (some (.list (Pc.map pv))) d (some (.list ((menu G).map fun c => V.list ((aft Pc c).map pv)))) f g i, σ') := by
  have lm := menu_len G
  obtain ⟨σ', J', q⟩ := e_compG (K := K) (O := callM K T (n+4)) (ρ := wkR P0 G (some (mnV G)) b (some (.list (Pc.map pv))) d e f g i) (σ := σ) (e := .call "_law_after" (.cons (.new (.cons (.slice true (.var "pairs") .no .no .no) .nil)) (.cons (.var "call") .nil))) (it := .var "menu") (y := "call") (x := mnV G) (L := menu G) cv (fun c => V.list ((aft Pc c).map pv))
    (fun ρ' => ∃ a, ρ' = ("call", a) :: (".0", none) :: wkR P0 G (some (mnV G)) b (some (.list (Pc.map pv))) d e f g i) (Jt h l Pc) (e_var rfl) rfl (fun _ _ => rfl) (by omega)
    (fun c hc ρ' τ hp hJ => by
      obtain ⟨a, rfl⟩ := hp
      have hc4 := menu_ok hG hc
      have hsl : sliceV true τ (.list (Pc.map pv)) none none none = some (.own τ.length, τ ++ [OObj.lst (Pc.map pv)]) := by
        unfold sliceV
        rw [if_neg (by nofun)]
        dsimp only [lstOf]
        rw [Option.bind_some, if_pos (by rw [List.length_map]; omega), pickL_all]
        exact nl_own (by rw [List.length_map]; omega)
      have J1 := hJ.app (unders_pv · Pc)
      obtain ⟨τ', hn, B0, C0, r, hr⟩ := new_ok L.H (n := n + 2) (ρ := ("call", some (cv c)) :: (".0", none) :: wkR P0 G (some (mnV G)) b (some (.list (Pc.map pv))) d e f g i) (σ := τ) (τ := τ ++ [OObj.lst (Pc.map pv)]) (es := .cons (.slice true (.var "pairs") .no .no .no) .nil) (l := τ.length) (hs := toH Pc) (es_cons (e_slice (e_var rfl) o_no o_no o_no rfl rfl rfl hsl) es_nil) (by rw [get_last, toH_pr]) (toH_ok hP) J1.2
      have ha := after_ok L.H L.after (n := n) B0 C0 hP (by omega) hc4
      have hl : l < τ.length := (List.getElem?_eq_some_iff.mp hJ.1.l).1
      refine ⟨("call", some (cv c)) :: (".0", none) :: wkR P0 G (some (mnV G)) b (some (.list (Pc.map pv))) d e f g i, _, by walk_at "EV", ⟨_, rfl⟩, e_call (es_cons hn (es_cons (e_var rfl) es_nil)) ha, ?_, ?_⟩
      · have : Tb τ' h l (toH Pc) := by rw [hr]; exact J1.1.pre
        exact this.other B0.l (Nat.ne_of_gt hl)
      · rw [← toH_pr]; exact C0.set) ⟨_, rfl⟩ J
  refine ⟨σ', J', ?_⟩
  unfold wk0
  exact x_assign (q false _ (nl_not (by rw [List.length_map]; omega))) (by unfold wkR; walk_at "EV")
set_option maxHeartbeats 4000000 in
theorem wk_left (L : LT K T) {n : Nat} {P0 G Pc : List Pr} {σ : Store} {b c d f g i : Option V} (hP : PsOk Pc) (hG : PsOk G) (lP : Pc.length ≤ 700) (lG : G.length ≤ 100) :
    execM K (callM K T (n+4)) (wkR P0 G (some (mnV G)) b c d (some (.list ((menu G).map fun c => V.list ((aft Pc c).map pv)))) f g i) σ wk1 = some (.next, wkR P0 G (some (mnV G)) b c d (some (.list ((menu G).map fun c => V.list ((aft Pc c).map pv)))) (some (.own σ.length)) g i, σ ++ [OObj.lst (((menu G).map fun c => far G (aft Pc c)).map lv)]) := by
  have lm := menu_len G
  obtain ⟨σ', rfl, q⟩ := e_compG (K := K) (O := callM K T (n+4)) (ρ := wkR P0 G (some (mnV G)) b c d (some (.list ((menu G).map fun c => V.list ((aft Pc c).map pv)))) f g i) (σ := σ) (e := .call "_law_far" (.cons (.var "after") (.cons (.var "goal") .nil))) (it := .var "reached") (y := "after") (x := .list ((menu G).map fun c => V.list ((aft Pc c).map pv))) (L := menu G) (fun c => V.list ((aft Pc c).map pv)) (fun c => lv (far G (aft Pc c)))
    (fun ρ' => ∃ a, ρ' = ("after", a) :: (".0", none) :: wkR P0 G (some (mnV G)) b c d (some (.list ((menu G).map fun c => V.list ((aft Pc c).map pv)))) f g i) (fun τ => τ = σ) (e_var rfl) rfl (fun _ _ => rfl) (by omega)
    (fun k hc ρ' τ hp hJ => by
      obtain ⟨a, rfl⟩ := hp
      subst hJ
      have hf := far_ok L (n := n + 1) (aft_ok hP (menu_ok hG hc).2) hG (by have := aft_len Pc k; omega) (by omega) τ
      exact ⟨("after", some (.list ((aft Pc k).map pv))) :: (".0", none) :: wkR P0 G (some (mnV G)) b c d (some (.list ((menu G).map fun c => V.list ((aft Pc c).map pv)))) f g i, _, by walk_at "EV", ⟨_, rfl⟩, e_call (es_cons (e_var rfl) (es_cons (e_var rfl) es_nil)) hf, rfl⟩) ⟨_, rfl⟩ rfl
  have hm : (menu G).map (fun c => lv (far G (aft Pc c))) = ((menu G).map fun c => far G (aft Pc c)).map lv := by rw [List.map_map]; rfl
  unfold wk1
  exact x_assign (q true _ (by rw [hm]; exact nl_own (by rw [List.length_map, List.length_map]; omega))) (by unfold wkR; walk_at "EV")
set_option maxHeartbeats 4000000 in
theorem wk_test {O : Orc} {P0 G Pc : List Pr} {σ : Store} {b c e i : Option V} {m k : Nat} (hG : PsOk G) (lG : G.length ≤ 100) (hm : far G Pc = m + 1) (hk : σ[k]? = some (.lst (((menu G).map fun c => far G (aft Pc c)).map lv))) (hN : ∀ c ∈ near G Pc, POk c.2) :
    execM K O (wkR P0 G (some (mnV G)) b c (some (.int ((m + 1 : Nat) : Int))) e (some (.own k)) (some (.list ((near G Pc).map cv))) i) σ wk3 = some (.next, wkR P0 G (some (mnV G)) b c (some (.int ((m + 1 : Nat) : Int))) e (some (.own k)) (some (.list ((near G Pc).map cv))) i, σ) := by
  have lm := menu_len G
  have hmm : ((menu G).map fun c => far G (aft Pc c)).map lv = (menu G).map fun c => lv (far G (aft Pc c)) := by rw [List.map_map]; rfl
  obtain ⟨σ1, rfl, q1⟩ := e_compG (K := K) (O := O) (ρ := wkR P0 G (some (mnV G)) b c (some (.int ((m + 1 : Nat) : Int))) e (some (.own k)) (some (.list ((near G Pc).map cv))) i) (σ := σ) (e := .bi "min" (.cons (.var "far") (.cons (.var "count") .nil))) (it := .var "left") (y := "far") (x := .own k) (L := menu G) (fun c => lv (far G (aft Pc c))) (fun c => lv (min (far G (aft Pc c)) (m + 1)))
    (fun ρ' => ∃ a, ρ' = ("far", a) :: (".0", none) :: wkR P0 G (some (mnV G)) b c (some (.int ((m + 1 : Nat) : Int))) e (some (.own k)) (some (.list ((near G Pc).map cv))) i) (fun τ => τ = σ) (e_var rfl) (by show ownLst σ k = _; unfold ownLst; rw [hk, hmm]) (fun τ hτ => by subst hτ; unfold still ownLst; dsimp only; rw [hk, hmm]; exact V.eqbs_refl _) (by omega)
    (fun y hc ρ' τ hp hJ => by
      obtain ⟨a, rfl⟩ := hp
      exact ⟨("far", some (lv (far G (aft Pc y)))) :: (".0", none) :: wkR P0 G (some (mnV G)) b c (some (.int ((m + 1 : Nat) : Int))) e (some (.own k)) (some (.list ((near G Pc).map cv))) i, τ, by walk_at "EV", ⟨_, rfl⟩, e_bi (es_cons (e_var rfl) (es_cons (e_var rfl) es_nil)) bi_min, hJ⟩) ⟨_, rfl⟩ rfl
  obtain ⟨σ2, rfl, q2⟩ := e_compG (K := K) (O := O) (ρ := wkR P0 G (some (mnV G)) b c (some (.int ((m + 1 : Nat) : Int))) e (some (.own k)) (some (.list ((near G Pc).map cv))) i) (σ := σ1) (e := .ife (.cmp .In (.var "call") (.var "nearer")) (.bin .Sub (.var "count") (.int 1)) (.var "count")) (it := .var "menu") (y := "call") (x := mnV G) (L := menu G) cv (fun c => lv (if c ∈ near G Pc then m else m + 1))
    (fun ρ' => ∃ a, ρ' = ("call", a) :: (".0", none) :: wkR P0 G (some (mnV G)) b c (some (.int ((m + 1 : Nat) : Int))) e (some (.own k)) (some (.list ((near G Pc).map cv))) i) (fun τ => τ = σ1) (e_var rfl) rfl (fun _ _ => rfl) (by omega)
    (fun y hc ρ' τ hp hJ => by
      obtain ⟨a, rfl⟩ := hp
      obtain ⟨t, ci, ct⟩ := c_inE (f := cv) (n := 2) (σ := τ) (x := y) (B := near G Pc) (cv_plain (menu_ok hG hc).2) (fun z hz => cv_plain (hN z hz)) (fun _ => Nat.le_refl _) (by decide) (fun z hz h => cv_inj (hN z hz) (menu_ok hG hc).2 h)
      have hs : binV τ .Sub (.int ((m + 1 : Nat) : Int)) (.int 1) = some (lv m) := by
        show some (V.int (((m + 1 : Nat) : Int) - 1)) = _
        unfold lv; congr 2; omega
      refine ⟨("call", some (cv y)) :: (".0", none) :: wkR P0 G (some (mnV G)) b c (some (.int ((m + 1 : Nat) : Int))) e (some (.own k)) (some (.list ((near G Pc).map cv))) i, τ, by walk_at "EV", ⟨_, rfl⟩, ?_, hJ⟩
      by_cases hy : y ∈ near G Pc
      · rw [if_pos hy]
        rw [ct.mpr hy] at ci
        exact e_ife_t (t_cmp (e_var rfl) (e_var rfl) ci) (e_bin (e_var rfl) e_int hs)
      · rw [if_neg hy]
        rw [Bool.eq_false_iff.mpr fun q => hy (ct.mp q)] at ci
        exact e_ife_f (t_cmp (e_var rfl) (e_var rfl) ci) (e_var rfl)) ⟨_, rfl⟩ rfl
  have e1 : (menu G).map (fun c => lv (min (far G (aft Pc c)) (m + 1))) = ((menu G).map fun c => if c ∈ near G Pc then m else m + 1).map lv := by
    rw [List.map_map]
    refine List.map_congr_left fun y hy => ?_
    obtain ⟨s1, s2⟩ := step (P := Pc) hy
    show lv _ = lv _
    congr 1
    show min (far G (aft Pc y)) (m + 1) = if y ∈ near G Pc then m else m + 1
    by_cases hn : y ∈ near G Pc
    · have := s1 hn; rw [if_pos hn]; omega
    · have := s2 hn; rw [if_neg hn]; omega
  have e2 : (menu G).map (fun c => lv (if c ∈ near G Pc then m else m + 1)) = ((menu G).map fun c => if c ∈ near G Pc then m else m + 1).map lv := by rw [List.map_map]; rfl
  rw [e1] at q1
  rw [e2] at q2
  have hc := c_ne (c_lists (f := lv) (n := 0) (σ := σ2) (A := (menu G).map fun c => if c ∈ near G Pc then m else m + 1) (B := (menu G).map fun c => if c ∈ near G Pc then m else m + 1) (fun _ _ => rfl) (fun _ _ => rfl) (fun _ => Nat.le_refl _) (by decide) fun _ _ _ _ h => lv_inj h)
  rw [decide_eq_true rfl] at hc
  unfold wk3
  exact x_ite_f (t_cmp (q1 false _ (nl_not (by rw [List.length_map, List.length_map]; omega))) (q2 false _ (nl_not (by rw [List.length_map, List.length_map]; omega))) hc) x_nil
set_option maxHeartbeats 4000000 in
theorem wk_turn (L : LT K T) {n : Nat} {P0 G Pc : List Pr} {σ : Store} {h l : Nat} {e f g i : Option V} {m : Nat} (J : Jt h l Pc σ) (hP : PsOk Pc) (hG : PsOk G) (lP : Pc.length ≤ 700) (lG : G.length ≤ 100) (hm : far G Pc = m + 1) :
    ∃ c σ', c ∈ menu G ∧ far G (aft Pc c) = m ∧ Jt h l (aft Pc c) σ' ∧ ∃ e' f' g' i', execsM K (callM K T (n+4)) (wkR P0 G (some (mnV G)) (some (.own h)) (some (.list (Pc.map pv))) (some (.int ((m + 1 : Nat) : Int))) e f g i) σ wkBody = some (.next, wkR P0 G (some (mnV G)) (some (.own h)) (some (.list ((aft Pc c).map pv))) (some (.int ((m + 1 : Nat) : Int))) e' f' g' i', σ') := by
  have lm := menu_len G
  obtain ⟨σ1, J1, q0⟩ := wk_reached L (n := n) (P0 := P0) (G := G) (b := some (.own h)) (d := some (.int ((m + 1 : Nat) : Int))) (e := e) (f := f) (g := g) (i := i) J hP hG lP lG
  have q1 := wk_left L (n := n) (P0 := P0) (G := G) (Pc := Pc) (σ := σ1) (b := some (.own h)) (c := some (.list (Pc.map pv))) (d := some (.int ((m + 1 : Nat) : Int))) (f := f) (g := g) (i := i) hP hG lP lG
  have J2 := J1.app (unders_lv · ((menu G).map fun c => far G (aft Pc c)))
  generalize hs2 : σ1 ++ [OObj.lst (((menu G).map fun c => far G (aft Pc c)).map lv)] = σ2 at q1 J2
  have hk : σ2[σ1.length]? = some (.lst (((menu G).map fun c => far G (aft Pc c)).map lv)) := by rw [← hs2]; exact get_last
  generalize σ1.length = k at hk q1
  have hn := nearer_ok L (n := n + 1) hP hG (by omega) (by omega) J2.2
  have hN : ∀ c ∈ near G Pc, POk c.2 := fun c hc => (menu_ok hG (near_menu hc)).2
  have q2 : execM K (callM K T (n+4)) (wkR P0 G (some (mnV G)) (some (.own h)) (some (.list (Pc.map pv))) (some (.int ((m + 1 : Nat) : Int))) (some (.list ((menu G).map fun c => V.list ((aft Pc c).map pv)))) (some (.own k)) g i) σ2 wk2 = some (.next, wkR P0 G (some (mnV G)) (some (.own h)) (some (.list (Pc.map pv))) (some (.int ((m + 1 : Nat) : Int))) (some (.list ((menu G).map fun c => V.list ((aft Pc c).map pv)))) (some (.own k)) (some (.list ((near G Pc).map cv))) i, σ2) := by
    unfold wk2
    exact x_assign (e_call (es_cons (e_var rfl) (es_cons (e_var rfl) es_nil)) hn) (by unfold wkR; walk_at "EV")
  have q3 := wk_test (K := K) (O := callM K T (n+4)) (P0 := P0) (G := G) (Pc := Pc) (σ := σ2) (b := some (.own h)) (c := some (.list (Pc.map pv))) (e := some (.list ((menu G).map fun c => V.list ((aft Pc c).map pv)))) (i := i) hG lG hm hk hN
  obtain ⟨j, c, j1, j2, j3⟩ := at_find (f := fun c => far G (aft Pc c)) (z := m) (L := menu G) (by
    obtain ⟨c, hc⟩ := near_some (G := G) (P := Pc) (by omega)
    have := (step (P := Pc) (near_menu hc)).1 hc
    exact ⟨c, near_menu hc, by omega⟩)
  have hcm : c ∈ menu G := List.mem_of_getElem? j1
  obtain ⟨jl, je⟩ := List.getElem?_eq_some_iff.mp j1
  have hc4 := menu_ok hG hcm
  have hsub : binV σ2 .Sub (.int ((m + 1 : Nat) : Int)) (.int 1) = some (.int (m : Int)) := by
    show some (V.int (((m + 1 : Nat) : Int) - 1)) = _
    congr 2; omega
  have hid : smId K.nd K.vd "index" σ2 (.own k) = some "list.index" := by unfold smId; dsimp only; rw [hk]; rfl
  have hix : smV K.nd K.vd "index" σ2 (.own k) [.int (m : Int)] = some (.int (j : Int), σ2) := by
    show indexS σ2 (.own k) [.int (m : Int)] = _
    show Option.or none (lstK σ2 k _) = _
    rw [lstK_at hk, ints_lv, Option.bind_some, j3, Option.bind_some, if_pos (by rw [List.length_map, List.length_map]; omega)]; rfl
  have q4 : execM K (callM K T (n+4)) (wkR P0 G (some (mnV G)) (some (.own h)) (some (.list (Pc.map pv))) (some (.int ((m + 1 : Nat) : Int))) (some (.list ((menu G).map fun c => V.list ((aft Pc c).map pv)))) (some (.own k)) (some (.list ((near G Pc).map cv))) i) σ2 wk4 = some (.next, wkR P0 G (some (mnV G)) (some (.own h)) (some (.list (Pc.map pv))) (some (.int ((m + 1 : Nat) : Int))) (some (.list ((menu G).map fun c => V.list ((aft Pc c).map pv)))) (some (.own k)) (some (.list ((near G Pc).map cv))) (some (.int (j : Int))), σ2) := by
    unfold wk4
    exact x_assign (e_sm (e_var rfl) hid (es_cons (e_bin (e_var rfl) e_int hsub) es_nil) hix) (by unfold wkR; walk_at "EV")
  have ha := after_ok L.H L.after (n := n) J2.1 J2.2 hP (by omega) hc4
  have i1 : idxV σ2 (mnV G) (.int (j : Int)) = some (cv c) := by
    unfold mnV
    rw [idxL (by rw [List.length_map]; exact jl) (by omega), List.getElem_map, je]
  have q5 : execM K (callM K T (n+4)) (wkR P0 G (some (mnV G)) (some (.own h)) (some (.list (Pc.map pv))) (some (.int ((m + 1 : Nat) : Int))) (some (.list ((menu G).map fun c => V.list ((aft Pc c).map pv)))) (some (.own k)) (some (.list ((near G Pc).map cv))) (some (.int (j : Int)))) σ2 wk5 = some (.next, wkR P0 G (some (mnV G)) (some (.own h)) (some (.list (Pc.map pv))) (some (.int ((m + 1 : Nat) : Int))) (some (.list ((menu G).map fun c => V.list ((aft Pc c).map pv)))) (some (.own k)) (some (.list ((near G Pc).map cv))) (some (.int (j : Int))), σ2.set l (.lst ((aft Pc c).map pv))) := by
    unfold wk5
    exact x_expr (e_call (es_cons (e_var rfl) (es_cons (e_idx (e_var rfl) (e_var rfl) i1) es_nil)) ha)
  have i2 : idxV (σ2.set l (.lst ((aft Pc c).map pv))) (.list ((menu G).map fun c => V.list ((aft Pc c).map pv))) (.int (j : Int)) = some (.list ((aft Pc c).map pv)) := by
    rw [idxL (by rw [List.length_map]; exact jl) (by omega), List.getElem_map, je]
  refine ⟨c, _, hcm, j2, J2.setp, some (.list ((menu G).map fun c => V.list ((aft Pc c).map pv))), some (.own k), some (.list ((near G Pc).map cv)), some (.int (j : Int)), ?_⟩
  unfold wkBody
  exact x_cons q0 (x_cons q1 (x_cons q2 (x_cons q3 (x_cons q4 (x_cons q5 (x_cons (x_assign (e_idx (e_var rfl) (e_var rfl) i2) (by unfold wkR; walk_at "EV")) x_nil))))))
end

section

variable {K : Cfg} {T : List (String × Fn)}
theorem it_down (n : Nat) (h : n ≤ 999) (σ : Store) : iterOf σ (.rng (n : Int) 0 (-1)) = some ((List.range n).map fun i : Nat => V.int ((n : Int) + (i : Int) * (-1))) := by
  show (if _ then some ((List.range (Builtin.Range.rangeSize (n : Int) 0 (-1)).toNat).map fun (i : Nat) => V.int ((n : Int) + (i : Int) * (-1))) else none) = _
  rw [if_pos ⟨.inr rfl, by omega, by omega, by omega, by omega⟩]
  have : (Builtin.Range.rangeSize (n : Int) 0 (-1)).toNat = n := by unfold Builtin.Range.rangeSize; simp; split <;> omega
  rw [this]
theorem bi_rng3 {a : Nat} {σ : Store} (h : a ≤ 999) : biV "range" σ [.int (a : Int), .int 0, .int (-1)] = some (.rng (a : Int) 0 (-1), σ) := by
  show (if -1000 ≤ (a : Int) ∧ (a : Int) ≤ 1000 ∧ (-1000 : Int) ≤ 0 ∧ (0 : Int) ≤ 1000 ∧ (-1 : Int) = -1 then some (V.rng (a : Int) 0 (-1), σ) else none) = _
  rw [if_pos ⟨by omega, by omega, by decide, by decide, rfl⟩]
theorem far_le (G P : List Pr) : far G P ≤ G.length + 3 := by
  unfold far
  have : (xtr G P).length ≤ 3 := List.length_filter_le ..
  omega
set_option maxHeartbeats 4000000 in
theorem walk_ok (L : LT K T) {n : Nat} {P0 G : List Pr} (hP : PsOk P0) (hG : PsOk G) (lP : P0.length ≤ 100) (lG : G.length ≤ 100) :
    callM K T (n+5) "_law_walk" [.list (P0.map pv), .list (G.map pv)] [] [] = some (.bool true, []) := by
  have hadd : ∀ {σ : Store}, binV σ .Add (.list ([(1, ((0 : Nat), ([] : List Nat))), (1, (3, [])), (1, (4, []))].map cv)) (.list ((G.flatMap fun g => [(0, g), (2, g), (3, g)]).map cv)) = some (mnV G) := by
    intro σ
    have lm := menu_len G
    unfold menu at lm
    rw [List.length_append] at lm
    show (if (([(1, ((0 : Nat), ([] : List Nat))), (1, (3, [])), (1, (4, []))].map cv).length + ((G.flatMap fun g => [(0, g), (2, g), (3, g)]).map cv).length ≤ 1000) then some (V.list _) else none) = _
    rw [if_pos (by rw [List.length_map, List.length_map]; omega), ← List.map_append]; rfl
  have hc1 : evalM K (callM K T (n+4)) (wkR P0 G none none none none none none none none) [] (.comp false (.tuple (.cons (.int 1) (.cons (.tuple (.cons (.var "word") (.cons (.str []) .nil))) .nil))) (.cons (.one "word") (.str [97, 66, 99]) .nil .nil)) = some (.list ([(1, ((0 : Nat), ([] : List Nat))), (1, (3, [])), (1, (4, []))].map cv), []) := by
    refine e_comp1 (x := .str [97, 66, 99]) (vs := [.str [97], .str [66], .str [99]]) (fun ρ' => ∃ a, ρ' = ("word", a) :: (".0", none) :: wkR P0 G none none none none none none none none) (fun v => [V.tuple [.int 1, .tuple [v, .str []]]]) e_str rfl rfl ?_ ⟨_, rfl⟩ (by decide) rfl
    intro v hv ρ hp
    obtain ⟨a, rfl⟩ := hp
    exact tr_yes (w := V.tuple [.int 1, .tuple [v, .str []]]) (ρ₁ := ("word", some v) :: (".0", none) :: wkR P0 G none none none none none none none none) (by walk_at "EV") ⟨_, rfl⟩ if_nil (e_tuple (es_cons e_int (es_cons (e_tuple (es_cons (e_var rfl) (es_cons e_str es_nil)) (by simp)) es_nil)) (by simp)) rfl
  have x0 : execM K (callM K T (n+4)) (wkR P0 G none none none none none none none none) [] (.assign (.one "menu") (.bin .Add (.comp false (.tuple (.cons (.int 1) (.cons (.tuple (.cons (.var "word") (.cons (.str []) .nil))) .nil))) (.cons (.one "word") (.str [97, 66, 99]) .nil .nil)) (.comp false (.tuple (.cons (.var "kind") (.cons (.var "pair") .nil))) (.cons (.one "pair") (.var "goal") .nil (.cons (.one "kind") (.tuple (.cons (.int 0) (.cons (.int 2) (.cons (.int 3) .nil)))) .nil .nil))))) = some (.next, wkR P0 G (some (mnV G)) none none none none none none none, []) :=
    x_assign (e_bin hc1 (menu2 lG rfl) hadd) (by unfold wkR; walk_at "EV")
  have hsl : sliceV true [] (.list (P0.map pv)) none none none = some (.own 0, [OObj.lst (P0.map pv)]) := by
    unfold sliceV
    rw [if_neg (by nofun)]
    dsimp only [lstOf]
    rw [Option.bind_some, if_pos (by rw [List.length_map]; omega), pickL_all]
    exact nl_own (by rw [List.length_map]; omega)
  obtain ⟨σ1, hn, B0, C0, -⟩ := new_ok L.H (n := n + 2) (ρ := wkR P0 G (some (mnV G)) none none none none none none none) (σ := []) (τ := [OObj.lst (P0.map pv)]) (es := .cons (.slice true (.var "begun") .no .no .no) .nil) (l := 0) (hs := toH P0) (es_cons (e_slice (e_var rfl) o_no o_no o_no rfl rfl rfl hsl) es_nil) (by rw [toH_pr]; rfl) (toH_ok hP) (by simp only [Closed, List.all_cons, List.all_nil, Bool.and_true]; exact unders_pv _ _)
  have J0 : Jt ([OObj.lst (P0.map pv)].length + 1) 0 P0 σ1 := ⟨B0, C0⟩
  generalize [OObj.lst (P0.map pv)].length + 1 = h at hn J0
  have x1 : execM K (callM K T (n+4)) (wkR P0 G (some (mnV G)) none none none none none none none) [] (.assign (.one "table") (.new (.cons (.slice true (.var "begun") .no .no .no) .nil))) = some (.next, wkR P0 G (some (mnV G)) (some (.own h)) none none none none none none, σ1) := x_assign hn (by unfold wkR; walk_at "EV")
  have x2 : execM K (callM K T (n+4)) (wkR P0 G (some (mnV G)) (some (.own h)) none none none none none none) σ1 (.assign (.one "pairs") (.var "begun")) = some (.next, wkR P0 G (some (mnV G)) (some (.own h)) (some (.list (P0.map pv))) none none none none none, σ1) := x_assign (e_var rfl) (by unfold wkR; walk_at "EV")
  have hf := far_ok L (n := n + 1) hP hG (by omega) (by omega) σ1
  have fle := far_le G P0
  obtain ⟨ρ', σ', x3, Pc, hPc, lPc, fPc, Jc, d, e, f, g, i, rfl⟩ := x_foldI (K := K) (O := callM K T (n+4)) (ρ := wkR P0 G (some (mnV G)) (some (.own h)) (some (.list (P0.map pv))) none none none none none) (σ := σ1)
    (it := .bi "range" (.cons (.call "_law_far" (.cons (.var "begun") (.cons (.var "goal") .nil))) (.cons (.int 0) (.cons (.neg (.int 1)) .nil)))) (t := .one "count") (ms := wkBody) (x := .rng (far G P0 : Nat) 0 (-1)) (fun i : Nat => V.int ((far G P0 : Int) + (i : Int) * (-1))) (r := List.range (far G P0))
    (fun done ρ' σ' => ∃ Pc, PsOk Pc ∧ Pc.length ≤ P0.length + done.length ∧ far G Pc + done.length = far G P0 ∧ Jt h 0 Pc σ' ∧ ∃ d e f g i, ρ' = wkR P0 G (some (mnV G)) (some (.own h)) (some (.list (Pc.map pv))) d e f g i)
    (e_bi (es_cons (e_call (es_cons (e_var rfl) (es_cons (e_var rfl) es_nil)) hf) (es_cons e_int (es_cons (e_neg e_int) es_nil))) (bi_rng3 (a := far G P0) (by omega))) (it_down (far G P0) (by omega) σ1) (fun _ => rfl)
    (fun done x rest hw ρ' σ' hI => by
      obtain ⟨Pc, hPc, lPc, fPc, Jc, d, e, f, g, i, rfl⟩ := hI
      have hx : x = done.length ∧ done.length < far G P0 := by
        have := congrArg (·[done.length]?) hw
        simp only [List.getElem?_append_right (Nat.le_refl _), Nat.sub_self, List.getElem?_cons_zero] at this
        obtain ⟨hlt, he⟩ := List.getElem?_eq_some_iff.mp this
        rw [List.getElem_range] at he
        rw [List.length_range] at hlt
        exact ⟨he.symm, hlt⟩
      obtain ⟨rfl, hlt⟩ := hx
      obtain ⟨m, hm⟩ : ∃ m, far G Pc = m + 1 := ⟨far G Pc - 1, by omega⟩
      obtain ⟨c, σ'', hcm, hfm, J', e', f', g', i', q⟩ := wk_turn L (n := n) (P0 := P0) (e := e) (f := f) (g := g) (i := i) Jc hPc hG (by omega) lG hm
      have hcount : ((far G P0 : Int) + (done.length : Int) * (-1)) = ((m + 1 : Nat) : Int) := by omega
      refine ⟨wkR P0 G (some (mnV G)) (some (.own h)) (some (.list (Pc.map pv))) (some (.int ((m + 1 : Nat) : Int))) e f g i, _, σ'', ?_, q, aft Pc c, aft_ok hPc (menu_ok hG hcm).2, ?_, ?_, J', _, _, _, _, _, rfl⟩
      · rw [hcount]; unfold wkR; walk_at "EV"
      · have := aft_len Pc c
        rw [List.length_append, List.length_singleton]; omega
      · rw [List.length_append, List.length_singleton]; omega) ⟨P0, hP, Nat.le_refl _, rfl, J0, none, none, none, none, none, rfl⟩
  rw [List.length_range] at fPc lPc
  have hend : Pc = G := far_end (fun q hq => (hPc q hq).1) (by omega)
  subst hend
  have hit := items_ok L.H (n := n + 3) Jc.1 (by unfold toH; rw [List.length_map]; omega)
  rw [toH_pr] at hit
  have hc := c_pairs (σ := σ') hPc hPc
  rw [decide_eq_true rfl] at hc
  refine call_of (v := .bool true) (τ' := σ') (ρ := wkR P0 Pc none none none none none none none none) (τ := []) (σ := []) L.walk (by rfl) ?_ (fin_cut (τ := []) (ρ := σ') (by rfl) rfl nofun rfl)
  apply Exists.intro
  dsimp only [fn_law_walk]
  exact x_cons x0 (x_cons x1 (x_cons x2 (x_cons x3 (x_stop (x_ret (e_cmp (e_meth (e_var rfl) Jc.1.inst es_nil k_nil rfl hit) (e_var rfl) hc))))))
noncomputable def lwR (is : List Int) (a b c : Option V) : Rho := [("script", some (.list (is.map .int))), ("numbers", a), ("begun", b), ("aim", c)]
theorem law_ok (L : LT K T) (n : Nat) (is : List Int) (hlen : is.length ≤ 1000) :
    callM K T (n+6) "law" [.list (is.map .int)] [] [] = some (.bool true, []) := by
  obtain ⟨dc, hdc⟩ : ∃ dc : Int → Pr, ∀ x, POk (dc x) ∧ callM K T (n+5) "_law_pair" [.int x] [] [] = some (pv (dc x), []) :=
    ⟨fun x => Classical.choose (pair_ok L (n+4) x []), fun x => Classical.choose_spec (pair_ok L (n+4) x [])⟩
  have l4 : (is.take 4).length ≤ 4 := List.length_take_le ..
  have s4 : sliceV false [] (.list (is.map V.int)) none (some 4) none = some (.list ((is.take 4).map V.int), []) := sl_take hlen 4
  have hadd : binV [] .Add (.list [.int 7, .int 2]) (.list ((is.take 4).map V.int)) = some (.list ((7 :: 2 :: is.take 4 : List Int).map V.int)) := by
    show (if 2 + ((is.take 4).map V.int).length ≤ 1000 then some _ else none) = _
    rw [if_pos (by rw [List.length_map]; omega)]; rfl
  have x1 : execM K (callM K T (n+5)) (lwR is none none none) [] (.assign (.one "numbers") (.bin .Add (.list false (.cons (.int 7) (.cons (.int 2) .nil))) (.slice false (.var "script") .no (.yes (.int 4)) .no))) = some (.next, lwR is (some (.list ((7 :: 2 :: is.take 4 : List Int).map V.int))) none none, []) :=
    x_assign (e_bin (e_list (es_cons e_int (es_cons e_int es_nil)) (nl_not (by decide))) (e_slice (e_var rfl) o_no (o_yes e_int) o_no rfl rfl rfl s4) hadd) (by unfold lwR; walk_at "EV")
  generalize hns : (7 :: 2 :: is.take 4 : List Int) = ns at x1
  have lns : ns.length ≤ 6 := by rw [← hns, List.length_cons, List.length_cons]; omega
  have comp : ∀ (a : Int) (ρ : Rho), look ρ "numbers" = some (.list (ns.map V.int)) → evalM K (callM K T (n+5)) ρ [] (.comp false (.call "_law_pair" (.cons (.var "x") .nil)) (.cons (.one "x") (.slice false (.var "numbers") (.yes (.int a)) .no (.yes (.int 2))) .nil .nil)) = some (.list (((pickL ns (some a) none (some 2)).map dc).map pv), []) := by
    intro a ρ hlk
    have hl := pickL_len ns (some a) none (some 2)
    have hs : sliceV false [] (.list (ns.map V.int)) (some a) none (some 2) = some (.list ((pickL ns (some a) none (some 2)).map V.int), []) := by
      rw [sl_list (by rw [List.length_map]; omega) (by decide), pickL_map]
    obtain ⟨σ', rfl, q⟩ := e_compG (K := K) (O := callM K T (n+5)) (ρ := ρ) (σ := []) (e := .call "_law_pair" (.cons (.var "x") .nil)) (it := .slice false (.var "numbers") (.yes (.int a)) .no (.yes (.int 2))) (y := "x") (x := .list ((pickL ns (some a) none (some 2)).map V.int)) (L := pickL ns (some a) none (some 2)) V.int (fun x => pv (dc x))
      (fun ρ' => ∃ b, ρ' = ("x", b) :: (".0", none) :: ρ) (fun τ => τ = []) (e_slice (e_var hlk) (o_yes e_int) o_no (o_yes e_int) rfl rfl rfl hs) rfl (fun _ _ => rfl) (by omega)
      (fun x hx ρ' τ hp hJ => by
        obtain ⟨b, rfl⟩ := hp
        subst hJ
        exact ⟨("x", some (.int x)) :: (".0", none) :: ρ, [], by walk_at "EV", ⟨_, rfl⟩, e_call (es_cons (e_var rfl) es_nil) (hdc x).2, rfl⟩) ⟨_, rfl⟩ rfl
    have hm : ((pickL ns (some a) none (some 2)).map dc).map pv = (pickL ns (some a) none (some 2)).map fun x => pv (dc x) := by rw [List.map_map]; rfl
    rw [hm]
    exact q false _ (nl_not (by rw [List.length_map]; omega))
  have o : ∀ a, PsOk ((pickL ns (some a) none (some 2)).map dc) := fun a c hc => by obtain ⟨x, _, rfl⟩ := List.mem_map.mp hc; exact (hdc x).1
  have l : ∀ a, ((pickL ns (some a) none (some 2)).map dc).length ≤ 100 := fun a => by rw [List.length_map]; exact Nat.le_trans (pickL_len ..) (by omega)
  have x2 : execM K (callM K T (n+5)) (lwR is (some (.list (ns.map V.int))) none none) [] (.assign (.one "begun") (.comp false (.call "_law_pair" (.cons (.var "x") .nil)) (.cons (.one "x") (.slice false (.var "numbers") (.yes (.int 0)) .no (.yes (.int 2))) .nil .nil))) = some (.next, lwR is (some (.list (ns.map V.int))) (some (.list (((pickL ns (some 0) none (some 2)).map dc).map pv))) none, []) :=
    x_assign (comp 0 _ rfl) (by unfold lwR; walk_at "EV")
  have x3 : execM K (callM K T (n+5)) (lwR is (some (.list (ns.map V.int))) (some (.list (((pickL ns (some 0) none (some 2)).map dc).map pv))) none) [] (.assign (.one "aim") (.comp false (.call "_law_pair" (.cons (.var "x") .nil)) (.cons (.one "x") (.slice false (.var "numbers") (.yes (.int 1)) .no (.yes (.int 2))) .nil .nil))) = some (.next, lwR is (some (.list (ns.map V.int))) (some (.list (((pickL ns (some 0) none (some 2)).map dc).map pv))) (some (.list (((pickL ns (some 1) none (some 2)).map dc).map pv))), []) :=
    x_assign (comp 1 _ rfl) (by unfold lwR; walk_at "EV")
  have hw := walk_ok L (n := n) (o 0) (o 1) (l 0) (l 1)
  refine call_of (v := .bool true) (τ' := []) (ρ := lwR is none none none) (τ := []) (σ := []) L.law (by rfl) ?_ (fin_len rfl)
  apply Exists.intro
  dsimp only [fn_law]
  exact x_cons x1 (x_cons x2 (x_cons x3 (x_stop (x_ret (e_call (es_cons (e_var rfl) (es_cons (e_var rfl) es_nil)) hw)))))
end

end Mine.Pl
set_option maxRecDepth 100000 in
set_option maxHeartbeats 8000000 in
theorem PySem.Challenge.cw_mq0497_02_holds : PySem.Challenge.rw_mq0497_02.Holds := by
  refine Mine.hd ?_
  k_fill
  intro w s₀ s₁ mg mb G Y fa o pm cd doc dV kV ho hd hcd hD hmg hg args vals as hpre hlay hrd hwl hlo
  have KX := kIn_of Y
  refine Ground.open G ?_
  intro T B D TE TW
  clear Y D B TE TW G
  have hfa : fa = 234 := by
    have e := mg_of KX T.g (n := Str.ofString "law") (v := .ref 234) (by kernel_rfl)
    have := hmg.symm.trans e
    cases this; rfl
  subst hfa
  wrow_args hpre hlay hrd hwl hlo
  refine enter_call ?_
  clear hd hcd hD hmg
  refine Mine.law_end (Γ := Mine.ctx) (cfg := Mine.cfg) (T := Mine.tab Mine.cfg) (n := 12) (Mine.base_of (ms := Mine.msl) (fs := Mine.fsl) (a := 184) KX T.g T.b T.nolimit (fun x hx => T.builtins x hx) rfl (by decide) ?_ ?_ ?_ ?_ (by decide) ?_ ?_ (by decide) ?_) (by decide) (by assumption) (by assumption) hg ?_ (by decide) (fun _ => rfl) ?_
  case refine_8 => exact Mine.Pl.law_ok ⟨⟨by decide, rfl, rfl, rfl, rfl, rfl, rfl, rfl, rfl⟩, rfl, rfl, rfl, rfl, rfl, rfl, rfl, rfl⟩ 6 _ (by omega)
  case refine_9 => first | rfl | wrow_post
  case refine_1 => kernel_rfl
  case refine_2 => kernel_rfl
  case refine_3 => kernel_rfl
  case refine_4 => kernel_rfl
  case refine_5 => kernel_rfl
  case refine_6 => kernel_rfl
  case refine_7 => kernel_rfl
