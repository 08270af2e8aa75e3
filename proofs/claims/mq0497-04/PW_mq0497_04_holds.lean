import PyProof.Rows.All
import Wide.All
import OpenK.AllK
import Wide.FinOn
import KE.KxPercentT
import KE.BytesMake
import KE.KCallOwn
import PyProof.FString5
import KE.KBytesWalk
import PyProof.SliceList
import KE.KDictOf
import KE.KBoundM
import KE.KParD
import PySem.Challenge.RW_mq0497_04
open PySem PySem.W PyProof.Rows
set_option Elab.async false
set_option maxRecDepth 100000
set_option linter.unusedVariables false
set_option linter.unusedSimpArgs false
set_option genSizeOf false
set_option genSizeOfSpec false
namespace Mine
local macro_rules | `(tactic| k_head) => `(tactic| z_head)
set_option maxHeartbeats 8000000 in
open_top hd for PySem.Challenge.rw_mq0497_04
end Mine
namespace Mine

inductive V where
  | none | bool (b : Bool) | int (i : Int) | str (x : List Nat)
  | tuple (vs : List V) | list (vs : List V)
  | own (k : Nat) | gl (a : Nat) | ty (n : String) | rng (n : Nat) | items (k : Nat) | bytes (x : List Nat)

inductive OObj where
  | lst (vs : List V) | inst (d : Nat) | attrs (v : Option V) | dct (es : List (List Nat × V))

noncomputable def strV (x : List Nat) : Str := ⟨x.toArray⟩
abbrev Store := List OObj
abbrev Rho := List (String × Option V)
theorem dite_inv {c : Prop} [Decidable c] {β : Type} {F : c → β} {d r : β} (hr : r ≠ d) (h : (if h : c then F h else d) = r) : ∃ q : c, F q = r := by
  by_cases q : c
  · rw [dif_pos q] at h; exact ⟨q, h⟩
  · rw [dif_neg q] at h; exact absurd h.symm hr
theorem some_ne {α : Type} {r : α} : some r ≠ none := nofun
theorem t_ne : true ≠ false := nofun
noncomputable def onInt {β : Type} (d : β) (x : V) (f : Int → β) : β := if h : x.ctorIdx = 2 then Mine.V.int.elim (motive_1 := fun _ => β) x h f else d
theorem onInt_inv {β : Type} {d r : β} {x : V} {f : Int → β} (hr : r ≠ d) (h : onInt d x f = r) : ∃ i, x = .int i ∧ f i = r :=
  let ⟨q, h⟩ := dite_inv hr h
  Mine.V.int.elim (motive_1 := fun x => ∀ q, Mine.V.int.elim (motive_1 := fun _ => β) x q f = r → ∃ i, x = .int i ∧ f i = r) x q (fun i _ h => ⟨i, rfl, h⟩) q h
noncomputable def onStr {β : Type} (d : β) (x : V) (f : List Nat → β) : β := if h : x.ctorIdx = 3 then Mine.V.str.elim (motive_1 := fun _ => β) x h f else d
theorem onStr_inv {β : Type} {d r : β} {x : V} {f : List Nat → β} (hr : r ≠ d) (h : onStr d x f = r) : ∃ i, x = .str i ∧ f i = r :=
  let ⟨q, h⟩ := dite_inv hr h
  Mine.V.str.elim (motive_1 := fun x => ∀ q, Mine.V.str.elim (motive_1 := fun _ => β) x q f = r → ∃ i, x = .str i ∧ f i = r) x q (fun i _ h => ⟨i, rfl, h⟩) q h
noncomputable def onLst {β : Type} (d : β) (x : V) (f : List V → β) : β := if h : x.ctorIdx = 5 then Mine.V.list.elim (motive_1 := fun _ => β) x h f else d
theorem onLst_inv {β : Type} {d r : β} {x : V} {f : List V → β} (hr : r ≠ d) (h : onLst d x f = r) : ∃ i, x = .list i ∧ f i = r :=
  let ⟨q, h⟩ := dite_inv hr h
  Mine.V.list.elim (motive_1 := fun x => ∀ q, Mine.V.list.elim (motive_1 := fun _ => β) x q f = r → ∃ i, x = .list i ∧ f i = r) x q (fun i _ h => ⟨i, rfl, h⟩) q h
noncomputable def onOwn {β : Type} (d : β) (x : V) (f : Nat → β) : β := if h : x.ctorIdx = 6 then Mine.V.own.elim (motive_1 := fun _ => β) x h f else d
theorem onOwn_inv {β : Type} {d r : β} {x : V} {f : Nat → β} (hr : r ≠ d) (h : onOwn d x f = r) : ∃ i, x = .own i ∧ f i = r :=
  let ⟨q, h⟩ := dite_inv hr h
  Mine.V.own.elim (motive_1 := fun x => ∀ q, Mine.V.own.elim (motive_1 := fun _ => β) x q f = r → ∃ i, x = .own i ∧ f i = r) x q (fun i _ h => ⟨i, rfl, h⟩) q h
noncomputable def onGl {β : Type} (d : β) (x : V) (f : Nat → β) : β := if h : x.ctorIdx = 7 then Mine.V.gl.elim (motive_1 := fun _ => β) x h f else d
theorem onGl_inv {β : Type} {d r : β} {x : V} {f : Nat → β} (hr : r ≠ d) (h : onGl d x f = r) : ∃ i, x = .gl i ∧ f i = r :=
  let ⟨q, h⟩ := dite_inv hr h
  Mine.V.gl.elim (motive_1 := fun x => ∀ q, Mine.V.gl.elim (motive_1 := fun _ => β) x q f = r → ∃ i, x = .gl i ∧ f i = r) x q (fun i _ h => ⟨i, rfl, h⟩) q h
noncomputable def onTy {β : Type} (d : β) (x : V) (f : String → β) : β := if h : x.ctorIdx = 8 then Mine.V.ty.elim (motive_1 := fun _ => β) x h f else d
theorem onTy_inv {β : Type} {d r : β} {x : V} {f : String → β} (hr : r ≠ d) (h : onTy d x f = r) : ∃ i, x = .ty i ∧ f i = r :=
  let ⟨q, h⟩ := dite_inv hr h
  Mine.V.ty.elim (motive_1 := fun x => ∀ q, Mine.V.ty.elim (motive_1 := fun _ => β) x q f = r → ∃ i, x = .ty i ∧ f i = r) x q (fun i _ h => ⟨i, rfl, h⟩) q h
noncomputable def onTup {β : Type} (d : β) (x : V) (f : List V → β) : β := if h : x.ctorIdx = 4 then Mine.V.tuple.elim (motive_1 := fun _ => β) x h f else d
theorem onTup_inv {β : Type} {d r : β} {x : V} {f : List V → β} (hr : r ≠ d) (h : onTup d x f = r) : ∃ i, x = .tuple i ∧ f i = r :=
  let ⟨q, h⟩ := dite_inv hr h
  Mine.V.tuple.elim (motive_1 := fun x => ∀ q, Mine.V.tuple.elim (motive_1 := fun _ => β) x q f = r → ∃ i, x = .tuple i ∧ f i = r) x q (fun i _ h => ⟨i, rfl, h⟩) q h
noncomputable def onByt {β : Type} (d : β) (x : V) (f : List Nat → β) : β := if h : x.ctorIdx = 11 then Mine.V.bytes.elim (motive_1 := fun _ => β) x h f else d
theorem onByt_inv {β : Type} {d r : β} {x : V} {f : List Nat → β} (hr : r ≠ d) (h : onByt d x f = r) : ∃ i, x = .bytes i ∧ f i = r :=
  let ⟨q, h⟩ := dite_inv hr h
  Mine.V.bytes.elim (motive_1 := fun x => ∀ q, Mine.V.bytes.elim (motive_1 := fun _ => β) x q f = r → ∃ i, x = .bytes i ∧ f i = r) x q (fun i _ h => ⟨i, rfl, h⟩) q h
noncomputable def onBool {β : Type} (d : β) (x : V) (f : Bool → β) : β := if h : x.ctorIdx = 1 then Mine.V.bool.elim (motive_1 := fun _ => β) x h f else d
theorem onBool_inv {β : Type} {d r : β} {x : V} {f : Bool → β} (hr : r ≠ d) (h : onBool d x f = r) : ∃ i, x = .bool i ∧ f i = r :=
  let ⟨q, h⟩ := dite_inv hr h
  Mine.V.bool.elim (motive_1 := fun x => ∀ q, Mine.V.bool.elim (motive_1 := fun _ => β) x q f = r → ∃ i, x = .bool i ∧ f i = r) x q (fun i _ h => ⟨i, rfl, h⟩) q h
noncomputable def onIts {β : Type} (d : β) (x : V) (f : Nat → β) : β := if h : x.ctorIdx = 10 then Mine.V.items.elim (motive_1 := fun _ => β) x h f else d
theorem onIts_inv {β : Type} {d r : β} {x : V} {f : Nat → β} (hr : r ≠ d) (h : onIts d x f = r) : ∃ i, x = .items i ∧ f i = r :=
  let ⟨q, h⟩ := dite_inv hr h
  Mine.V.items.elim (motive_1 := fun x => ∀ q, Mine.V.items.elim (motive_1 := fun _ => β) x q f = r → ∃ i, x = .items i ∧ f i = r) x q (fun i _ h => ⟨i, rfl, h⟩) q h
noncomputable def intK {α : Type} (x : V) (f : Int → Option α) : Option α := onInt none x f
theorem intK_inv {α : Type} {x : V} {f : Int → Option α} {r : α} (h : intK x f = some r) : ∃ i, x = .int i ∧ f i = some r := onInt_inv some_ne h
noncomputable def strK {α : Type} (x : V) (f : List Nat → Option α) : Option α := onStr none x f
theorem strK_inv {α : Type} {x : V} {f : List Nat → Option α} {r : α} (h : strK x f = some r) : ∃ i, x = .str i ∧ f i = some r := onStr_inv some_ne h
noncomputable def listK {α : Type} (x : V) (f : List V → Option α) : Option α := onLst none x f
theorem listK_inv {α : Type} {x : V} {f : List V → Option α} {r : α} (h : listK x f = some r) : ∃ i, x = .list i ∧ f i = some r := onLst_inv some_ne h
noncomputable def ownK {α : Type} (x : V) (f : Nat → Option α) : Option α := onOwn none x f
theorem ownK_inv {α : Type} {x : V} {f : Nat → Option α} {r : α} (h : ownK x f = some r) : ∃ i, x = .own i ∧ f i = some r := onOwn_inv some_ne h
noncomputable def glK {α : Type} (x : V) (f : Nat → Option α) : Option α := onGl none x f
theorem glK_inv {α : Type} {x : V} {f : Nat → Option α} {r : α} (h : glK x f = some r) : ∃ i, x = .gl i ∧ f i = some r := onGl_inv some_ne h
noncomputable def tyK {α : Type} (x : V) (f : String → Option α) : Option α := onTy none x f
theorem tyK_inv {α : Type} {x : V} {f : String → Option α} {r : α} (h : tyK x f = some r) : ∃ i, x = .ty i ∧ f i = some r := onTy_inv some_ne h
noncomputable def tupK {α : Type} (x : V) (f : List V → Option α) : Option α := onTup none x f
theorem tupK_inv {α : Type} {x : V} {f : List V → Option α} {r : α} (h : tupK x f = some r) : ∃ i, x = .tuple i ∧ f i = some r := onTup_inv some_ne h
noncomputable def bytK {α : Type} (x : V) (f : List Nat → Option α) : Option α := onByt none x f
theorem bytK_inv {α : Type} {x : V} {f : List Nat → Option α} {r : α} (h : bytK x f = some r) : ∃ i, x = .bytes i ∧ f i = some r := onByt_inv some_ne h
noncomputable def onRng {β : Type} (d : β) (x : V) (f : Nat → β) : β := if h : x.ctorIdx = 9 then Mine.V.rng.elim (motive_1 := fun _ => β) x h f else d
theorem onRng_inv {β : Type} {d r : β} {x : V} {f : Nat → β} (hr : r ≠ d) (h : onRng d x f = r) : ∃ i, x = .rng i ∧ f i = r :=
  let ⟨q, h⟩ := dite_inv hr h
  Mine.V.rng.elim (motive_1 := fun x => ∀ q, Mine.V.rng.elim (motive_1 := fun _ => β) x q f = r → ∃ i, x = .rng i ∧ f i = r) x q (fun i _ h => ⟨i, rfl, h⟩) q h
noncomputable def one1 {α β : Type} (l : List α) (f : α → Option β) : Option β := match l with
  | x :: r => if r.isEmpty then f x else none
  | [] => none
theorem one1_inv {α β : Type} {l : List α} {f : α → Option β} {r : β} (h : one1 l f = some r) : ∃ x, l = [x] ∧ f x = some r := by
  cases l with
  | nil => cases h
  | cons x l =>
    cases l with
    | nil => exact ⟨x, rfl, h⟩
    | cons _ _ => cases h
noncomputable def two2 {α β : Type} (l : List α) (f : α → α → Option β) : Option β := match l with
  | x :: r => one1 r (f x)
  | [] => none
theorem two2_inv {α β : Type} {l : List α} {f : α → α → Option β} {r : β} (h : two2 l f = some r) : ∃ x y, l = [x, y] ∧ f x y = some r := by
  cases l with
  | nil => cases h
  | cons x l =>
    obtain ⟨y, rfl, h⟩ := one1_inv (f := f x) h
    exact ⟨x, y, rfl, h⟩
noncomputable def o_lst {α : Type} (f : List V → Option α) (x : OObj) : Option α := if h : x.ctorIdx = 0 then Mine.OObj.lst.elim (motive := fun _ => Option α) x h f else none
noncomputable def lstK {α : Type} (σ : Store) (k : Nat) (f : List V → Option α) : Option α := σ[k]?.bind (o_lst f)
theorem lstK_inv {α : Type} {σ : Store} {k : Nat} {f : List V → Option α} {r : α} (h : lstK σ k f = some r) : ∃ vs, σ[k]? = some (.lst vs) ∧ f vs = some r :=
  let ⟨x, h1, h2⟩ := Option.bind_eq_some_iff.mp h
  let ⟨q, h3⟩ := dite_inv some_ne h2
  Mine.OObj.lst.elim (motive := fun x => σ[k]? = some x → ∀ q, Mine.OObj.lst.elim (motive := fun _ => Option α) x q f = some r → ∃ vs, σ[k]? = some (.lst vs) ∧ f vs = some r) x q (fun i e _ h => ⟨i, e, h⟩) h1 q h3
theorem lstK_at {α : Type} {σ : Store} {k : Nat} {f : List V → Option α} {vs : List V} (h : σ[k]? = some (.lst vs)) : lstK σ k f = f vs := by unfold lstK; rw [h]; rfl
noncomputable def o_inst {α : Type} (f : Nat → Option α) (x : OObj) : Option α := if h : x.ctorIdx = 1 then Mine.OObj.inst.elim (motive := fun _ => Option α) x h f else none
noncomputable def instK {α : Type} (σ : Store) (k : Nat) (f : Nat → Option α) : Option α := σ[k]?.bind (o_inst f)
theorem instK_inv {α : Type} {σ : Store} {k : Nat} {f : Nat → Option α} {r : α} (h : instK σ k f = some r) : ∃ vs, σ[k]? = some (.inst vs) ∧ f vs = some r :=
  let ⟨x, h1, h2⟩ := Option.bind_eq_some_iff.mp h
  let ⟨q, h3⟩ := dite_inv some_ne h2
  Mine.OObj.inst.elim (motive := fun x => σ[k]? = some x → ∀ q, Mine.OObj.inst.elim (motive := fun _ => Option α) x q f = some r → ∃ vs, σ[k]? = some (.inst vs) ∧ f vs = some r) x q (fun i e _ h => ⟨i, e, h⟩) h1 q h3
theorem instK_at {α : Type} {σ : Store} {k : Nat} {f : Nat → Option α} {vs : Nat} (h : σ[k]? = some (.inst vs)) : instK σ k f = f vs := by unfold instK; rw [h]; rfl
noncomputable def o_attrs {α : Type} (f : Option V → Option α) (x : OObj) : Option α := if h : x.ctorIdx = 2 then Mine.OObj.attrs.elim (motive := fun _ => Option α) x h f else none
noncomputable def attrsK {α : Type} (σ : Store) (k : Nat) (f : Option V → Option α) : Option α := σ[k]?.bind (o_attrs f)
theorem attrsK_inv {α : Type} {σ : Store} {k : Nat} {f : Option V → Option α} {r : α} (h : attrsK σ k f = some r) : ∃ vs, σ[k]? = some (.attrs vs) ∧ f vs = some r :=
  let ⟨x, h1, h2⟩ := Option.bind_eq_some_iff.mp h
  let ⟨q, h3⟩ := dite_inv some_ne h2
  Mine.OObj.attrs.elim (motive := fun x => σ[k]? = some x → ∀ q, Mine.OObj.attrs.elim (motive := fun _ => Option α) x q f = some r → ∃ vs, σ[k]? = some (.attrs vs) ∧ f vs = some r) x q (fun i e _ h => ⟨i, e, h⟩) h1 q h3
theorem attrsK_at {α : Type} {σ : Store} {k : Nat} {f : Option V → Option α} {vs : Option V} (h : σ[k]? = some (.attrs vs)) : attrsK σ k f = f vs := by unfold attrsK; rw [h]; rfl
noncomputable def o_dct {α : Type} (f : List (List Nat × V) → Option α) (x : OObj) : Option α := if h : x.ctorIdx = 3 then Mine.OObj.dct.elim (motive := fun _ => Option α) x h f else none
noncomputable def dctK {α : Type} (σ : Store) (k : Nat) (f : List (List Nat × V) → Option α) : Option α := σ[k]?.bind (o_dct f)
theorem dctK_inv {α : Type} {σ : Store} {k : Nat} {f : List (List Nat × V) → Option α} {r : α} (h : dctK σ k f = some r) : ∃ vs, σ[k]? = some (.dct vs) ∧ f vs = some r :=
  let ⟨x, h1, h2⟩ := Option.bind_eq_some_iff.mp h
  let ⟨q, h3⟩ := dite_inv some_ne h2
  Mine.OObj.dct.elim (motive := fun x => σ[k]? = some x → ∀ q, Mine.OObj.dct.elim (motive := fun _ => Option α) x q f = some r → ∃ vs, σ[k]? = some (.dct vs) ∧ f vs = some r) x q (fun i e _ h => ⟨i, e, h⟩) h1 q h3
theorem dctK_at {α : Type} {σ : Store} {k : Nat} {f : List (List Nat × V) → Option α} {vs : List (List Nat × V)} (h : σ[k]? = some (.dct vs)) : dctK σ k f = f vs := by unfold dctK; rw [h]; rfl

theorem vNone_inv {e : V} (h : decide (e.ctorIdx = 0) = true) : e = .none := Mine.V.none.elim (motive_1 := fun c => c = .none) e (of_decide_eq_true h) rfl
mutual
noncomputable def V.eqb : V → V → Bool
  | .none, e => decide (e.ctorIdx = 0)
  | .bool a, e => onBool false e fun b => a == b
  | .int a, e => onInt false e fun b => a == b
  | .str a, e => onStr false e fun b => a == b
  | .tuple a, e => onTup false e fun b => V.eqbs a b
  | .list a, e => onLst false e fun b => V.eqbs a b
  | .own a, e => onOwn false e fun b => a == b
  | .gl a, e => onGl false e fun b => a == b
  | .ty a, e => onTy false e fun b => a == b
  | .rng a, e => onRng false e fun b => a == b
  | .items a, e => onIts false e fun b => a == b
  | .bytes a, e => onByt false e fun b => a == b
noncomputable def V.eqbs : List V → List V → Bool
  | [], l => l.isEmpty
  | a :: r, l => match l with
    | [] => false
    | b :: q => V.eqb a b && V.eqbs r q
end
theorem eqb_int (a b : Int) : V.eqb (.int a) (.int b) = (a == b) := rfl
theorem eqb_str (a b : List Nat) : V.eqb (.str a) (.str b) = (a == b) := rfl
theorem eqb_tuple (a b : List V) : V.eqb (.tuple a) (.tuple b) = V.eqbs a b := rfl
theorem eqb_list (a b : List V) : V.eqb (.list a) (.list b) = V.eqbs a b := rfl
theorem eqbs_nil : V.eqbs [] [] = true := rfl
theorem eqbs_nil_cons (a : V) (r : List V) : V.eqbs [] (a :: r) = false := rfl
theorem eqbs_cons_nil (a : V) (r : List V) : V.eqbs (a :: r) [] = false := rfl
theorem eqbs_cons (a b : V) (r q : List V) : V.eqbs (a :: r) (b :: q) = (V.eqb a b && V.eqbs r q) := rfl
mutual
theorem V.eqb_eq : ∀ {a b : V}, V.eqb a b = true → a = b
  | .none, b, h => (vNone_inv h).symm
  | .bool a, b, h => by obtain ⟨c, e, g⟩ := onBool_inv t_ne h; rw [e, beq_iff_eq.mp g]
  | .int a, b, h => by obtain ⟨c, e, g⟩ := onInt_inv t_ne h; rw [e, beq_iff_eq.mp g]
  | .str a, b, h => by obtain ⟨c, e, g⟩ := onStr_inv t_ne h; rw [e, beq_iff_eq.mp g]
  | .tuple a, b, h => by obtain ⟨c, e, g⟩ := onTup_inv t_ne h; rw [e, V.eqbs_eq g]
  | .list a, b, h => by obtain ⟨c, e, g⟩ := onLst_inv t_ne h; rw [e, V.eqbs_eq g]
  | .own a, b, h => by obtain ⟨c, e, g⟩ := onOwn_inv t_ne h; rw [e, beq_iff_eq.mp g]
  | .gl a, b, h => by obtain ⟨c, e, g⟩ := onGl_inv t_ne h; rw [e, beq_iff_eq.mp g]
  | .ty a, b, h => by obtain ⟨c, e, g⟩ := onTy_inv t_ne h; rw [e, beq_iff_eq.mp g]
  | .rng a, b, h => by obtain ⟨c, e, g⟩ := onRng_inv t_ne h; rw [e, beq_iff_eq.mp g]
  | .items a, b, h => by obtain ⟨c, e, g⟩ := onIts_inv t_ne h; rw [e, beq_iff_eq.mp g]
  | .bytes a, b, h => by obtain ⟨c, e, g⟩ := onByt_inv t_ne h; rw [e, beq_iff_eq.mp g]
theorem V.eqbs_eq : ∀ {a b : List V}, V.eqbs a b = true → a = b
  | [], b, h => (List.isEmpty_iff.mp h).symm
  | x :: r, b, h => by
    cases b with
    | nil => cases h
    | cons y q =>
      have h : (V.eqb x y && V.eqbs r q) = true := h
      rw [Bool.and_eq_true] at h
      rw [V.eqb_eq h.1, V.eqbs_eq h.2]
end
mutual
theorem V.eqb_refl : ∀ (a : V), V.eqb a a = true
  | .none => rfl
  | .bool a => beq_self_eq_true a
  | .int a => beq_self_eq_true a
  | .str a => beq_self_eq_true a
  | .tuple l => V.eqbs_refl l
  | .list l => V.eqbs_refl l
  | .own a => beq_self_eq_true a
  | .gl a => beq_self_eq_true a
  | .ty a => beq_self_eq_true a
  | .rng a => beq_self_eq_true a
  | .items a => beq_self_eq_true a
  | .bytes a => beq_self_eq_true a
theorem V.eqbs_refl : ∀ (a : List V), V.eqbs a a = true
  | [] => rfl
  | x :: r => by
    show (V.eqb x x && V.eqbs r r) = true
    rw [V.eqb_refl x, V.eqbs_refl r]; rfl
end
theorem V.eqb_iff {a b : V} : V.eqb a b = true ↔ a = b := ⟨V.eqb_eq, fun h => h ▸ V.eqb_refl a⟩
theorem V.eqbs_iff {a b : List V} : V.eqbs a b = true ↔ a = b := ⟨V.eqbs_eq, fun h => h ▸ V.eqbs_refl a⟩

inductive MT where
  | one (x : String) | tup (xs : List String)

set_option genInjectivity false
mutual
inductive ME where
  | none | bool (b : Bool) | int (i : Int) | str (x : List Nat)
  | var (x : String) | glob (x : String) (a : Nat) | tyn (x : String)
  | fmt (a : ME) (x : List Nat) (b : ME) (y : List Nat)
  | tuple (es : MEs) | list (own : Bool) (es : MEs)
  | bin (op : Operator) (a b : ME)
  | neg (a : ME) | not (a : ME)
  | and (es : MEs) | or (es : MEs)
  | ife (c a b : ME)
  | cmp (op : CmpOp) (a b : ME)
  | idx (a i : ME)
  | slice (a : ME) (lo hi : MO)
  | call (f : String) (es : MEs)
  | meth (o : ME) (m : String) (es : MEs) (ks : MKs)
  | new (es : MEs)
  | bi (f : String) (es : MEs)
  | sm (o : ME) (m : String) (es : MEs)
  | repl (o : ME) (c : Nat) (z : List Nat)
  | conv (str : Bool) (e : ME)
  | methD (o : ME) (m : String) (es : MEs) (d : ME)
  | attr (o : ME)
  | comp (elt : ME) (t : MT) (it : ME) (ifs : MEs)
inductive MO where
  | no | yes (e : ME)
inductive MEs where
  | nil | cons (e : ME) (r : MEs)
inductive MKs where
  | nil | cons (k : List Nat) (e : ME) (r : MKs)
end

mutual
inductive MS where
  | assign (t : MT) (e : ME)
  | setattr (o e : ME)
  | expr (e : ME)
  | aug (x : String) (op : Operator) (e : ME)
  | ite (c : ME) (a b : MSs)
  | for (t : MT) (it : ME) (body : MSs)
  | while (c : ME) (body : MSs)
  | ret (e : ME)
  | raise
inductive MSs where
  | nil | cons (s : MS) (r : MSs)
end

set_option genInjectivity true
inductive Fl where
  | next | ret (v : V)

abbrev Orc := String → List V → List (List Nat × V) → Store → Option (V × Store)

noncomputable def look (ρ : Rho) (x : String) : Option V := (ρ.lookup x).bind id
noncomputable def setv : Rho → String → V → Option Rho
  | [], _, _ => none
  | (y, w) :: r, x, v => if x = y then some ((y, some v) :: r) else (setv r x v).map ((y, w) :: ·)

noncomputable def setTup : Rho → List String → List V → Option Rho
  | ρ, [], [] => some ρ
  | ρ, x :: xs, v :: vs => (setv ρ x v).bind fun ρ => setTup ρ xs vs
  | _, _, _ => none
noncomputable def setT (ρ : Rho) : MT → V → Option Rho
  | .one x, v => setv ρ x v
  | .tup xs, .tuple vs => setTup ρ xs vs
  | .tup _, _ => none
noncomputable def MT.names : MT → List String
  | .one x => [x]
  | .tup xs => xs
noncomputable def ownLst (σ : Store) (k : Nat) : Option (List V) := lstK σ k some
theorem ownLst_inv {σ : Store} {k : Nat} {vs : List V} (h : ownLst σ k = some vs) : σ[k]? = some (.lst vs) := by
  obtain ⟨ws, h1, h2⟩ := lstK_inv h
  cases h2; exact h1
noncomputable def lstOf (σ : Store) : V → Option (List V)
  | .list vs => some vs
  | .own k => ownLst σ k
  | _ => none
theorem lstOf_inv {σ : Store} {d : V} {ds : List V} (e : lstOf σ d = some ds) : d = .list ds ∨ ∃ k, d = .own k ∧ σ[k]? = some (.lst ds) := by
  cases d with
  | list vs => cases e; exact .inl rfl
  | own k => exact .inr ⟨k, rfl, ownLst_inv e⟩
  | _ => cases e
noncomputable def seqOf (σ : Store) (v : V) : Option (List V) := (lstOf σ v).or (tupK v some)
noncomputable def iterOf (σ : Store) : V → Option (List V)
  | .list vs => some vs
  | .tuple vs => some vs
  | .own k => ownLst σ k
  | .rng n => if n ≤ 16 then some ((List.range n).map fun (i : Nat) => V.int i) else none
  | .items k => dctK σ k fun es => if es.length ≤ 1000 then some (es.map fun p => .tuple [.str p.1, p.2]) else none
  | .bytes x => some (x.map fun (c : Nat) => V.int c)
  | _ => none
noncomputable def iterC (σ : Store) (x : V) : Option (List V) := if onIts false x (fun _ => true) then none else iterOf σ x
noncomputable def iterT (t : MT) (σ : Store) (x : V) : Option (List V) := match t with
  | .one _ => iterC σ x
  | .tup _ => iterOf σ x
noncomputable def seqAt {α : Type} (vs : List α) (i : Int) : Option α := if -1000000 ≤ i ∧ i ≤ 1000000 then (seqIndex? i vs.length).bind (vs[·]?) else none
noncomputable def pickL {α : Type} (xs : List α) (lo hi : Option Int) : List α := (xs.take (hi.elim xs.length (clipAt xs.length))).drop (lo.elim 0 (clipAt xs.length))

mutual
noncomputable def V.plain : V → Bool
  | .none => true
  | .int _ => true
  | .str x => x.all (· < 0x110000)
  | .tuple vs => V.plains vs
  | .list vs => V.plains vs
  | _ => false
noncomputable def V.plains : List V → Bool
  | [] => true
  | v :: r => v.plain && V.plains r
end
mutual
noncomputable def V.deep : V → Nat
  | .tuple vs => V.deeps vs + 1
  | .list vs => V.deeps vs + 1
  | _ => 0
noncomputable def V.deeps : List V → Nat
  | [] => 0
  | v :: r => max v.deep (V.deeps r)
end
noncomputable def eqV (a b : V) : Option Bool := if a.plain && b.plain && decide (a.deep ≤ 8) && decide (b.deep ≤ 8) then some (V.eqb a b) else none
noncomputable def fmt2 (f a b : List Nat) : Option (List Nat) := if f = [37, 115, 58, 32, 37, 115] then some (a ++ [58, 32] ++ b) else none
noncomputable def hasT (x y : List Nat) : Bool := !(Builtin.Str.occurrences (strV x) (strV y) 0 (strV x).length 1).isEmpty
noncomputable def thawed (σ : Store) (v : V) : V := (ownK v (ownLst σ)).elim v .list
theorem thawed_inv {σ : Store} {v : V} : thawed σ v = v ∨ ∃ k vs, v = .own k ∧ σ[k]? = some (.lst vs) ∧ thawed σ v = .list vs := by
  cases e : ownK v (ownLst σ) with
  | none => exact .inl (by unfold thawed; rw [e]; rfl)
  | some vs =>
    obtain ⟨k, rfl, h⟩ := ownK_inv e
    exact .inr ⟨k, vs, rfl, ownLst_inv h, by unfold thawed; rw [e]; rfl⟩
noncomputable def truthA : V → Option Bool
  | .none => some false
  | .bool b => some b
  | .int i => some (i != 0)
  | .str x => if x.length ≤ 1000000 then some !x.isEmpty else none
  | _ => none
noncomputable def truthV (σ : Store) (v : V) : Option Bool := (truthA v).or ((seqOf σ v).bind fun vs => if vs.length ≤ 1000 then some !vs.isEmpty else none)
noncomputable def mulT (x : List Nat) (n : Int) : Option (List Nat) := if n = 0 then some [] else if n = 1 then some x else if n = 2 then some (x ++ x) else none
noncomputable def binV (σ : Store) (op : Operator) (a b : V) : Option V := match op with
  | .Add => ((intK a fun x => intK b fun y => some (V.int (x + y))).or (listK (thawed σ a) fun x => listK (thawed σ b) fun y => if x.length + y.length ≤ 1000 then some (.list (x ++ y)) else none)).or (strK a fun x => strK b fun y => if x.length + y.length ≤ 1000000 then some (.str (x ++ y)) else none)
  | .Sub => intK a fun x => intK b fun y => some (.int (x - y))
  | .Mult => strK a fun x => intK b fun n => if x.length ≤ 16 then (mulT x n).map .str else none
  | .FloorDiv => intK a fun x => intK b fun y => if y = 0 ∨ y.natAbs ≥ 1073741824 then none else some (.int (Int.fdiv x y))
  | .Mod => (intK a fun x => intK b fun y => if y = 0 then none else some (V.int (Int.fmod x y))).or
      (strK a fun f => tupK b fun vs => two2 vs fun u v => strK u fun u => strK v fun v => if u.length ≤ 100000 ∧ v.length ≤ 100000 then (fmt2 f u v).map .str else none)
  | _ => none
noncomputable def augV (op : Operator) (a b : V) : Option V := match op with
  | .Add => (intK a fun x => intK b fun y => some (V.int (x + y))).or (strK a fun x => strK b fun y => if x.length + y.length ≤ 1000000 then some (.str (x ++ y)) else none)
  | _ => none
noncomputable def V.isNone (a : V) : Bool := decide (a.ctorIdx = 0)
noncomputable def inV (x : V) (vs : List V) : Option Bool := if x.plain && V.plains vs && decide (x.deep ≤ 8) && decide (V.deeps vs ≤ 8) then some (vs.any fun y => V.eqb y x) else none
noncomputable def memV (a b : V) : Option Bool := (listK b fun vs => inV a vs).or (strK b fun y => strK a fun x => some (hasT y x))
noncomputable def isV (a b : V) : Option Bool := if b.isNone then some a.isNone else tyK a fun x => tyK b fun y => some (x == y)
noncomputable def cmpV (σ : Store) (op : CmpOp) (a b : V) : Option V := match op with
  | .Eq => ((bytK a fun x => bytK b fun y => some (x == y)).or (eqV (thawed σ a) (thawed σ b))).map .bool
  | .NotEq => (eqV (thawed σ a) (thawed σ b)).map fun x => .bool !x
  | .Lt => intK a fun x => intK b fun y => some (.bool (x < y))
  | .Gt => intK a fun x => intK b fun y => some (.bool (y < x))
  | .GtE => intK a fun x => intK b fun y => some (.bool (y ≤ x))
  | .In => (memV a b).map .bool
  | .NotIn => (memV a b).map fun x => .bool !x
  | .Is => (isV a b).map .bool
  | .IsNot => (isV a b).map fun x => .bool !x
  | _ => none
noncomputable def idxV (σ : Store) (a i : V) : Option V := intK i fun k => (strK a fun x => (seqAt x k).map fun c => V.str [c]).or ((seqOf σ a).bind fun vs => seqAt vs k)
noncomputable def partV (o : Option V) : Option (Option Int) := match o with
  | none => some none
  | some v => intK v fun i => some (some i)
noncomputable def newL (own : Bool) (vs : List V) (σ : Store) : Option (V × Store) :=
  if vs.length ≤ 1000 then (if own then some (.own σ.length, σ ++ [.lst vs]) else some (.list vs, σ)) else none
noncomputable def sliceV (σ : Store) (a : V) (lo hi : Option Int) : Option V :=
  ((lstOf σ a).bind fun vs => if vs.length ≤ 1000 then some (V.list (pickL vs lo hi)) else none).or
    (strK a fun x => if x.length ≤ 1000000 then some (.str (pickL x lo hi)) else none)
noncomputable def lowerN (c : Nat) : Nat := if 65 ≤ c ∧ c ≤ 90 then c + 32 else c
noncomputable def lowerT (x : List Nat) : Option (List Nat) := if x.all (· < 128) ∧ x.length ≤ 1000000 then some (x.map lowerN) else none
noncomputable def joinT (sep : List Nat) : List (List Nat) → List Nat
  | [] => []
  | [x] => x
  | x :: r => x ++ sep ++ joinT sep r
noncomputable def strsOf : List V → Option (List (List Nat))
  | [] => some []
  | v :: r => strK v fun x => (strsOf r).map (x :: ·)
noncomputable def rangeS (σ : Store) (ds : List V) : Option (V × Store) := one1 ds fun v => intK v fun b => if 0 ≤ b ∧ b ≤ 16 then some (V.rng b.toNat, σ) else none
noncomputable def chrS (σ : Store) (ds : List V) : Option (V × Store) := one1 ds fun v => intK v fun b => if 0 ≤ b ∧ b < 256 then some (V.str [b.toNat], σ) else none
noncomputable def lenS (σ : Store) (ds : List V) : Option (V × Store) := one1 ds fun v =>
  ((lstOf σ v).bind fun vs => if vs.length ≤ 1000 then some (V.int vs.length, σ) else none).or (strK v fun x => if x.length ≤ 1000000 then some (.int x.length, σ) else none)
noncomputable def biV (f : String) (σ : Store) (ds : List V) : Option (V × Store) :=
  if f = "len" then lenS σ ds
  else if f = "chr" then chrS σ ds
  else if f = "range" then rangeS σ ds
  else if f = "type" then one1 ds fun v => (strK v fun _ => some (V.ty "str", σ)).or ((lstOf σ v).map fun _ => (V.ty "list", σ))
  else none
noncomputable def strMs : List (String × String) := [("lower", "str.lower"), ("join", "str.join"), ("index", "str.index"), ("find", "str.find"), ("split", "str.split"), ("encode", "str.encode")]
noncomputable def smId (nd vd : Nat) (m : String) (σ : Store) (x : V) : Option String :=
  ((strK x fun _ => strMs.lookup m).or (glK x fun a => if m = "search" ∧ (a = nd ∨ a = vd) then some "re.Pattern.search" else none)).or
  (ownK x fun k => (lstK σ k fun _ => if m = "append" then some "list.append" else none).or (dctK σ k fun _ => if m = "items" then some "dict.items" else none))
noncomputable def isInst (σ : Store) (k : Nat) : Bool := (instK σ k fun d => attrsK σ d fun _ => some ()).isSome
noncomputable def lowS (σ : Store) (v : V) (ds : List V) : Option (V × Store) := strK v fun x => if ds.isEmpty then (lowerT x).map fun y => (.str y, σ) else none
noncomputable def joinS (σ : Store) (v : V) (ds : List V) : Option (V × Store) := strK v fun x => one1 ds fun v => (lstOf σ v).bind fun vs => (strsOf vs).bind fun ss => if (ss.map (·.length)).sum + ss.length * x.length ≤ 16777216 then some (.str (joinT x ss), σ) else none
noncomputable def searchS (nd vd : Nat) (σ : Store) (v : V) (ds : List V) : Option (V × Store) := glK v fun a => one1 ds fun v => strK v fun x =>
    if x.length ≤ 1000000 ∧ ((a = nd ∧ x.all (fun c => decide (32 ≤ c) && c != 127) = true) ∨ (a = vd ∧ x.all (fun c => (decide (32 ≤ c) || c == 9) && c != 127) = true)) then some (.none, σ) else none
noncomputable def appendS (σ : Store) (v : V) (ds : List V) : Option (V × Store) := ownK v fun k => one1 ds fun v => lstK σ k fun vs => if vs.length ≤ 1000 then some (.none, σ.set k (.lst (vs ++ [v]))) else none
noncomputable def indexS (σ : Store) (v : V) (ds : List V) : Option (V × Store) := one1 ds fun u =>
  strK v fun x => strK u fun y => (Builtin.Str.occurrences (strV x) (strV y) 0 (strV x).length 1).head?.map fun i => (V.int (i : Nat), σ)
noncomputable def findS (σ : Store) (v : V) (ds : List V) : Option (V × Store) := one1 ds fun u => strK v fun x => strK u fun y => some (.int (Txt.find (strV x) (strV y)), σ)
noncomputable def splitT (x y : List Nat) : List (List Nat) := (Txt.split (strV x) (strV y)).map fun z => z.cps.toList
noncomputable def splitS (σ : Store) (v : V) (ds : List V) : Option (V × Store) := one1 ds fun u => strK v fun x => strK u fun y =>
  if y.isEmpty then none else if x.length ≤ 100000 then some (.list ((splitT x y).map .str), σ) else none
noncomputable def latin1 : List Nat := [105, 115, 111, 45, 56, 56, 53, 57, 45, 49]
noncomputable def encS (σ : Store) (v : V) (ds : List V) : Option (V × Store) := one1 ds fun u => strK v fun x => strK u fun y =>
  if y = latin1 ∧ x.length ≤ 100000 ∧ x.all (fun c => decide (c < 256)) = true then some (.bytes x, σ) else none
noncomputable def replT (c : Nat) (z : List Nat) (x : List Nat) : List Nat := x.flatMap fun d => if d = c then z else [d]
noncomputable def pairsOf : List V → Option (List (List Nat × V))
  | [] => some []
  | p :: r => tupK p fun vs => two2 vs fun k v => strK k fun k => (pairsOf r).map ((k, v) :: ·)
noncomputable def itemsS (σ : Store) (v : V) (ds : List V) : Option (V × Store) := ownK v fun k => dctK σ k fun _ => if ds.isEmpty then some (.items k, σ) else none
noncomputable def smV (nd vd : Nat) (m : String) (σ : Store) (x : V) (vs : List V) : Option (V × Store) :=
  if m = "lower" then lowS σ x vs else if m = "join" then joinS σ x vs else if m = "search" then searchS nd vd σ x vs
  else if m = "append" then appendS σ x vs else if m = "items" then itemsS σ x vs else if m = "index" then indexS σ x vs
  else if m = "find" then findS σ x vs else if m = "split" then splitS σ x vs else if m = "encode" then encS σ x vs else none

noncomputable def loopM (step : V → Rho → Store → Option (Fl × Rho × Store)) (ok : Store → Bool) : List V → Rho → Store → Option (Fl × Rho × Store)
  | [], ρ, σ => if ok σ then some (.next, ρ, σ) else none
  | v :: r, ρ, σ => if ok σ then (step v ρ σ).bind fun (f, ρ, σ) => match f with
    | .next => loopM step ok r ρ σ
    | .ret w => some (.ret w, ρ, σ)
    else none
noncomputable def still (v : V) (vs : List V) (σ : Store) : Bool := if onOwn false v (fun _ => true) || onIts false v (fun _ => true) then (iterOf σ v).elim false (V.eqbs vs) else true
theorem still_iter {σ₀ σ : Store} {x : V} {vs : List V} (h0 : iterOf σ₀ x = some vs) (h : still x vs σ = true) : iterOf σ x = some vs := by
  by_cases q : (onOwn false x (fun _ => true) || onIts false x (fun _ => true)) = true
  · rw [show still x vs σ = _ from if_pos q] at h
    cases e : iterOf σ x with
    | none => rw [e] at h; cases h
    | some ws => rw [e] at h; rw [V.eqbs_eq h]
  · cases x <;> first | exact h0 | exact absurd rfl q
noncomputable def whileM (c : Rho → Store → Option (Bool × Store)) (bd : Rho → Store → Option (Fl × Rho × Store)) : Nat → Rho → Store → Option (Fl × Rho × Store)
  | 0, _, _ => none
  | n + 1, ρ, σ => (c ρ σ).bind fun (b, σ) => if b then (bd ρ σ).bind fun (f, ρ, σ) => match f with
    | .next => whileM c bd n ρ σ
    | .ret w => some (.ret w, ρ, σ)
    else some (.next, ρ, σ)
noncomputable def compM (step : V → Rho → List V → Store → Option (Rho × List V × Store)) (ok : Store → Bool) : List V → Rho → List V → Store → Option (Rho × List V × Store)
  | [], ρ, acc, σ => if ok σ then some (ρ, acc, σ) else none
  | v :: r, ρ, acc, σ => if ok σ then (step v ρ acc σ).bind fun (ρ, acc, σ) => compM step ok r ρ acc σ else none

structure Cfg where
  nd : Nat
  vd : Nat

mutual
noncomputable def evalM (K : Cfg) (O : Orc) (ρ : Rho) (σ : Store) : ME → Option (V × Store)
  | .none => some (.none, σ)
  | .bool b => some (.bool b, σ)
  | .int i => some (.int i, σ)
  | .str x => some (.str x, σ)
  | .var x => (look ρ x).map fun v => (v, σ)
  | .glob _ a => some (.gl a, σ)
  | .tyn x => some (.ty x, σ)
  | .fmt a x b y => (evalM K O ρ σ a).bind fun (u, σ) => strK u fun u => (evalM K O ρ σ b).bind fun (w, σ) => strK w fun w => if u.length ≤ 100000 ∧ w.length ≤ 100000 ∧ x.length ≤ 100 ∧ y.length ≤ 100 then some (.str (u ++ x ++ w ++ y), σ) else none
  | .tuple es => (evalsM K O ρ σ es).bind fun (vs, σ) => if vs.length ≤ 1000 then some (.tuple vs, σ) else none
  | .list own es => (evalsM K O ρ σ es).bind fun (vs, σ) => newL own vs σ
  | .bin op a b => (evalM K O ρ σ a).bind fun (x, σ) => (evalM K O ρ σ b).bind fun (y, σ) => (binV σ op x y).map fun v => (v, σ)
  | .neg a => (evalM K O ρ σ a).bind fun (x, σ) => intK x fun i => some (.int (-i), σ)
  | .not a => (evalM K O ρ σ a).bind fun (x, σ) => (truthV σ x).map fun b => (.bool !b, σ)
  | .and es => boolM K O ρ σ true es
  | .or es => boolM K O ρ σ false es
  | .ife c a b => (testM K O ρ σ c).bind fun (t, σ) => if t then evalM K O ρ σ a else evalM K O ρ σ b
  | .cmp op a b => (evalM K O ρ σ a).bind fun (x, σ) => (evalM K O ρ σ b).bind fun (y, σ) => (cmpV σ op x y).map fun v => (v, σ)
  | .idx a i => (evalM K O ρ σ a).bind fun (x, σ) => (evalM K O ρ σ i).bind fun (y, σ) => (idxV σ x y).map fun v => (v, σ)
  | .slice a lo hi => (evalM K O ρ σ a).bind fun (x, σ) => (optM K O ρ σ lo).bind fun (l, σ) => (optM K O ρ σ hi).bind fun (h, σ) =>
      (partV l).bind fun l => (partV h).bind fun h => (sliceV σ x l h).map fun v => (v, σ)
  | .call f es => (evalsM K O ρ σ es).bind fun (vs, σ) => O f vs [] σ
  | .meth o m es ks => (evalM K O ρ σ o).bind fun (x, σ) => ownK x fun k =>
      if isInst σ k then (evalsM K O ρ σ es).bind fun (vs, σ) => (evalKM K O ρ σ ks).bind fun (kv, σ) => O ("Headers." ++ m) (.own k :: vs) kv σ else none
  | .new es => (evalsM K O ρ σ es).bind fun (vs, σ) =>
      (O "Headers.__init__" (.own (σ.length + 1) :: vs) [] (σ ++ [.attrs none, .inst σ.length])).bind fun (r, τ) => if r.isNone then some (.own (σ.length + 1), τ) else none
  | .bi f es => (evalsM K O ρ σ es).bind fun (vs, σ) => biV f σ vs
  | .sm o m es => (evalM K O ρ σ o).bind fun (x, σ) => (smId K.nd K.vd m σ x).bind fun _ => (evalsM K O ρ σ es).bind fun (vs, σ) => smV K.nd K.vd m σ x vs
  | .repl o c z => (evalM K O ρ σ o).bind fun (x, σ) => strK x fun x => if z ≠ [c] ∧ x.length ≤ 10000 ∧ z.length ≤ 14 then some (.str (replT c z x), σ) else none
  | .conv b e => (evalM K O ρ σ e).bind fun (x, σ) => ownK x fun k => if isInst σ k then (O (if b then "Headers.__str__" else "Headers.__bytes__") [.own k] [] σ).bind fun (v, σ) =>
      if b then strK v fun x => some (.str x, σ) else bytK v fun x => some (.bytes x, σ) else none
  | .methD o m es d => (evalM K O ρ σ o).bind fun (x, σ) => ownK x fun k =>
      if isInst σ k then (evalsM K O ρ σ es).bind fun (vs, σ) => (evalM K O ρ σ d).bind fun (y, σ) => (lstOf σ y).bind fun ps => (pairsOf ps).bind fun kv =>
        if kv.length ≤ 1000 ∧ (kv.map (·.1)).Nodup then O ("Headers." ++ m) (.own k :: vs) kv σ else none else none
  | .attr o => (evalM K O ρ σ o).bind fun (x, σ) => ownK x fun k => instK σ k fun d => attrsK σ d fun v => v.map fun v => (v, σ)
  | .comp elt t it ifs => (evalM K O ρ σ it).bind fun (x, σ) => (iterC σ x).bind fun vs =>
      (compM (fun v ρ acc σ => (setT ρ t v).bind fun ρ => (ifsM K O ρ σ ifs).bind fun (b, σ) => if b then (evalM K O ρ σ elt).bind fun (v, σ) => if acc.length ≤ 1000 then some (ρ, acc ++ [v], σ) else none else some (ρ, acc, σ))
        (still x vs) vs ((".0" :: t.names).map (fun x => (x, Option.none)) ++ ρ) [] σ).map fun (_, acc, σ) => (.list acc, σ)
noncomputable def ifsM (K : Cfg) (O : Orc) (ρ : Rho) (σ : Store) : MEs → Option (Bool × Store)
  | .nil => some (true, σ)
  | .cons e r => (testM K O ρ σ e).bind fun (b, σ) => if b then ifsM K O ρ σ r else some (false, σ)
noncomputable def evalsM (K : Cfg) (O : Orc) (ρ : Rho) (σ : Store) : MEs → Option (List V × Store)
  | .nil => some ([], σ)
  | .cons e r => (evalM K O ρ σ e).bind fun (v, σ) => (evalsM K O ρ σ r).bind fun (vs, σ) => some (v :: vs, σ)
noncomputable def evalKM (K : Cfg) (O : Orc) (ρ : Rho) (σ : Store) : MKs → Option (List (List Nat × V) × Store)
  | .nil => some ([], σ)
  | .cons k e r => (evalM K O ρ σ e).bind fun (v, σ) => (evalKM K O ρ σ r).bind fun (vs, σ) => some ((k, v) :: vs, σ)
noncomputable def optM (K : Cfg) (O : Orc) (ρ : Rho) (σ : Store) : MO → Option (Option V × Store)
  | .no => some (none, σ)
  | .yes e => (evalM K O ρ σ e).bind fun (v, σ) => some (some v, σ)
noncomputable def boolM (K : Cfg) (O : Orc) (ρ : Rho) (σ : Store) (isAnd : Bool) : MEs → Option (V × Store)
  | .nil => none
  | .cons e .nil => evalM K O ρ σ e
  | .cons e r => (evalM K O ρ σ e).bind fun (v, σ) => (truthV σ v).bind fun t => if t = isAnd then boolM K O ρ σ isAnd r else some (v, σ)
noncomputable def testM (K : Cfg) (O : Orc) (ρ : Rho) (σ : Store) : ME → Option (Bool × Store)
  | .not a => (testM K O ρ σ a).bind fun (b, σ) => some (!b, σ)
  | .and es => allM K O ρ σ true es
  | .or es => allM K O ρ σ false es
  | .bool b => some (b, σ)
  | .var x => (look ρ x).bind fun v => (truthV σ v).map fun b => (b, σ)
  | .cmp op a b => (evalM K O ρ σ a).bind fun (x, σ) => (evalM K O ρ σ b).bind fun (y, σ) => (cmpV σ op x y).bind fun v => (truthV σ v).map fun b => (b, σ)
  | .sm o m es => (evalM K O ρ σ o).bind fun (x, σ) => (smId K.nd K.vd m σ x).bind fun _ => (evalsM K O ρ σ es).bind fun (vs, σ) => (smV K.nd K.vd m σ x vs).bind fun (v, σ) => (truthV σ v).map fun b => (b, σ)
  | _ => none
noncomputable def allM (K : Cfg) (O : Orc) (ρ : Rho) (σ : Store) (isAnd : Bool) : MEs → Option (Bool × Store)
  | .nil => some (isAnd, σ)
  | .cons e r => (testM K O ρ σ e).bind fun (b, σ) => if b = isAnd then allM K O ρ σ isAnd r else some (b, σ)
end

mutual
noncomputable def execM (K : Cfg) (O : Orc) (ρ : Rho) (σ : Store) : MS → Option (Fl × Rho × Store)
  | .assign t e => (evalM K O ρ σ e).bind fun (v, σ) => (setT ρ t v).bind fun ρ => some (.next, ρ, σ)
  | .setattr o e => (evalM K O ρ σ e).bind fun (v, σ) => (evalM K O ρ σ o).bind fun (x, σ) => ownK x fun k => instK σ k fun d => attrsK σ d fun a =>
      if a.isNone then some (.next, ρ, σ.set d (.attrs (some v))) else none
  | .expr e => (evalM K O ρ σ e).bind fun (_, σ) => some (.next, ρ, σ)
  | .aug x op e => (look ρ x).bind fun a => (evalM K O ρ σ e).bind fun (b, σ) => (augV op a b).bind fun v => (setv ρ x v).bind fun ρ => some (.next, ρ, σ)
  | .ite c a b => (testM K O ρ σ c).bind fun (t, σ) => if t then execsM K O ρ σ a else execsM K O ρ σ b
  | .for t it body => (evalM K O ρ σ it).bind fun (x, σ) => (iterT t σ x).bind fun vs =>
      loopM (fun v ρ σ => (setT ρ t v).bind fun ρ => execsM K O ρ σ body) (still x vs) vs ρ σ
  | .while c body => whileM (fun ρ σ => testM K O ρ σ c) (fun ρ σ => execsM K O ρ σ body) 1000 ρ σ
  | .ret e => (evalM K O ρ σ e).bind fun (v, σ) => some (.ret v, ρ, σ)
  | .raise => none
noncomputable def execsM (K : Cfg) (O : Orc) (ρ : Rho) (σ : Store) : MSs → Option (Fl × Rho × Store)
  | .nil => some (.next, ρ, σ)
  | .cons s r => (execM K O ρ σ s).bind fun (f, ρ, σ) => match f with
    | .next => execsM K O ρ σ r
    | .ret v => some (.ret v, ρ, σ)
end

structure Fn where
  pos : List String
  dfl : List V := []
  kwo : List (String × List Nat) := []
  kwarg : Option String := none
  rest : List String
  body : MSs

noncomputable def Fn.binds (f : Fn) (args : List V) (kws : List (List Nat × V)) (σ : Store) : Option (Rho × Store) :=
  if args.length = f.pos.length then
    match f.kwarg with
    | none => if f.kwo.map (·.2) = kws.map (·.1) then some (f.pos.zip (args.map some) ++ (f.kwo.map (·.1)).zip (kws.map fun p => some p.2) ++ f.rest.map (fun x => (x, none)), σ) else none
    | some x => if f.kwo.isEmpty ∧ kws.length ≤ 1000 ∧ (kws.map (·.1)).Nodup ∧ (kws.all fun p => p.1.head? == some 107) = true
        then some (f.pos.zip (args.map some) ++ [(x, some (.own σ.length))] ++ f.rest.map (fun x => (x, none)), σ ++ [.dct kws]) else none
  else none

mutual
noncomputable def V.under (n : Nat) : V → Bool
  | .tuple vs => V.unders n vs
  | .list vs => V.unders n vs
  | .own k => decide (k < n)
  | .items k => decide (k < n)
  | _ => true
noncomputable def V.unders (n : Nat) : List V → Bool
  | [] => true
  | v :: r => v.under n && V.unders n r
end
noncomputable def OObj.under (n : Nat) : OObj → Bool
  | .lst vs => V.unders n vs
  | .inst d => decide (d < n)
  | .attrs none => true
  | .attrs (some v) => v.under n
  | .dct es => es.all fun p => p.2.under n
noncomputable def frz (n : Nat) (σ : Store) : Nat → V → Option V
  | 0, _ => none
  | f + 1, .own k => if k < n then some (.own k) else lstK σ k fun vs => (vs.mapM (frz n σ f)).map .list
  | f + 1, .tuple vs => (vs.mapM (frz n σ f)).map .tuple
  | f + 1, .list vs => (vs.mapM (frz n σ f)).map .list
  | _ + 1, .items k => if k < n then some (.items k) else none
  | _ + 1, v => some v
noncomputable def fin (n : Nat) (v : V) (σ : Store) : V × Store :=
  if (σ.take n).all (OObj.under n) then
    match frz n σ 6 v with
    | some d => (d, σ.take n)
    | none => (v, σ)
  else (v, σ)
noncomputable def callM (K : Cfg) (T : List (String × Fn)) : Nat → Orc
  | 0 => fun _ _ _ _ => none
  | n + 1 => fun f args kws σ => (T.lookup f).bind fun fn =>
      let args := if args.length < fn.pos.length then args ++ fn.dfl.drop (fn.dfl.length - (fn.pos.length - args.length)) else args
      (fn.binds args kws σ).bind fun (ρ, τ) => (execsM K (callM K T n) ρ τ fn.body).bind fun (fl, _, τ) => match fl with
        | .next => some (fin σ.length .none τ)
        | .ret v => some (fin σ.length v τ)

end Mine

namespace Mine

abbrev Part := Addr → Option Obj
structure Cx where
  c : Addr
  w : World
noncomputable def bytV (x : List Nat) : Array UInt8 := (x.map UInt8.ofNat).toArray

mutual
noncomputable def VR (g : Part) (φ : List Addr) : Value → V → Prop
  | v, .none => v = .none
  | v, .bool b => v = .bool b
  | v, .int i => ∃ t, v = .int i t
  | v, .str x => ∃ t, v = .str (strV x) t
  | v, .tuple ds => ∃ a o vs n, v = .ref a ∧ g a = some o ∧ o.cls = .type "tuple" ∧ o.data = .seq (List.toArray vs) n ∧ VRs g φ vs ds
  | v, .list ds => ∃ a o vs n, v = .ref a ∧ g a = some o ∧ o.cls = .type "list" ∧ o.data = .seq (List.toArray vs) n ∧ o.dict = none ∧ VRs g φ vs ds
  | v, .own k => ∃ a, v = .ref a ∧ φ[k]? = some a
  | v, .gl a => v = .ref a
  | v, .ty n => v = .type n
  | v, .rng n => ∃ r t u w, v = .ref r ∧ g r = some { cls := .type "range", data := .fields #[.int 0 t, .int n u, .int 1 w] }
  | v, .items k => ∃ a r, v = .ref r ∧ φ[k]? = some a ∧ g r = some { cls := .type "dict_items", data := .fields #[.ref a] }
  | v, .bytes x => ∃ t, v = .bytes (bytV x) t ∧ ∀ c ∈ x, c < 256
noncomputable def VRs (g : Part) (φ : List Addr) : List Value → List V → Prop
  | vs, [] => vs = []
  | vs, d :: ds => ∃ v ws, vs = v :: ws ∧ VR g φ v d ∧ VRs g φ ws ds
end
section
variable {g : Part} {φ : List Addr} {v : Value} {d : V} {vs ws : List Value} {ds es : List V}
theorem VR.none : VR g φ .none .none := rfl
theorem VR.bool (b : Bool) : VR g φ (.bool b) (.bool b) := rfl
theorem VR.int (i : Int) (t : Tok) : VR g φ (.int i t) (.int i) := ⟨t, rfl⟩
theorem VR.str (x : List Nat) (t : Tok) : VR g φ (.str (strV x) t) (.str x) := ⟨t, rfl⟩
theorem VR.tuple {a : Addr} {o : Obj} {n : Nat} (h1 : g a = some o) (h2 : o.cls = .type "tuple") (h3 : o.data = .seq vs.toArray n) (h4 : VRs g φ vs ds) : VR g φ (.ref a) (.tuple ds) := ⟨a, o, vs, n, rfl, h1, h2, h3, h4⟩
theorem VR.list {a : Addr} {o : Obj} {n : Nat} (h1 : g a = some o) (h2 : o.cls = .type "list") (h3 : o.data = .seq vs.toArray n) (h : o.dict = .none) (h4 : VRs g φ vs ds) : VR g φ (.ref a) (.list ds) := ⟨a, o, vs, n, rfl, h1, h2, h3, h, h4⟩
theorem VR.own {k : Nat} {a : Addr} (h : φ[k]? = some a) : VR g φ (.ref a) (.own k) := ⟨a, rfl, h⟩
theorem VR.gl (a : Addr) : VR g φ (.ref a) (.gl a) := rfl
theorem VR.ty (n : String) : VR g φ (.type n) (.ty n) := rfl
theorem VR.rng {r : Addr} {n : Nat} {t u w : Tok} (h : g r = some { cls := .type "range", data := .fields #[.int 0 t, .int n u, .int 1 w] }) : VR g φ (.ref r) (.rng n) := ⟨r, t, u, w, rfl, h⟩
theorem VR.items {k : Nat} {a r : Addr} (h : φ[k]? = some a) (h2 : g r = some { cls := .type "dict_items", data := .fields #[.ref a] }) : VR g φ (.ref r) (.items k) := ⟨a, r, rfl, h, h2⟩
theorem VR.bytes (x : List Nat) (t : Tok) (h : ∀ c ∈ x, c < 256) : VR g φ (.bytes (bytV x) t) (.bytes x) := ⟨t, rfl, h⟩
theorem VRs.nil : VRs g φ [] [] := rfl
theorem VRs.cons (h : VR g φ v d) (k : VRs g φ vs ds) : VRs g φ (v :: vs) (d :: ds) := ⟨v, vs, rfl, h, k⟩
end

theorem pre_get {φ φ' : List Addr} (h : φ <+: φ') {k : Nat} {a : Addr} (e : φ[k]? = some a) : φ'[k]? = some a := by
  obtain ⟨t, rfl⟩ := h
  have hk : k < φ.length := (List.getElem?_eq_some_iff.mp e).1
  rw [List.getElem?_append_left hk]; exact e

mutual
theorem VR.mono {g g' : Part} {φ φ' : List Addr} (hg : ∀ a o, g a = some o → g' a = some o) (hf : φ <+: φ') : ∀ {d : V} {v : Value}, VR g φ v d → VR g' φ' v d
  | .none, _, h => h
  | .bool _, _, h => h
  | .int _, _, h => h
  | .str _, _, h => h
  | .tuple _, _, h => let ⟨a, o, vs, n, e, h1, h2, h3, h4⟩ := h; ⟨a, o, vs, n, e, hg _ _ h1, h2, h3, VRs.mono hg hf h4⟩
  | .list _, _, h => let ⟨a, o, vs, n, e, h1, h2, h3, h5, h4⟩ := h; ⟨a, o, vs, n, e, hg _ _ h1, h2, h3, h5, VRs.mono hg hf h4⟩
  | .own _, _, h => let ⟨a, e, h⟩ := h; ⟨a, e, pre_get hf h⟩
  | .gl _, _, h => h
  | .ty _, _, h => h
  | .rng _, _, h => let ⟨r, t, u, w, e, h⟩ := h; ⟨r, t, u, w, e, hg _ _ h⟩
  | .items _, _, h => let ⟨a, r, e, h, h2⟩ := h; ⟨a, r, e, pre_get hf h, hg _ _ h2⟩
  | .bytes _, _, h => h
theorem VRs.mono {g g' : Part} {φ φ' : List Addr} (hg : ∀ a o, g a = some o → g' a = some o) (hf : φ <+: φ') : ∀ {ds : List V} {vs : List Value}, VRs g φ vs ds → VRs g' φ' vs ds
  | [], _, h => h
  | _ :: _, _, h => let ⟨v, ws, e, h1, h2⟩ := h; ⟨v, ws, e, VR.mono hg hf h1, VRs.mono hg hf h2⟩
end

section
variable {g : Part} {φ : List Addr} {v : Value} {d : V} {vs ws : List Value} {ds es : List V}
theorem VRs.inv0 {vs : List Value} (h : VRs g φ vs []) : vs = [] := h
theorem VRs.inv {vs : List Value} {d : V} {ds : List V} (h : VRs g φ vs (d :: ds)) : ∃ v ws, vs = v :: ws ∧ VR g φ v d ∧ VRs g φ ws ds := h
theorem VRs.inv1 {vs : List Value} {d : V} (h : VRs g φ vs [d]) : ∃ v, vs = [v] ∧ VR g φ v d :=
  let ⟨v, ws, e, h1, h2⟩ := h; ⟨v, by rw [e, h2.inv0], h1⟩
theorem VRs.inv2 {vs : List Value} {d e : V} (h : VRs g φ vs [d, e]) : ∃ v u, vs = [v, u] ∧ VR g φ v d ∧ VR g φ u e :=
  let ⟨v, ws, e, h1, h2⟩ := h; let ⟨u, e', h3⟩ := h2.inv1; ⟨v, u, by rw [e, e'], h1, h3⟩
theorem VR.ofInt {v : Value} {i : Int} (h : VR g φ v (.int i)) : ∃ t, v = .int i t := h
theorem VR.ofStr {v : Value} {x : List Nat} (h : VR g φ v (.str x)) : ∃ t, v = .str (strV x) t := h
theorem VR.ofOwn {v : Value} {k : Nat} (h : VR g φ v (.own k)) : ∃ a, v = .ref a ∧ φ[k]? = some a := h
theorem VR.ofByt {v : Value} {x : List Nat} (h : VR g φ v (.bytes x)) : ∃ t, v = .bytes (bytV x) t ∧ ∀ c ∈ x, c < 256 := h
theorem VR.ofTup {v : Value} {ds : List V} (h : VR g φ v (.tuple ds)) : ∃ a o vs n, v = .ref a ∧ g a = some o ∧ o.cls = .type "tuple" ∧ o.data = .seq (List.toArray vs) n ∧ VRs g φ vs ds := h
theorem VR.ofList {v : Value} {ds : List V} (h : VR g φ v (.list ds)) : ∃ a o vs n, v = .ref a ∧ g a = some o ∧ o.cls = .type "list" ∧ o.data = .seq (List.toArray vs) n ∧ o.dict = .none ∧ VRs g φ vs ds := h
theorem VRs.length (h : VRs g φ vs ds) : vs.length = ds.length := by
  induction ds generalizing vs with
  | nil => rw [h.inv0]; rfl
  | cons d ds ih => obtain ⟨v, ws, rfl, _, r⟩ := h; rw [List.length_cons, List.length_cons, ih r]
theorem VRs.append (h : VRs g φ vs ds) (k : VRs g φ ws es) : VRs g φ (vs ++ ws) (ds ++ es) := by
  induction ds generalizing vs with
  | nil => rw [h.inv0]; exact k
  | cons d ds ih => obtain ⟨v, us, rfl, h, r⟩ := h; exact .cons h (ih r)
theorem VRs.get' (h : VRs g φ vs ds) {k : Nat} {v : Value} (hk : vs[k]? = some v) : ∃ d, ds[k]? = some d ∧ VR g φ v d := by
  induction ds generalizing vs k with
  | nil => rw [h.inv0] at hk; cases hk
  | cons d ds ih =>
    obtain ⟨u, ws, rfl, h, r⟩ := h
    cases k with
    | zero => cases hk; exact ⟨d, rfl, h⟩
    | succ k => exact ih r hk
theorem VRs.get (h : VRs g φ vs ds) {k : Nat} {d : V} (hk : ds[k]? = some d) : ∃ v, vs[k]? = some v ∧ VR g φ v d := by
  have hl : k < vs.length := h.length ▸ (List.getElem?_eq_some_iff.mp hk).1
  obtain ⟨d', h1, h2⟩ := h.get' (List.getElem?_eq_getElem hl)
  cases hk.symm.trans h1
  exact ⟨_, List.getElem?_eq_getElem hl, h2⟩
theorem VRs.drop {vs : List Value} {ds : List V} (h : VRs g φ vs ds) (k : Nat) : VRs g φ (vs.drop k) (ds.drop k) := by
  induction ds generalizing vs k with
  | nil => rw [h.inv0, List.drop_nil, List.drop_nil]; exact .nil
  | cons d ds ih =>
    obtain ⟨v, ws, rfl, h, r⟩ := h
    cases k with
    | zero => exact .cons h r
    | succ k => exact ih r k
theorem VRs.take {vs : List Value} {ds : List V} (h : VRs g φ vs ds) (k : Nat) : VRs g φ (vs.take k) (ds.take k) := by
  induction ds generalizing vs k with
  | nil => rw [h.inv0, List.take_nil, List.take_nil]; exact .nil
  | cons d ds ih =>
    obtain ⟨v, ws, rfl, h, r⟩ := h
    cases k with
    | zero => exact .nil
    | succ k => exact .cons h (ih r k)
end

noncomputable def entsOf (w : World) (l : List (List Nat × Tok × Value)) : List DictEntry := l.map fun p => ⟨hashStr w (strV p.1), .str (strV p.1) p.2.1, p.2.2⟩
noncomputable def OR (C : Cx) (g : Part) (φ : List Addr) (h : Heap) (a : Addr) : OObj → Prop
  | .lst ds => ∃ vs : List Value, h.PlainList a vs.toArray ∧ VRs g φ vs ds
  | .inst d => ∃ dx, φ[d]? = some dx ∧ h.get? a = some (instObj C.c dx)
  | .attrs none => h.get? a = some (dictOf [] 0)
  | .attrs (some d) => ∃ hsh t v n, h.get? a = some (dictOf [⟨hsh, .str (Str.ofString "_headers") t, v⟩] n) ∧ VR g φ v d
  | .dct es => a ≠ sysModules ∧ (es.map (·.1)).Nodup ∧ ∃ l, h.get? a = some (dictOf (entsOf C.w l) l.length) ∧ l.map (·.1) = es.map (·.1) ∧ VRs g φ (l.map (·.2.2)) (es.map (·.2))

structure Sim (hb : Heap) (C : Cx) (φ : List Addr) (σ : Store) (g : Part) (h : Heap) : Prop where
  base : ∀ a o, hb.get? a = some o → g a = some o
  keep : ∀ a o, g a = some o → h.get? a = some o
  len : φ.length = σ.length
  off : ∀ a ∈ φ, g a = none
  own : ∀ (k : Nat) (a : Addr) (o : OObj), φ[k]? = some a → σ[k]? = some o → OR C g φ h a o
  nodup : φ.Nodup

structure Grow (φ : List Addr) (g : Part) (h : Heap) (φ' : List Addr) (g' : Part) (h' : Heap) : Prop where
  pre : φ <+: φ'
  mono : ∀ a o, g a = some o → g' a = some o
  newg : ∀ a o, g' a = some o → g a = some o ∨ h.get? a = none
  newf : ∀ a, a ∈ φ' → a ∈ φ ∨ h.get? a = none
  keep : ∀ a o, h.get? a = some o → a ∉ φ → h'.get? a = some o
  dom : ∀ a o, h.get? a = some o → ∃ o', h'.get? a = some o'

theorem Grow.refl (φ : List Addr) (g : Part) (h : Heap) : Grow φ g h φ g h := ⟨List.prefix_refl _, fun _ _ e => e, fun _ _ e => .inl e, fun _ e => .inl e, fun _ _ e _ => e, fun _ _ e => ⟨_, e⟩⟩
theorem Grow.trans {φ φ₁ φ₂ : List Addr} {g g₁ g₂ : Part} {h h₁ h₂ : Heap} (x : Grow φ g h φ₁ g₁ h₁) (y : Grow φ₁ g₁ h₁ φ₂ g₂ h₂) : Grow φ g h φ₂ g₂ h₂ where
  pre := x.pre.trans y.pre
  mono := fun a o e => y.mono a o (x.mono a o e)
  newg := fun a o e => by
    rcases y.newg a o e with e1 | e1
    · exact x.newg a o e1
    · cases q : h.get? a with
      | none => exact .inr rfl
      | some o' => obtain ⟨o'', e2⟩ := x.dom a o' q; rw [e1] at e2; cases e2
  newf := fun a e => by
    rcases y.newf a e with e1 | e1
    · exact x.newf a e1
    · cases q : h.get? a with
      | none => exact .inr rfl
      | some o' => obtain ⟨o'', e2⟩ := x.dom a o' q; rw [e1] at e2; cases e2
  keep := fun a o e n => by
    refine y.keep a o (x.keep a o e n) fun m => ?_
    rcases x.newf a m with q | q
    · exact n q
    · rw [q] at e; cases e
  dom := fun a o e => let ⟨o₁, e₁⟩ := x.dom a o e; y.dom a o₁ e₁

theorem OR.grow {C : Cx} {g g' : Part} {φ φ' : List Addr} {h h' : Heap} {a : Addr} (hg : ∀ a o, g a = some o → g' a = some o) (hf : φ <+: φ') (hk : ∀ o, h.get? a = some o → h'.get? a = some o) {o : OObj} (r : OR C g φ h a o) : OR C g' φ' h' a o := by
  cases o with
  | lst _ => obtain ⟨vs, ⟨o, ho⟩, hr⟩ := r; exact ⟨vs, ⟨o, hk _ ho⟩, hr.mono hg hf⟩
  | inst _ => obtain ⟨dx, h1, h2⟩ := r; exact ⟨dx, pre_get hf h1, hk _ h2⟩
  | attrs x => cases x with
    | none => exact hk _ r
    | some _ => obtain ⟨x, t, v, n, h1, h2⟩ := r; exact ⟨x, t, v, n, hk _ h1, h2.mono hg hf⟩
  | dct _ => obtain ⟨e, n, l, h1, h2, h3⟩ := r; exact ⟨e, n, l, hk _ h1, h2, h3.mono hg hf⟩

noncomputable def Rest (s s' : Shared) : Prop := ∃ h' tk, s' = { s with heap := h', toks := tk }
theorem Rest.refl (s : Shared) : Rest s s := ⟨s.heap, s.toks, rfl⟩
theorem Rest.trans {s s₁ s₂ : Shared} (x : Rest s s₁) (y : Rest s₁ s₂) : Rest s s₂ := by
  obtain ⟨h, t, rfl⟩ := x
  obtain ⟨h', t', rfl⟩ := y
  exact ⟨h', t', rfl⟩
theorem Rest.mk (s : Shared) (h' : Heap) (tk : Nat) : Rest s { s with heap := h', toks := tk } := ⟨_, _, rfl⟩

noncomputable def Post (hb : Heap) (C : Cx) (φ : List Addr) (g : Part) (s : Shared) (σ' : Store) (d : V) (v : Value) (s' : Shared) : Prop :=
  ∃ φ' g', Grow φ g s.heap φ' g' s'.heap ∧ Sim hb C φ' σ' g' s'.heap ∧ VR g' φ' v d ∧ Rest s s'

theorem Post.trans {hb : Heap} {C : Cx} {φ φ₁ : List Addr} {g g₁ : Part} {s s₁ s' : Shared} {σ' : Store} {d : V} {v : Value} (x : Grow φ g s.heap φ₁ g₁ s₁.heap) (r : Rest s s₁) (p : Post hb C φ₁ g₁ s₁ σ' d v s') : Post hb C φ g s σ' d v s' :=
  let ⟨φ', g', a, b, c, e⟩ := p; ⟨φ', g', x.trans a, b, c, r.trans e⟩

theorem Post.here {hb : Heap} {C : Cx} {φ : List Addr} {g : Part} {s : Shared} {σ : Store} {d : V} {v : Value} (S : Sim hb C φ σ g s.heap) (h : VR g φ v d) (tk : Nat) : Post hb C φ g s σ d v { s with toks := tk } :=
  ⟨φ, g, Grow.refl .., S, h, ⟨s.heap, tk, rfl⟩⟩

noncomputable def putG (g : Part) (a : Addr) (o : Obj) : Part := fun b => if b = a then some o else g b
theorem fresh_none (h : Heap) : h.get? h.objs.size = none := by
  cases e : h.get? h.objs.size with
  | none => rfl
  | some o => exact absurd (Heap.lt_size e) (Nat.lt_irrefl _)

section
variable {hb : Heap} {C : Cx} {φ : List Addr} {σ : Store} {g : Part} {h h' : Heap}
theorem Sim.fresh_g (S : Sim hb C φ σ g h) {a : Addr} (e : h.get? a = none) : g a = none := by
  cases q : g a with
  | none => rfl
  | some o => rw [S.keep a o q] at e; cases e
theorem Sim.addr (S : Sim hb C φ σ g h) {a : Addr} (m : a ∈ φ) : ∃ o, h.get? a = some o := by
  obtain ⟨k, hk, e⟩ := List.getElem_of_mem m
  have hk' : k < σ.length := S.len ▸ hk
  have e1 : φ[k]? = some a := by rw [List.getElem?_eq_getElem hk, e]
  have z := S.own k a σ[k] e1 (List.getElem?_eq_getElem hk')
  cases q : σ[k] with
  | lst ds => rw [q] at z; obtain ⟨_, ⟨_, ho⟩, _⟩ := z; exact ⟨_, ho⟩
  | inst d => rw [q] at z; obtain ⟨_, _, ho⟩ := z; exact ⟨_, ho⟩
  | attrs v => rw [q] at z; cases v with
    | none => exact ⟨_, z⟩
    | some v => obtain ⟨_, _, _, _, ho, _⟩ := z; exact ⟨_, ho⟩
  | dct es => rw [q] at z; obtain ⟨_, _, _, ho, _, _⟩ := z; exact ⟨_, ho⟩
theorem Sim.fresh_f (S : Sim hb C φ σ g h) {a : Addr} (e : h.get? a = none) : a ∉ φ := fun m => by
  obtain ⟨o, ho⟩ := S.addr m; rw [e] at ho; cases ho

theorem Sim.keeps (S : Sim hb C φ σ g h) (hk : ∀ a o, h.get? a = some o → (a ∈ φ ∨ g a = some o) → h'.get? a = some o) : Sim hb C φ σ g h' :=
  ⟨S.base, fun a o e => hk a o (S.keep a o e) (.inr e), S.len, S.off, fun k a o e1 e2 => (S.own k a o e1 e2).grow (fun _ _ e => e) (List.prefix_refl _) fun o' e => hk a o' e (.inl (List.mem_of_getElem? e1)), S.nodup⟩
theorem Sim.all (S : Sim hb C φ σ g h) (hk : ∀ a o, h.get? a = some o → h'.get? a = some o) : Sim hb C φ σ g h' := S.keeps fun a o e _ => hk a o e

theorem Sim.put (S : Sim hb C φ σ g h) {a : Addr} {o : Obj} (hn : h.get? a = none) (ho : h'.get? a = some o) (hk : ∀ b o, h.get? b = some o → h'.get? b = some o) : Sim hb C φ σ (putG g a o) h' ∧ Grow φ g h φ (putG g a o) h' := by
  have mono : ∀ b o', g b = some o' → putG g a o b = some o' := fun b o' e => by
    unfold putG
    rw [if_neg (by rintro rfl; rw [S.fresh_g hn] at e; cases e)]; exact e
  refine ⟨⟨fun b o' e => mono _ _ (S.base _ _ e), fun b o' e => ?_, S.len, fun b m => ?_, fun k b o' e1 e2 => (S.own k b o' e1 e2).grow mono (List.prefix_refl _) fun o' e => hk b o' e, S.nodup⟩,
    ⟨List.prefix_refl _, mono, fun b o' e => ?_, fun _ e => .inl e, fun b o' e _ => hk b o' e, fun b o' e => ⟨o', hk b o' e⟩⟩⟩
  · unfold putG at e
    split at e
    · rename_i q; subst q; cases e; exact ho
    · exact hk _ _ (S.keep _ _ e)
  · unfold putG
    rw [if_neg (by rintro rfl; exact S.fresh_f hn m)]; exact S.off b m
  · unfold putG at e
    split at e
    · rename_i q; subst q; exact .inr hn
    · exact .inl e

theorem Sim.more (S : Sim hb C φ σ g h) {a : Addr} {x : OObj} (hn : h.get? a = none) (hk : ∀ b o, h.get? b = some o → h'.get? b = some o) (hx : OR C g (φ ++ [a]) h' a x) : Sim hb C (φ ++ [a]) (σ ++ [x]) g h' ∧ Grow φ g h (φ ++ [a]) g h' := by
  have pre : φ <+: φ ++ [a] := List.prefix_append ..
  refine ⟨⟨S.base, fun b o e => hk _ _ (S.keep _ _ e), by simp [S.len], fun b m => ?_, fun k b o e1 e2 => ?_, ?_⟩,
    ⟨pre, fun _ _ e => e, fun _ _ e => .inl e, fun b m => ?_, fun b o e _ => hk b o e, fun b o e => ⟨o, hk b o e⟩⟩⟩
  · rcases List.mem_append.mp m with m | m
    · exact S.off b m
    · rw [List.mem_singleton.mp m]; exact S.fresh_g hn
  · by_cases hlt : k < φ.length
    · rw [List.getElem?_append_left hlt] at e1
      rw [List.getElem?_append_left (S.len ▸ hlt)] at e2
      exact (S.own k b o e1 e2).grow (fun _ _ e => e) pre fun o' e => hk b o' e
    · have hl : φ.length = σ.length := S.len
      have : k < (φ ++ [a]).length := (List.getElem?_eq_some_iff.mp e1).1
      rw [List.length_append, List.length_singleton] at this
      have hk' : k = φ.length := by omega
      subst hk'
      rw [List.getElem?_append_right (Nat.le_refl _)] at e1
      rw [hl, List.getElem?_append_right (Nat.le_refl _)] at e2
      simp at e1 e2
      subst e1 e2
      exact hx
  · rw [List.nodup_append]
    exact ⟨S.nodup, by simp, fun b m c n => by rw [List.mem_singleton.mp n]; rintro rfl; exact S.fresh_f hn m⟩
  · rcases List.mem_append.mp m with m | m
    · exact .inl m
    · rw [List.mem_singleton.mp m]; exact .inr hn

theorem Sim.turn (S : Sim hb C φ σ g h) {k : Nat} {a : Addr} {x : OObj} (ha : φ[k]? = some a) (hs : Heap.SameBut a h h') (hx : OR C g φ h' a x) : Sim hb C φ (σ.set k x) g h' ∧ Grow φ g h φ g h' := by
  have ma : a ∈ φ := List.mem_of_getElem? ha
  have hk : ∀ b o, h.get? b = some o → b ≠ a → h'.get? b = some o := fun b o e n => (hs.2 b n).trans e
  have hdom : ∃ o, h'.get? a = some o := by
    cases x with
    | lst ds => obtain ⟨_, ⟨_, ho⟩, _⟩ := hx; exact ⟨_, ho⟩
    | inst d => obtain ⟨_, _, ho⟩ := hx; exact ⟨_, ho⟩
    | attrs v => cases v with
      | none => exact ⟨_, hx⟩
      | some v => obtain ⟨_, _, _, _, ho, _⟩ := hx; exact ⟨_, ho⟩
    | dct es => obtain ⟨_, _, _, ho, _, _⟩ := hx; exact ⟨_, ho⟩
  refine ⟨⟨S.base, fun b o e => hk b o (S.keep _ _ e) (by rintro rfl; rw [S.off b ma] at e; cases e), by simp [S.len], S.off, fun j b o e1 e2 => ?_, S.nodup⟩,
    ⟨List.prefix_refl _, fun _ _ e => e, fun _ _ e => .inl e, fun _ e => .inl e, fun b o e n => hk b o e (by rintro rfl; exact n ma), fun b o e => ?_⟩⟩
  · by_cases hj : j = k
    · subst hj
      rw [ha] at e1; cases e1
      have : j < σ.length := by rw [← S.len]; exact (List.getElem?_eq_some_iff.mp ha).1
      rw [List.getElem?_set_self this] at e2; cases e2
      exact hx
    · rw [List.getElem?_set_ne (Ne.symm hj)] at e2
      have nb : b ≠ a := by
        rintro rfl
        obtain ⟨l1, q1⟩ := List.getElem?_eq_some_iff.mp e1
        obtain ⟨l2, q2⟩ := List.getElem?_eq_some_iff.mp ha
        exact hj ((List.getElem_inj S.nodup).mp (q1.trans q2.symm))
      exact (S.own j b o e1 e2).grow (fun _ _ e => e) (List.prefix_refl _) fun o' e => hk b o' e nb
  · by_cases q : b = a
    · subst q; exact hdom
    · exact ⟨o, hk b o e q⟩
end
noncomputable def onConstE (e : Expr) (f : Const → Nat → Pos → Bool) : Bool := if h : e.ctorIdx = 19 then PySem.Expr.Constant.elim (motive_1 := fun _ => Bool) e h f else false
theorem onConst_elim {P : Expr → Prop} {e : Expr} {f : Const → Nat → Pos → Bool} (h : onConstE e f = true) (k : ∀ a b c, f a b c = true → P (.Constant a b c)) : P e :=
  let ⟨q, h⟩ := dite_inv t_ne h
  PySem.Expr.Constant.elim (motive_1 := fun e => ∀ q : e.ctorIdx = 19, PySem.Expr.Constant.elim (motive_1 := fun _ => Bool) e q f = true → P e) e q (fun a b c _ h => k a b c h) q h
noncomputable def onNameE (e : Expr) (f : Str → Pos → Bool) : Bool := if h : e.ctorIdx = 23 then PySem.Expr.Name.elim (motive_1 := fun _ => Bool) e h f else false
theorem onName_elim {P : Expr → Prop} {e : Expr} {f : Str → Pos → Bool} (h : onNameE e f = true) (k : ∀ a b, f a b = true → P (.Name a b)) : P e :=
  let ⟨q, h⟩ := dite_inv t_ne h
  PySem.Expr.Name.elim (motive_1 := fun e => ∀ q : e.ctorIdx = 23, PySem.Expr.Name.elim (motive_1 := fun _ => Bool) e q f = true → P e) e q (fun a b _ h => k a b h) q h
noncomputable def onTupleE (e : Expr) (f : List Expr → Nat → Pos → Bool) : Bool := if h : e.ctorIdx = 25 then PySem.Expr.Tuple.elim (motive_1 := fun _ => Bool) e h f else false
theorem onTuple_elim {P : Expr → Prop} {e : Expr} {f : List Expr → Nat → Pos → Bool} (h : onTupleE e f = true) (k : ∀ a b c, f a b c = true → P (.Tuple a b c)) : P e :=
  let ⟨q, h⟩ := dite_inv t_ne h
  PySem.Expr.Tuple.elim (motive_1 := fun e => ∀ q : e.ctorIdx = 25, PySem.Expr.Tuple.elim (motive_1 := fun _ => Bool) e q f = true → P e) e q (fun a b c _ h => k a b c h) q h
noncomputable def onListE (e : Expr) (f : List Expr → Pos → Bool) : Bool := if h : e.ctorIdx = 24 then PySem.Expr.List.elim (motive_1 := fun _ => Bool) e h f else false
theorem onList_elim {P : Expr → Prop} {e : Expr} {f : List Expr → Pos → Bool} (h : onListE e f = true) (k : ∀ a b, f a b = true → P (.List a b)) : P e :=
  let ⟨q, h⟩ := dite_inv t_ne h
  PySem.Expr.List.elim (motive_1 := fun e => ∀ q : e.ctorIdx = 24, PySem.Expr.List.elim (motive_1 := fun _ => Bool) e q f = true → P e) e q (fun a b _ h => k a b h) q h
noncomputable def onBinE (e : Expr) (f : Expr → Operator → Expr → Pos → Bool) : Bool := if h : e.ctorIdx = 2 then PySem.Expr.BinOp.elim (motive_1 := fun _ => Bool) e h f else false
theorem onBin_elim {P : Expr → Prop} {e : Expr} {f : Expr → Operator → Expr → Pos → Bool} (h : onBinE e f = true) (k : ∀ a b c d, f a b c d = true → P (.BinOp a b c d)) : P e :=
  let ⟨q, h⟩ := dite_inv t_ne h
  PySem.Expr.BinOp.elim (motive_1 := fun e => ∀ q : e.ctorIdx = 2, PySem.Expr.BinOp.elim (motive_1 := fun _ => Bool) e q f = true → P e) e q (fun a b c d _ h => k a b c d h) q h
noncomputable def onUnE (e : Expr) (f : UnaryOp → Expr → Pos → Bool) : Bool := if h : e.ctorIdx = 3 then PySem.Expr.UnaryOp.elim (motive_1 := fun _ => Bool) e h f else false
theorem onUn_elim {P : Expr → Prop} {e : Expr} {f : UnaryOp → Expr → Pos → Bool} (h : onUnE e f = true) (k : ∀ a b c, f a b c = true → P (.UnaryOp a b c)) : P e :=
  let ⟨q, h⟩ := dite_inv t_ne h
  PySem.Expr.UnaryOp.elim (motive_1 := fun e => ∀ q : e.ctorIdx = 3, PySem.Expr.UnaryOp.elim (motive_1 := fun _ => Bool) e q f = true → P e) e q (fun a b c _ h => k a b c h) q h
noncomputable def onBoolE (e : Expr) (f : BoolOp → List Expr → Pos → Bool) : Bool := if h : e.ctorIdx = 0 then PySem.Expr.BoolOp.elim (motive_1 := fun _ => Bool) e h f else false
theorem onBool_elim {P : Expr → Prop} {e : Expr} {f : BoolOp → List Expr → Pos → Bool} (h : onBoolE e f = true) (k : ∀ a b c, f a b c = true → P (.BoolOp a b c)) : P e :=
  let ⟨q, h⟩ := dite_inv t_ne h
  PySem.Expr.BoolOp.elim (motive_1 := fun e => ∀ q : e.ctorIdx = 0, PySem.Expr.BoolOp.elim (motive_1 := fun _ => Bool) e q f = true → P e) e q (fun a b c _ h => k a b c h) q h
noncomputable def onIfE (e : Expr) (f : Expr → Expr → Expr → Pos → Bool) : Bool := if h : e.ctorIdx = 5 then PySem.Expr.IfExp.elim (motive_1 := fun _ => Bool) e h f else false
theorem onIf_elim {P : Expr → Prop} {e : Expr} {f : Expr → Expr → Expr → Pos → Bool} (h : onIfE e f = true) (k : ∀ a b c d, f a b c d = true → P (.IfExp a b c d)) : P e :=
  let ⟨q, h⟩ := dite_inv t_ne h
  PySem.Expr.IfExp.elim (motive_1 := fun e => ∀ q : e.ctorIdx = 5, PySem.Expr.IfExp.elim (motive_1 := fun _ => Bool) e q f = true → P e) e q (fun a b c d _ h => k a b c d h) q h
noncomputable def onCmpE (e : Expr) (f : Expr → List CmpOp → List Expr → Pos → Bool) : Bool := if h : e.ctorIdx = 15 then PySem.Expr.Compare.elim (motive_1 := fun _ => Bool) e h f else false
theorem onCmp_elim {P : Expr → Prop} {e : Expr} {f : Expr → List CmpOp → List Expr → Pos → Bool} (h : onCmpE e f = true) (k : ∀ a b c d, f a b c d = true → P (.Compare a b c d)) : P e :=
  let ⟨q, h⟩ := dite_inv t_ne h
  PySem.Expr.Compare.elim (motive_1 := fun e => ∀ q : e.ctorIdx = 15, PySem.Expr.Compare.elim (motive_1 := fun _ => Bool) e q f = true → P e) e q (fun a b c d _ h => k a b c d h) q h
noncomputable def onSubE (e : Expr) (f : Expr → Expr → Pos → Bool) : Bool := if h : e.ctorIdx = 21 then PySem.Expr.Subscript.elim (motive_1 := fun _ => Bool) e h f else false
theorem onSub_elim {P : Expr → Prop} {e : Expr} {f : Expr → Expr → Pos → Bool} (h : onSubE e f = true) (k : ∀ a b c, f a b c = true → P (.Subscript a b c)) : P e :=
  let ⟨q, h⟩ := dite_inv t_ne h
  PySem.Expr.Subscript.elim (motive_1 := fun e => ∀ q : e.ctorIdx = 21, PySem.Expr.Subscript.elim (motive_1 := fun _ => Bool) e q f = true → P e) e q (fun a b c _ h => k a b c h) q h
noncomputable def onSliceE (e : Expr) (f : Option Expr → Option Expr → Option Expr → Pos → Bool) : Bool := if h : e.ctorIdx = 26 then PySem.Expr.Slice.elim (motive_1 := fun _ => Bool) e h f else false
theorem onSlice_elim {P : Expr → Prop} {e : Expr} {f : Option Expr → Option Expr → Option Expr → Pos → Bool} (h : onSliceE e f = true) (k : ∀ a b c d, f a b c d = true → P (.Slice a b c d)) : P e :=
  let ⟨q, h⟩ := dite_inv t_ne h
  PySem.Expr.Slice.elim (motive_1 := fun e => ∀ q : e.ctorIdx = 26, PySem.Expr.Slice.elim (motive_1 := fun _ => Bool) e q f = true → P e) e q (fun a b c d _ h => k a b c d h) q h
noncomputable def onCallE (e : Expr) (f : Expr → List Expr → List Keyword → Pos → Bool) : Bool := if h : e.ctorIdx = 16 then PySem.Expr.Call.elim (motive_1 := fun _ => Bool) e h f else false
theorem onCall_elim {P : Expr → Prop} {e : Expr} {f : Expr → List Expr → List Keyword → Pos → Bool} (h : onCallE e f = true) (k : ∀ a b c d, f a b c d = true → P (.Call a b c d)) : P e :=
  let ⟨q, h⟩ := dite_inv t_ne h
  PySem.Expr.Call.elim (motive_1 := fun e => ∀ q : e.ctorIdx = 16, PySem.Expr.Call.elim (motive_1 := fun _ => Bool) e q f = true → P e) e q (fun a b c d _ h => k a b c d h) q h
noncomputable def onAttrE (e : Expr) (f : Expr → Str → Pos → Bool) : Bool := if h : e.ctorIdx = 20 then PySem.Expr.Attribute.elim (motive_1 := fun _ => Bool) e h f else false
theorem onAttr_elim {P : Expr → Prop} {e : Expr} {f : Expr → Str → Pos → Bool} (h : onAttrE e f = true) (k : ∀ a b c, f a b c = true → P (.Attribute a b c)) : P e :=
  let ⟨q, h⟩ := dite_inv t_ne h
  PySem.Expr.Attribute.elim (motive_1 := fun e => ∀ q : e.ctorIdx = 20, PySem.Expr.Attribute.elim (motive_1 := fun _ => Bool) e q f = true → P e) e q (fun a b c _ h => k a b c h) q h
noncomputable def onJoinE (e : Expr) (f : List Expr → Pos → Bool) : Bool := if h : e.ctorIdx = 18 then PySem.Expr.JoinedStr.elim (motive_1 := fun _ => Bool) e h f else false
theorem onJoin_elim {P : Expr → Prop} {e : Expr} {f : List Expr → Pos → Bool} (h : onJoinE e f = true) (k : ∀ a b, f a b = true → P (.JoinedStr a b)) : P e :=
  let ⟨q, h⟩ := dite_inv t_ne h
  PySem.Expr.JoinedStr.elim (motive_1 := fun e => ∀ q : e.ctorIdx = 18, PySem.Expr.JoinedStr.elim (motive_1 := fun _ => Bool) e q f = true → P e) e q (fun a b _ h => k a b h) q h
noncomputable def onFmtE (e : Expr) (f : Expr → Int → Option Expr → Pos → Bool) : Bool := if h : e.ctorIdx = 17 then PySem.Expr.FormattedValue.elim (motive_1 := fun _ => Bool) e h f else false
theorem onFmt_elim {P : Expr → Prop} {e : Expr} {f : Expr → Int → Option Expr → Pos → Bool} (h : onFmtE e f = true) (k : ∀ a b c d, f a b c d = true → P (.FormattedValue a b c d)) : P e :=
  let ⟨q, h⟩ := dite_inv t_ne h
  PySem.Expr.FormattedValue.elim (motive_1 := fun e => ∀ q : e.ctorIdx = 17, PySem.Expr.FormattedValue.elim (motive_1 := fun _ => Bool) e q f = true → P e) e q (fun a b c d _ h => k a b c d h) q h
noncomputable def onCompE (e : Expr) (f : Expr → List Comprehension → Scope → Pos → Bool) : Bool := if h : e.ctorIdx = 8 then PySem.Expr.ListComp.elim (motive_1 := fun _ => Bool) e h f else false
theorem onComp_elim {P : Expr → Prop} {e : Expr} {f : Expr → List Comprehension → Scope → Pos → Bool} (h : onCompE e f = true) (k : ∀ a b c d, f a b c d = true → P (.ListComp a b c d)) : P e :=
  let ⟨q, h⟩ := dite_inv t_ne h
  PySem.Expr.ListComp.elim (motive_1 := fun e => ∀ q : e.ctorIdx = 8, PySem.Expr.ListComp.elim (motive_1 := fun _ => Bool) e q f = true → P e) e q (fun a b c d _ h => k a b c d h) q h
noncomputable def onAssignE (e : Stmt) (f : List Expr → Expr → Pos → Bool) : Bool := if h : e.ctorIdx = 5 then PySem.Stmt.Assign.elim (motive_2 := fun _ => Bool) e h f else false
theorem onAssign_elim {P : Stmt → Prop} {e : Stmt} {f : List Expr → Expr → Pos → Bool} (h : onAssignE e f = true) (k : ∀ a b c, f a b c = true → P (.Assign a b c)) : P e :=
  let ⟨q, h⟩ := dite_inv t_ne h
  PySem.Stmt.Assign.elim (motive_2 := fun e => ∀ q : e.ctorIdx = 5, PySem.Stmt.Assign.elim (motive_2 := fun _ => Bool) e q f = true → P e) e q (fun a b c _ h => k a b c h) q h
noncomputable def onAugE (e : Stmt) (f : Expr → Operator → Expr → Pos → Bool) : Bool := if h : e.ctorIdx = 7 then PySem.Stmt.AugAssign.elim (motive_2 := fun _ => Bool) e h f else false
theorem onAug_elim {P : Stmt → Prop} {e : Stmt} {f : Expr → Operator → Expr → Pos → Bool} (h : onAugE e f = true) (k : ∀ a b c d, f a b c d = true → P (.AugAssign a b c d)) : P e :=
  let ⟨q, h⟩ := dite_inv t_ne h
  PySem.Stmt.AugAssign.elim (motive_2 := fun e => ∀ q : e.ctorIdx = 7, PySem.Stmt.AugAssign.elim (motive_2 := fun _ => Bool) e q f = true → P e) e q (fun a b c d _ h => k a b c d h) q h
noncomputable def onExprSE (e : Stmt) (f : Expr → Pos → Bool) : Bool := if h : e.ctorIdx = 24 then PySem.Stmt.Expr.elim (motive_2 := fun _ => Bool) e h f else false
theorem onExprS_elim {P : Stmt → Prop} {e : Stmt} {f : Expr → Pos → Bool} (h : onExprSE e f = true) (k : ∀ a b, f a b = true → P (.Expr a b)) : P e :=
  let ⟨q, h⟩ := dite_inv t_ne h
  PySem.Stmt.Expr.elim (motive_2 := fun e => ∀ q : e.ctorIdx = 24, PySem.Stmt.Expr.elim (motive_2 := fun _ => Bool) e q f = true → P e) e q (fun a b _ h => k a b h) q h
noncomputable def onIfSE (e : Stmt) (f : Expr → List Stmt → List Stmt → Pos → Bool) : Bool := if h : e.ctorIdx = 12 then PySem.Stmt.If.elim (motive_2 := fun _ => Bool) e h f else false
theorem onIfS_elim {P : Stmt → Prop} {e : Stmt} {f : Expr → List Stmt → List Stmt → Pos → Bool} (h : onIfSE e f = true) (k : ∀ a b c d, f a b c d = true → P (.If a b c d)) : P e :=
  let ⟨q, h⟩ := dite_inv t_ne h
  PySem.Stmt.If.elim (motive_2 := fun e => ∀ q : e.ctorIdx = 12, PySem.Stmt.If.elim (motive_2 := fun _ => Bool) e q f = true → P e) e q (fun a b c d _ h => k a b c d h) q h
noncomputable def onForE (e : Stmt) (f : Expr → Expr → List Stmt → List Stmt → Pos → Bool) : Bool := if h : e.ctorIdx = 9 then PySem.Stmt.For.elim (motive_2 := fun _ => Bool) e h f else false
theorem onFor_elim {P : Stmt → Prop} {e : Stmt} {f : Expr → Expr → List Stmt → List Stmt → Pos → Bool} (h : onForE e f = true) (k : ∀ a b c d p, f a b c d p = true → P (.For a b c d p)) : P e :=
  let ⟨q, h⟩ := dite_inv t_ne h
  PySem.Stmt.For.elim (motive_2 := fun e => ∀ q : e.ctorIdx = 9, PySem.Stmt.For.elim (motive_2 := fun _ => Bool) e q f = true → P e) e q (fun a b c d p _ h => k a b c d p h) q h
noncomputable def onWhileE (e : Stmt) (f : Expr → List Stmt → List Stmt → Pos → Bool) : Bool := if h : e.ctorIdx = 11 then PySem.Stmt.While.elim (motive_2 := fun _ => Bool) e h f else false
theorem onWhile_elim {P : Stmt → Prop} {e : Stmt} {f : Expr → List Stmt → List Stmt → Pos → Bool} (h : onWhileE e f = true) (k : ∀ a b c d, f a b c d = true → P (.While a b c d)) : P e :=
  let ⟨q, h⟩ := dite_inv t_ne h
  PySem.Stmt.While.elim (motive_2 := fun e => ∀ q : e.ctorIdx = 11, PySem.Stmt.While.elim (motive_2 := fun _ => Bool) e q f = true → P e) e q (fun a b c d _ h => k a b c d h) q h
noncomputable def onRetE (e : Stmt) (f : Option Expr → Pos → Bool) : Bool := if h : e.ctorIdx = 3 then PySem.Stmt.Return.elim (motive_2 := fun _ => Bool) e h f else false
theorem onRet_elim {P : Stmt → Prop} {e : Stmt} {f : Option Expr → Pos → Bool} (h : onRetE e f = true) (k : ∀ a b, f a b = true → P (.Return a b)) : P e :=
  let ⟨q, h⟩ := dite_inv t_ne h
  PySem.Stmt.Return.elim (motive_2 := fun e => ∀ q : e.ctorIdx = 3, PySem.Stmt.Return.elim (motive_2 := fun _ => Bool) e q f = true → P e) e q (fun a b _ h => k a b h) q h
noncomputable def onCBoolE (e : Const) (f : Bool → Bool) : Bool := if h : e.ctorIdx = 1 then PySem.Const.bool.elim (motive := fun _ => Bool) e h f else false
theorem onCBool_elim {P : Const → Prop} {e : Const} {f : Bool → Bool} (h : onCBoolE e f = true) (k : ∀ a, f a = true → P (.bool a)) : P e :=
  let ⟨q, h⟩ := dite_inv t_ne h
  PySem.Const.bool.elim (motive := fun e => ∀ q : e.ctorIdx = 1, PySem.Const.bool.elim (motive := fun _ => Bool) e q f = true → P e) e q (fun a _ h => k a h) q h
noncomputable def onCIntE (e : Const) (f : Int → Bool) : Bool := if h : e.ctorIdx = 2 then PySem.Const.int.elim (motive := fun _ => Bool) e h f else false
theorem onCInt_elim {P : Const → Prop} {e : Const} {f : Int → Bool} (h : onCIntE e f = true) (k : ∀ a, f a = true → P (.int a)) : P e :=
  let ⟨q, h⟩ := dite_inv t_ne h
  PySem.Const.int.elim (motive := fun e => ∀ q : e.ctorIdx = 2, PySem.Const.int.elim (motive := fun _ => Bool) e q f = true → P e) e q (fun a _ h => k a h) q h
noncomputable def onCStrE (e : Const) (f : Str → Bool) : Bool := if h : e.ctorIdx = 5 then PySem.Const.str.elim (motive := fun _ => Bool) e h f else false
theorem onCStr_elim {P : Const → Prop} {e : Const} {f : Str → Bool} (h : onCStrE e f = true) (k : ∀ a, f a = true → P (.str a)) : P e :=
  let ⟨q, h⟩ := dite_inv t_ne h
  PySem.Const.str.elim (motive := fun e => ∀ q : e.ctorIdx = 5, PySem.Const.str.elim (motive := fun _ => Bool) e q f = true → P e) e q (fun a _ h => k a h) q h
noncomputable def isCNone (c : Const) : Bool := decide (c.ctorIdx = 0)
theorem isCNone_inv {c : Const} (h : isCNone c = true) : c = .none := PySem.Const.none.elim (motive := fun c => c = .none) c (of_decide_eq_true h) rfl
noncomputable def one {α : Type} (l : List α) (f : α → Bool) : Bool := match l with
  | x :: r => r.isEmpty && f x
  | [] => false
theorem one_elim {α : Type} {P : List α → Prop} {l : List α} {f : α → Bool} (h : one l f = true) (k : ∀ x, f x = true → P [x]) : P l := by
  cases l with
  | nil => cases h
  | cons x l =>
    cases l with
    | nil => exact k x h
    | cons _ _ => cases h
theorem nil_inv {α : Type} {l : List α} (h : l.isEmpty = true) : l = [] := List.isEmpty_iff.mp h
end Mine

namespace Mine

noncomputable def vis (k : Option NameKind) : Bool := match k with
  | some .local => true
  | some .cell => true
  | some .free => true
  | _ => false

noncomputable def Sees (h : Heap) (env : Env) (n : Str) (v : Value) : Prop :=
  (env.kindOf n = some .local ∧ ∃ m, h.Ns env.locals m ∧ m n = some v) ∨
  ((env.kindOf n = some .cell ∨ (env.kindOf n = some .free ∧ (n == ("__classdict__" : Str)) = false)) ∧ ∃ c, env.cells.lookup n = some c ∧ h.IsCell c (some v))

structure ER (hb : Heap) (φ : List Addr) (g : Part) (h : Heap) (env : Env) (ρ : Rho) : Prop where
  kind : env.scope.kind = .function
  glob : env.globals = mainGlobals
  bl : env.builtins = builtinsNs
  ns : ∃ m, h.Ns env.locals m
  offL : env.locals ∉ φ ∧ g env.locals = none
  cells : ∀ n c, env.cells.lookup n = some c → (∃ v, h.IsCell c v) ∧ c ∉ φ ∧ g c = none ∧ c ≠ env.locals
  has : ∀ n, (env.kindOf n = some .cell ∨ env.kindOf n = some .free) → ∃ c, env.cells.lookup n = some c
  sees : ∀ x d, look ρ x = some d → vis (env.kindOf (Str.ofString x)) = true → ∃ v, Sees h env (Str.ofString x) v ∧ VR g φ v d
  inj : ∀ n n' c, env.cells.lookup n = some c → env.cells.lookup n' = some c → n = n'

theorem Nsm.has {h : Heap} {a : Addr} {m : Str → Option Value} (x : h.Ns a m) : ∃ o, h.get? a = some o := let ⟨o, _, _, ho, _⟩ := x; ⟨o, ho⟩
theorem Nsm.at {h h' : Heap} {a : Addr} {m : Str → Option Value} (x : h.Ns a m) (e : ∀ o, h.get? a = some o → h'.get? a = some o) : h'.Ns a m := let ⟨o, es, ep, ho, r⟩ := x; ⟨o, es, ep, e _ ho, r⟩
theorem Cellm.at {h h' : Heap} {a : Addr} {v : Option Value} (x : h.IsCell a v) (e : ∀ o, h.get? a = some o → h'.get? a = some o) : h'.IsCell a v := let ⟨o, ho, r⟩ := x; ⟨o, e _ ho, r⟩

theorem Sees.keeps {hb : Heap} {φ : List Addr} {g : Part} {h h' : Heap} {env : Env} {ρ : Rho} (R : ER hb φ g h env ρ) {n : Str} {v : Value} (x : Sees h env n v) (hk : ∀ a o, h.get? a = some o → a ∉ φ → h'.get? a = some o) : Sees h' env n v := by
  rcases x with ⟨e, m, hm, hv⟩ | ⟨e, c, hc, hv⟩
  · exact .inl ⟨e, m, Nsm.at hm fun o ho => hk _ o ho R.offL.1, hv⟩
  · exact .inr ⟨e, c, hc, Cellm.at hv fun o ho => hk _ o ho (R.cells n c hc).2.1⟩

theorem ER.grow {hb : Heap} {φ φ' : List Addr} {g g' : Part} {h h' : Heap} {env : Env} {ρ : Rho} (R : ER hb φ g h env ρ) (G : Grow φ g h φ' g' h') : ER hb φ' g' h' env ρ where
  kind := R.kind
  glob := R.glob
  bl := R.bl
  ns := let ⟨m, hm⟩ := R.ns; ⟨m, Nsm.at hm fun o e => G.keep _ o e R.offL.1⟩
  offL := by
    obtain ⟨m, hm⟩ := R.ns
    obtain ⟨o, ho⟩ := Nsm.has hm
    refine ⟨fun q => ?_, ?_⟩
    · rcases G.newf _ q with q | q
      · exact R.offL.1 q
      · rw [q] at ho; cases ho
    · cases q : g' env.locals with
      | none => rfl
      | some o' =>
        rcases G.newg _ _ q with q | q
        · rw [R.offL.2] at q; cases q
        · rw [q] at ho; cases ho
  cells := fun n c e => by
    obtain ⟨⟨v, hv⟩, h1, h2, h3⟩ := R.cells n c e
    obtain ⟨o, ho, hd⟩ := id hv
    refine ⟨⟨v, Cellm.at hv fun o e => G.keep _ o e h1⟩, fun q => ?_, ?_, h3⟩
    · rcases G.newf _ q with q | q
      · exact h1 q
      · rw [q] at ho; cases ho
    · cases q : g' c with
      | none => rfl
      | some o' =>
        rcases G.newg _ _ q with q | q
        · rw [h2] at q; cases q
        · rw [q] at ho; cases ho
  has := R.has
  sees := fun x d e v => let ⟨y, hy, hr⟩ := R.sees x d e v; ⟨y, hy.keeps R fun a o e n => G.keep a o e n, hr.mono G.mono G.pre⟩
  inj := R.inj

structure Rc (n : Nat) (A : Around) (t : Nat) : Prop where
  handled : A.handled = none
  depth : A.depth + 4 * n < recursionLimit
  units : A.units + 40 * n + 300 < cLine
  pos : 1 ≤ t
structure Rm (n : Nat) (A : Around) (t : Nat) : Prop where
  handled : A.handled = none
  depth : A.depth + 4 * n + 2 < recursionLimit
  units : A.units + 40 * n + 310 < cLine
  pos : 1 ≤ t
theorem Rm.rc {n t : Nat} {A : Around} (h : Rm n A t) : Rc n A t := ⟨h.handled, by have := h.depth; omega, by have := h.units; omega, h.pos⟩
theorem Rm.under {n t : Nat} {A : Around} (h : Rm n A t) (c : Addr) (pos : List Value) (kw : List (Str × Value)) : Rc n (A.under (.builtin "type.__call__" ⟨.ref c :: pos, kw⟩)) t :=
  ⟨h.handled, by have := h.depth; show A.depth + 1 + 4 * n < _; omega, by have := h.units; show A.units + 1 + 40 * n + 300 < _; omega, h.pos⟩
theorem Rc.deeper {n t : Nat} {A : Around} (h : Rc (n + 1) A t) (env : Env) : Rm n (A.deeper env) t :=
  ⟨h.handled, by have := h.depth; show A.depth + 1 + 4 * n + 2 < _; omega, by have := h.units; show A.units + 3 + 40 * n + 310 < _; omega, h.pos⟩
theorem Rm.up {n t t' : Nat} {A : Around} (h : Rm n A t) (l : t ≤ t') : Rm n A t' := ⟨h.handled, h.depth, h.units, Nat.le_trans h.pos l⟩
theorem Rc.up {n t t' : Nat} {A : Around} (h : Rc n A t) (l : t ≤ t') : Rc n A t' := ⟨h.handled, h.depth, h.units, Nat.le_trans h.pos l⟩
theorem go {M : Model} {n : Nat} {A : Around} {s : Shared} {α : Type} {t : Sem α} {Q Q' : α → Shared → Prop} {E : Value → Shared → Prop} (hA : Rm n A s.toks) (h : wpAny M A t Q E s) (k : ∀ v s₁, Rm n A s₁.toks → Q v s₁ → Q' v s₁) : wpAny M A t Q' E s :=
  wpAny_mono (wpAny_toks h) (fun v s₁ q => k v s₁ (hA.up q.1) q.2) fun _ _ e => e.2

structure Top0 (prog : Program) (w : World) (hb : Heap) (K : Frag) (mg mb : Str → Option Value) : Prop where
  kin : K.In hb
  g : hb.Ns mainGlobals mg
  b : hb.Ns builtinsNs mb
  nolimit : hb.NoLimit

section
variable {prog : Program} {hb : Heap} {C : Cx}

noncomputable def EvOK (prog : Program) (hb : Heap) (C : Cx) (n : Nat) (env : Env) (ρ : Rho) (σ : Store) (e : Expr) (d : V) (σ' : Store) : Prop :=
  ∀ A s φ g E, Rm n A s.toks → Sim hb C φ σ g s.heap → ER hb φ g s.heap env ρ → wpAny (model prog C.w) A (eval e env) (Post hb C φ g s σ' d) E s
noncomputable def EvsOK (prog : Program) (hb : Heap) (C : Cx) (n : Nat) (env : Env) (ρ : Rho) (σ : Store) (es : List Expr) (ds : List V) (σ' : Store) : Prop :=
  ∀ A s φ g E pos, Rm n A s.toks → Sim hb C φ σ g s.heap → ER hb φ g s.heap env ρ → wpAny (model prog C.w) A (spliced (backTo pos (starEach es env)))
    (fun vs s' => ∃ φ' g', Grow φ g s.heap φ' g' s'.heap ∧ Sim hb C φ' σ' g' s'.heap ∧ VRs g' φ' vs ds ∧ Rest s s') E s

variable {n : Nat} {env : Env} {ρ : Rho} {σ σ₁ σ₂ σ₃ : Store}

theorem none_ok (k : Nat) (pos : Pos) : EvOK prog hb C n env ρ σ (.Constant .none k pos) .none σ :=
  fun _ s _ _ _ _ S _ => wpAny_pure (Post.here S .none s.toks)
theorem bool_ok (b : Bool) (k : Nat) (pos : Pos) : EvOK prog hb C n env ρ σ (.Constant (.bool b) k pos) (.bool b) σ :=
  fun _ s _ _ _ _ S _ => wpAny_pure (Post.here S (.bool b) s.toks)
theorem int_ok (i : Int) (k : Nat) (pos : Pos) : EvOK prog hb C n env ρ σ (.Constant (.int i) k pos) (.int i) σ :=
  fun _ s _ _ _ _ S _ => wpAny_Constant_int (Post.here S (.int i _) (s.toks + 1))
theorem str_ok (x : List Nat) (k : Nat) (pos : Pos) : EvOK prog hb C n env ρ σ (.Constant (.str (strV x)) k pos) (.str x) σ :=
  fun _ s _ _ _ _ S _ => fun _ _ _ => Post.here S (.str x _) (s.toks + 1)

theorem loadSees {M : Model} {A : Around} {E : Value → Shared → Prop} {s : Shared} {x : Str} {v : Value} {Q : Value → Shared → Prop} (hk : env.scope.kind = .function) (h : Sees s.heap env x v) (q : Q v s) : wpAny M A (loadName env x) Q E s := by
  rcases h with ⟨e, m, hm, hv⟩ | ⟨e | e, c, hc, hv⟩
  · exact wpAny_loadName_local hk e hm hv q
  · exact wpAny_loadName_cell hk e hc hv q
  · exact wpAny_loadName_free hk e.1 hc hv q e.2

theorem var_ok {x : String} {d : V} {pos : Pos} (hl : look ρ x = some d) (hv : vis (env.kindOf (Str.ofString x)) = true) (hd : (Str.ofString x == ("__debug__" : Str)) = false) : EvOK prog hb C n env ρ σ (.Name (Str.ofString x) pos) d σ := by
  intro A s φ g E _ S R
  obtain ⟨v, hs, hr⟩ := R.sees x d hl hv
  exact wpAny_Name (loadSees R.kind hs (Post.here S hr s.toks)) hd

theorem Sim.hbk {φ : List Addr} {g : Part} {h : Heap} (S : Sim hb C φ σ g h) : ∀ a o, hb.get? a = some o → h.get? a = some o := fun a o e => S.keep a o (S.base a o e)

theorem glob_ok {mg : Str → Option Value} {x : Str} {v : Value} {d : V} {pos : Pos} (hg : hb.Ns mainGlobals mg) (hx : env.kindOf x = some .globalImplicit) (hm : mg x = some v) (hd : (x == ("__debug__" : Str)) = false)
    (hr : ∀ g φ, VR g φ v d) : EvOK prog hb C n env ρ σ (.Name x pos) d σ := by
  intro A s φ g E _ S R
  refine Calls.Name_function_global R.kind hx ?_ hd
  exact Calls.loadGlobal_global (by rw [R.glob]; exact hg.keeps S.hbk) hm (Post.here S (hr g φ) s.toks)
theorem blt_ok {mg mb : Str → Option Value} {x : Str} {v : Value} {d : V} {pos : Pos} (hg : hb.Ns mainGlobals mg) (hbl : hb.Ns builtinsNs mb) (hx : env.kindOf x = some .globalImplicit) (hm : mg x = none) (hb' : mb x = some v) (hd : (x == ("__debug__" : Str)) = false)
    (hr : ∀ g φ, VR g φ v d) : EvOK prog hb C n env ρ σ (.Name x pos) d σ := by
  intro A s φ g E _ S R
  refine Calls.Name_function_global R.kind hx ?_ hd
  exact Calls.loadGlobal_builtin (by rw [R.glob]; exact hg.keeps S.hbk) hm (by rw [R.bl]; exact hbl.keeps S.hbk) hb' (Post.here S (hr g φ) s.toks)

theorem two_ok {A : Around} {s : Shared} {φ : List Addr} {g : Part} {E : Value → Shared → Prop} {l r : Expr} {x y : V} {Q : Value → Value → Shared → Prop} (a : EvOK prog hb C n env ρ σ l x σ₁) (b : EvOK prog hb C n env ρ σ₁ r y σ₂) (hA : Rm n A s.toks) (S : Sim hb C φ σ g s.heap) (R : ER hb φ g s.heap env ρ)
    (k : ∀ v u s' φ' g', Rm n A s'.toks → Grow φ g s.heap φ' g' s'.heap → Sim hb C φ' σ₂ g' s'.heap → ER hb φ' g' s'.heap env ρ → Rest s s' → VR g' φ' v x → VR g' φ' u y → Q v u s') :
    wpAny (model prog C.w) A (eval l env) (fun v s₁ => wpAny (model prog C.w) A (eval r env) (fun u s₂ => Q v u s₂) E s₁) E s := by
  refine go hA (a A s φ g E hA S R) (fun v s₁ hA h₁ => ?_)
  obtain ⟨φ₁, g₁, G₁, S₁, V₁, T₁⟩ := h₁
  refine go hA (b A s₁ φ₁ g₁ E hA S₁ (R.grow G₁)) (fun u s₂ hA h₂ => ?_)
  obtain ⟨φ₂, g₂, G₂, S₂, V₂, T₂⟩ := h₂
  exact k v u s₂ φ₂ g₂ hA (G₁.trans G₂) S₂ ((R.grow G₁).grow G₂) (T₁.trans T₂) (V₁.mono G₂.mono G₂.pre) V₂

theorem bin_ok {l r : Expr} {op : Operator} {pos : Pos} {x y d : V} (a : EvOK prog hb C n env ρ σ l x σ₁) (b : EvOK prog hb C n env ρ σ₁ r y σ₂)
    (h : ∀ A s φ g E v u, Rm n A s.toks → Sim hb C φ σ₂ g s.heap → VR g φ v x → VR g φ u y → wpAny (model prog C.w) A (binaryOp op v u) (Post hb C φ g s σ₂ d) E s) : EvOK prog hb C n env ρ σ (.BinOp l op r pos) d σ₂ :=
  fun A s φ g E hA S R => wpAny_BinOp (two_ok a b hA S R fun v u s' φ' g' hA G' S' _ T' V' U' => wpAny_mono (h A s' φ' g' E v u hA S' V' U') (fun _ _ p => p.trans G' T') fun _ _ e => e)
theorem cmp_ok {l r : Expr} {op : CmpOp} {pos : Pos} {x y d : V} (a : EvOK prog hb C n env ρ σ l x σ₁) (b : EvOK prog hb C n env ρ σ₁ r y σ₂) (hm : behindInMarks op r = false)
    (h : ∀ A s φ g E v u, Rm n A s.toks → Sim hb C φ σ₂ g s.heap → VR g φ v x → VR g φ u y → wpAny (model prog C.w) A (compareOp op v u) (Post hb C φ g s σ₂ d) E s) : EvOK prog hb C n env ρ σ (.Compare l [op] [r] pos) d σ₂ :=
  fun A s φ g E hA S R => wpAny_Compare1 (two_ok a b hA S R fun v u s' φ' g' hA G' S' _ T' V' U' => wpAny_mono (h A s' φ' g' E v u hA S' V' U') (fun _ _ p => p.trans G' T') fun _ _ e => e) hm
theorem sub_ok {l r : Expr} {pos : Pos} {x y d : V} (a : EvOK prog hb C n env ρ σ l x σ₁) (b : EvOK prog hb C n env ρ σ₁ r y σ₂)
    (h : ∀ A s φ g E v u, Rm n A s.toks → Sim hb C φ σ₂ g s.heap → VR g φ v x → VR g φ u y → wpAny (model prog C.w) A (subscriptTail l r v u) (Post hb C φ g s σ₃ d) E s) : EvOK prog hb C n env ρ σ (.Subscript l r pos) d σ₃ :=
  fun A s φ g E hA S R => Subscript_ (two_ok a b hA S R fun v u s' φ' g' hA G' S' _ T' V' U' => wpAny_mono (h A s' φ' g' E v u hA S' V' U') (fun _ _ p => p.trans G' T') fun _ _ e => e)

theorem star_cons {e : Expr} {es : List Expr} {env : Env} (h : ∀ a p, e ≠ .Starred a p) : starEach (e :: es) env = (false, eval e env) :: starEach es env := by
  cases e <;> first | rfl | exact absurd rfl (h _ _)

theorem evs_nil : EvsOK prog hb C n env ρ σ [] [] σ := fun _ s φ g _ _ _ S _ => wpAny_pure ⟨φ, g, Grow.refl .., S, .nil, Rest.refl s⟩
theorem evs_cons {e : Expr} {es : List Expr} {d : V} {ds : List V} (hs : ∀ a p, e ≠ .Starred a p) (a : EvOK prog hb C n env ρ σ e d σ₁) (b : EvsOK prog hb C n env ρ σ₁ es ds σ₂) : EvsOK prog hb C n env ρ σ (e :: es) (d :: ds) σ₂ := by
  intro A s φ g E pos hA S R
  rw [star_cons hs]
  show wpAny _ A (spliced ((false, eval e env) :: backTo pos (starEach es env))) _ _ s
  rw [spliced]
  refine wpAny_bind (go hA (a A s φ g E hA S R) (fun v s₁ hA h₁ => ?_))
  obtain ⟨φ₁, g₁, G₁, S₁, V₁, T₁⟩ := h₁
  simp only [Bool.false_eq_true, if_false]
  refine wpAny_bind (wpAny_pure (wpAny_bind (wpAny_holding (go hA (b A s₁ φ₁ g₁ E pos hA S₁ (R.grow G₁)) (fun vs s₂ hA h₂ => ?_)))))
  obtain ⟨φ₂, g₂, G₂, S₂, V₂, T₂⟩ := h₂
  exact wpAny_pure ⟨φ₂, g₂, G₁.trans G₂, S₂, .cons (V₁.mono G₂.mono G₂.pre) V₂, T₁.trans T₂⟩

theorem newSeq_tuple {A : Around} {s : Shared} {φ : List Addr} {g : Part} {E : Value → Shared → Prop} {vs : List Value} {ds : List V} (S : Sim hb C φ σ g s.heap) (h : VRs g φ vs ds) (hl : ds.length ≤ 1000) : wpAny (model prog C.w) A (newTuple vs) (Post hb C φ g s σ (.tuple ds)) E s := by
  refine wpAny_newObj_type ?_ (by show vs.toArray.size ≤ sizeLine; rw [List.size_toArray, h.length]; exact Nat.le_trans hl (by decide))
  obtain ⟨S', G'⟩ := S.put (fresh_none s.heap) (Heap.get?_push_size _ (o := { cls := .type "tuple", data := .seq vs.toArray }) rfl) fun b o e => Heap.get?_push_of_some _ e
  exact ⟨φ, _, G', S', .tuple (by unfold putG; rw [if_pos rfl]) rfl rfl (h.mono G'.mono G'.pre), ⟨_, _, rfl⟩⟩
theorem newSeq_list {A : Around} {s : Shared} {φ : List Addr} {g : Part} {E : Value → Shared → Prop} {vs : List Value} {ds : List V} (S : Sim hb C φ σ g s.heap) (h : VRs g φ vs ds) (hl : ds.length ≤ 1000) : wpAny (model prog C.w) A (newList vs) (Post hb C φ g s σ (.list ds)) E s := by
  refine wpAny_newObj_type ?_ (by show vs.toArray.size ≤ sizeLine; rw [List.size_toArray, h.length]; exact Nat.le_trans hl (by decide))
  obtain ⟨S', G'⟩ := S.put (fresh_none s.heap) (Heap.get?_push_size _ (o := { cls := .type "list", data := .seq vs.toArray }) rfl) fun b o e => Heap.get?_push_of_some _ e
  exact ⟨φ, _, G', S', .list (by unfold putG; rw [if_pos rfl]) rfl rfl rfl (h.mono G'.mono G'.pre), ⟨_, _, rfl⟩⟩

theorem Sim.lst {s : Shared} {h' : Heap} {tk : Nat} {φ : List Addr} {g : Part} {a : Addr} {vs : List Value} {ds : List V} {own : Bool} {d : V} {σ' : Store} (S : Sim hb C φ σ g s.heap) (e : newL own ds σ = some (d, σ')) (hn : s.heap.get? a = none) (ha : h'.PlainList a vs.toArray) (hk : ∀ b o, s.heap.get? b = some o → h'.get? b = some o) (h : VRs g φ vs ds) :
    Post hb C φ g s σ' d (.ref a) { s with heap := h', toks := tk } := by
  unfold newL at e
  split at e
  · split at e
    · cases e
      obtain ⟨S', G'⟩ := S.more (x := .lst ds) hn hk ⟨vs, ha, h.mono (fun _ _ e => e) (List.prefix_append ..)⟩
      refine ⟨_, _, G', S', .own ?_, ⟨_, _, rfl⟩⟩
      rw [← S.len, List.getElem?_append_right (Nat.le_refl _)]; simp
    · cases e
      obtain ⟨m, ho⟩ := ha
      obtain ⟨S', G'⟩ := S.put hn ho hk
      exact ⟨φ, _, G', S', .list (by unfold putG; rw [if_pos rfl]) rfl rfl rfl (h.mono G'.mono G'.pre), ⟨_, _, rfl⟩⟩
  · cases e

theorem tuple_ok {es : List Expr} {k : Nat} {pos : Pos} {ds : List V} (a : EvsOK prog hb C n env ρ σ es ds σ₁) (hl : ds.length ≤ 1000) : EvOK prog hb C n env ρ σ (.Tuple es k pos) (.tuple ds) σ₁ := by
  intro A s φ g E hA S R
  refine Tuple_ (go hA (a A s φ g E pos hA S R) (fun vs s₁ hA h₁ => ?_))
  obtain ⟨φ₁, g₁, G₁, S₁, V₁, T₁⟩ := h₁
  exact wpAny_mono (newSeq_tuple S₁ V₁ hl) (fun _ _ p => p.trans G₁ T₁) fun _ _ e => e
theorem newL_len {own : Bool} {ds : List V} {d : V} {σ' : Store} (e : newL own ds σ = some (d, σ')) : ds.length ≤ 1000 := by
  unfold newL at e; split at e
  · assumption
  · cases e
theorem list_ok {es : List Expr} {pos : Pos} {ds : List V} {own : Bool} {d : V} (a : EvsOK prog hb C n env ρ σ es ds σ₁) (e : newL own ds σ₁ = some (d, σ₂)) : EvOK prog hb C n env ρ σ (.List es pos) d σ₂ := by
  intro A s φ g E hA S R
  refine List_ (go hA (a A s φ g E pos hA S R) (fun vs s₁ hA h₁ => ?_))
  obtain ⟨φ₁, g₁, G₁, S₁, V₁, T₁⟩ := h₁
  refine wpAny_newObj_type ?_ (by show vs.toArray.size ≤ sizeLine; rw [List.size_toArray, V₁.length]; exact Nat.le_trans (newL_len e) (by decide))
  refine Post.trans G₁ T₁ (S₁.lst (tk := s₁.toks) e (fresh_none _) ⟨_, Heap.get?_push_size _ rfl⟩ (fun b o e => Heap.get?_push_of_some _ e) V₁)
end
end Mine

namespace Mine
set_option maxHeartbeats 4000000 in
open PySem.Builtin PySem.Builtin.Str in
theorem fmtB {a b : Str} {p : Addr} {t t1 t2 : Tok} (ha : a.length ≤ 1000000) (hb : b.length ≤ 1000000) : Meets (PySem.Builtin.«str.__mod__» ⟨[.str ⟨#[37, 115, 58, 32, 37, 115]⟩ t, .ref p], []⟩) (fun _ R s => IsTup s.heap p #[.str a t1, .str b t2] ∧ ∀ t' k, R (.ok (.ret (.str (a ++ Str.ofString ": " ++ b) t'))) { s with toks := k }) := by kpt_run

end Mine

namespace Mine

section
variable {prog : Program} {hb : Heap} {C : Cx} {n : Nat} {σ : Store} {A : Around} {s : Shared} {φ : List Addr} {g : Part} {E : Value → Shared → Prop}

theorem lst_plain {d : V} {v : Value} {ds : List V} (S : Sim hb C φ σ g s.heap) (h : VR g φ v d) (e : lstOf σ d = some ds) :
    ∃ a o, ∃ vs : List Value, ∃ n, v = .ref a ∧ s.heap.get? a = some o ∧ o.cls = .type "list" ∧ o.data = .seq vs.toArray n ∧ o.dict = none ∧ VRs g φ vs ds := by
  rcases lstOf_inv e with rfl | ⟨k, rfl, q⟩
  · obtain ⟨a, o, vs, n, h0, h1, h2, h3, h4, h5⟩ := h.ofList
    exact ⟨a, o, vs, n, h0, S.keep _ _ h1, h2, h3, h4, h5⟩
  · obtain ⟨a, h0, hk⟩ := h.ofOwn
    obtain ⟨vs, ⟨m, hl⟩, hr⟩ := S.own _ _ _ hk q
    exact ⟨a, _, vs, m, h0, hl, rfl, rfl, rfl, hr⟩
theorem lst_at {d : V} {v : Value} {ds : List V} (S : Sim hb C φ σ g s.heap) (h : VR g φ v d) (e : lstOf σ d = some ds) : ∃ a, ∃ vs : List Value, v = .ref a ∧ s.heap.IsList a vs.toArray ∧ VRs g φ vs ds :=
  let ⟨a, o, vs, n, h0, h1, h2, h3, _, h5⟩ := lst_plain S h e
  ⟨a, vs, h0, ⟨o, h1, h2, n, h3⟩, h5⟩
theorem tup_at {v : Value} {ds : List V} (S : Sim hb C φ σ g s.heap) (h : VR g φ v (.tuple ds)) : ∃ a, ∃ vs : List Value, v = .ref a ∧ IsTup s.heap a vs.toArray ∧ VRs g φ vs ds :=
  let ⟨a, o, vs, n, h0, h1, h2, h3, h5⟩ := h.ofTup
  ⟨a, vs, h0, ⟨o, S.keep _ _ h1, h2, n, h3⟩, h5⟩
theorem seq_at {d : V} {v : Value} {ds : List V} (S : Sim hb C φ σ g s.heap) (h : VR g φ v d) (e : seqOf σ d = some ds) : ∃ a, ∃ vs : List Value, v = .ref a ∧ (s.heap.IsList a vs.toArray ∨ IsTup s.heap a vs.toArray) ∧ VRs g φ vs ds := by
  rcases Option.or_eq_some_iff.mp e with e | ⟨-, e⟩
  · obtain ⟨a, vs, h0, h1, h2⟩ := lst_at S h e; exact ⟨a, vs, h0, .inl h1, h2⟩
  · obtain ⟨ws, rfl, e1⟩ := tupK_inv e
    cases e1
    obtain ⟨a, vs, h0, h1, h2⟩ := tup_at S h; exact ⟨a, vs, h0, .inr h1, h2⟩

theorem lst_of_thawed {d : V} {ds : List V} (e : thawed σ d = .list ds) : lstOf σ d = some ds := by
  rcases thawed_inv (σ := σ) (v := d) with q | ⟨k, vs, rfl, h, q⟩
  · rw [← q, e]; rfl
  · cases e.symm.trans q
    exact lstK_at h

theorem add_lst {x y : V} {v u : Value} {xs ys : List V} (S : Sim hb C φ σ g s.heap) (hv : VR g φ v x) (hu : VR g φ u y) (ex : lstOf σ x = some xs) (ey : lstOf σ y = some ys) (hl : xs.length + ys.length ≤ 1000) :
    wpAny (model prog C.w) A (binaryOp .Add v u) (Post hb C φ g s σ (.list (xs ++ ys))) E s := by
  obtain ⟨l, ⟨_, dd, _, sl⟩, vs, m, rfl, ho, rfl, rfl, -, r1⟩ := lst_plain S hv ex
  obtain ⟨b, ⟨_, dd2, _, sl2⟩, ws, m2, rfl, ho2, rfl, rfl, -, r2⟩ := lst_plain S hu ey
  refine concat_meets ⟨_, ho, rfl⟩ ⟨_, ho2, rfl⟩ noFill_list_add seq_list_add PySem.F.slot_list_add PySem.F.entry_list_add (PySem.F.args_list_add_2 _ _)
    (list_addW l b vs.toArray ws.toArray m m2 dd dd2 sl sl2 (by rw [List.size_toArray, List.size_toArray, r1.length, r2.length]; exact Nat.le_trans hl (by decide))) ⟨ho, ho2, ?_⟩
  rw [show vs.toArray ++ ws.toArray = (vs ++ ws).toArray from List.append_toArray ..]
  obtain ⟨S', G'⟩ := S.put (fresh_none s.heap) (Heap.get?_push_size _ (o := { cls := .type "list", data := .seq (vs ++ ws).toArray }) rfl) fun b o e => Heap.get?_push_of_some _ e
  exact ⟨φ, _, G', S', .list (if_pos rfl) rfl rfl rfl ((r1.append r2).mono G'.mono G'.pre), ⟨_, _, rfl⟩⟩

theorem strV_len (x : List Nat) : (strV x).length = x.length := by show x.toArray.size = _; rw [List.size_toArray]
theorem strV_append (x y : List Nat) : strV x ++ strV y = strV (x ++ y) := by
  show Str.append _ _ = _
  simp [Str.append, strV]
theorem len_add {a b : List Nat} (h : a.length + b.length ≤ 1000000) : (strV a).length + (strV b).length ≤ sizeLine := by rw [strV_len, strV_len]; exact Nat.le_trans h (by decide)
theorem twoI {x y : V} {v u : Value} {α : Type} {f : Int → Int → Option α} {d : α} (hv : VR g φ v x) (hu : VR g φ u y) (e : (intK x fun a => intK y fun b => f a b) = some d) : ∃ a b t t', v = .int a t ∧ u = .int b t' ∧ f a b = some d := by
  obtain ⟨a, rfl, h1⟩ := intK_inv e
  obtain ⟨b, rfl, h2⟩ := intK_inv h1
  obtain ⟨t, e1⟩ := hv.ofInt
  obtain ⟨t', e2⟩ := hu.ofInt
  exact ⟨a, b, t, t', e1, e2, h2⟩
theorem twoS {x y : V} {v u : Value} {α : Type} {f : List Nat → List Nat → Option α} {d : α} (hv : VR g φ v x) (hu : VR g φ u y) (e : (strK x fun a => strK y fun b => f a b) = some d) : ∃ a b t t', v = .str (strV a) t ∧ u = .str (strV b) t' ∧ f a b = some d := by
  obtain ⟨a, rfl, h1⟩ := strK_inv e
  obtain ⟨b, rfl, h2⟩ := strK_inv h1
  obtain ⟨t, e1⟩ := hv.ofStr
  obtain ⟨t', e2⟩ := hu.ofStr
  exact ⟨a, b, t, t', e1, e2, h2⟩
theorem ite_some {c : Prop} [Decidable c] {α : Type} {x : Option α} {d : α} (h : (if c then x else none) = some d) : c ∧ x = some d := by
  by_cases q : c
  · rw [if_pos q] at h; exact ⟨q, h⟩
  · rw [if_neg q] at h; cases h
theorem ite_none {c : Prop} [Decidable c] {α : Type} {x : Option α} {d : α} (h : (if c then none else x) = some d) : ¬ c ∧ x = some d := by
  by_cases q : c
  · rw [if_pos q] at h; cases h
  · rw [if_neg q] at h; exact ⟨q, h⟩
theorem fmt_run {F : Str} {its : Array Value} {T : Str} {p : Addr} {t : Tok} {Q : Value → Shared → Prop} (hm : Meets (PySem.Builtin.«str.__mod__» ⟨[.str F t, .ref p], []⟩) (fun _ R s => IsTup s.heap p its ∧ ∀ t' k, R (.ok (.ret (.str T t'))) { s with toks := k }))
    (ht : IsTup s.heap p its) (q : ∀ t' k, Q (.str T t') { s with toks := k }) : wpAny (model prog C.w) A (binaryOp .Mod (.str F t) (.ref p)) Q E s := by
  have hT : s.TypeIs (.ref p) "tuple" := by
    obtain ⟨o, ho, hc, _⟩ := ht
    exact ⟨o, ho, hc⟩
  exact KPt.bin_left (T := "str") (U := "tuple") (op := .Mod) (by decide) (typeIs_str s F t) hT PySem.F.fills_str_mod KPt.fills_tuple PySem.F.slot_str_mod
    (call_meets PySem.F.slot_str_mod (typeIs_str s F t) PySem.F.entry_str_mod (PySem.F.args_str_mod_2 _ _) hm ⟨ht, fun t' k => ⟨(fun e => nomatch e), q t' k⟩⟩)
theorem fmt_op {f a b z : List Nat} {p : Addr} {t t1 t2 : Tok} {Q : Value → Shared → Prop} (e : fmt2 f a b = some z) (ha : a.length ≤ 100000) (hb : b.length ≤ 100000) (ht : IsTup s.heap p [Value.str (strV a) t1, .str (strV b) t2].toArray)
    (q : ∀ t' k, Q (.str (strV z) t') { s with toks := k }) : wpAny (model prog C.w) A (binaryOp .Mod (.str (strV f) t) (.ref p)) Q E s := by
  have la : (strV a).length ≤ 1000000 := by rw [strV_len]; exact Nat.le_trans ha (by decide)
  have lb : (strV b).length ≤ 1000000 := by rw [strV_len]; exact Nat.le_trans hb (by decide)
  obtain ⟨hf, e⟩ := ite_some (show (if f = [37, 115, 58, 32, 37, 115] then some (a ++ [58, 32] ++ b) else none) = some z from e)
  cases e; subst hf
  refine fmt_run (fmtB la lb) ht fun t' k => ?_
  have : strV a ++ Str.ofString ": " ++ strV b = strV (a ++ [58, 32] ++ b) := by
    rw [← strV_append, ← strV_append]; rfl
  rw [this]; exact q t' k
theorem mulT_ok {x z : List Nat} {n : Int} (e : mulT x n = some z) : Txt.mul (strV x) n = strV z ∧ 0 ≤ n ∧ n ≤ 2 := by
  unfold mulT at e
  split at e
  · rename_i h; cases e; subst h; exact ⟨rfl, by decide, by decide⟩
  split at e
  · rename_i h; cases e; subst h; exact ⟨rfl, by decide, by decide⟩
  obtain ⟨rfl, e⟩ := ite_some e
  cases e
  refine ⟨?_, by decide, by decide⟩
  cases x with
  | nil => rfl
  | cons c r =>
    show (⟨#[] ++ (c :: r).toArray ++ (c :: r).toArray⟩ : Str) = ⟨(c :: r ++ c :: r).toArray⟩
    rw [Array.empty_append, List.append_toArray]
theorem bin_add {x y d : V} {v u : Value} (e : binV σ .Add x y = some d) (S : Sim hb C φ σ g s.heap) (hv : VR g φ v x) (hu : VR g φ u y) : wpAny (model prog C.w) A (binaryOp .Add v u) (Post hb C φ g s σ d) E s := by
  rcases Option.or_eq_some_iff.mp e with e | ⟨-, e⟩
  · rcases Option.or_eq_some_iff.mp e with e | ⟨-, e⟩
    · obtain ⟨a, b, t, t', rfl, rfl, e⟩ := twoI hv hu e
      cases e; exact add_int (Post.here S (.int _ _) _)
    · obtain ⟨xs, h1, e⟩ := listK_inv e
      obtain ⟨ys, h2, e⟩ := listK_inv e
      obtain ⟨hl, e⟩ := ite_some e
      cases e; exact add_lst S hv hu (lst_of_thawed h1) (lst_of_thawed h2) hl
  · obtain ⟨a, b, t, t', rfl, rfl, e⟩ := twoS hv hu e
    obtain ⟨hl, e⟩ := ite_some e
    cases e
    refine SB.add (fun t' k => ?_) (len_add hl)
    rw [strV_append]; exact Post.here S (.str _ _) _
theorem bin_mod {x y d : V} {v u : Value} (e : binV σ .Mod x y = some d) (S : Sim hb C φ σ g s.heap) (hv : VR g φ v x) (hu : VR g φ u y) : wpAny (model prog C.w) A (binaryOp .Mod v u) (Post hb C φ g s σ d) E s := by
  rcases Option.or_eq_some_iff.mp e with e | ⟨-, e⟩
  · obtain ⟨a, b, t, t', rfl, rfl, e⟩ := twoI hv hu e
    obtain ⟨hb', e⟩ := ite_none e
    cases e; exact mod_int hb' (Post.here S (.int _ _) _)
  · obtain ⟨f, rfl, e⟩ := strK_inv e
    obtain ⟨vs, rfl, e⟩ := tupK_inv e
    obtain ⟨p, q, rfl, e⟩ := two2_inv e
    obtain ⟨t, rfl⟩ := hv.ofStr
    obtain ⟨r, ws, rfl, ht, hr⟩ := tup_at S hu
    obtain ⟨u1, u2, rfl, h1, h2⟩ := hr.inv2
    obtain ⟨a, b, t1, t2, rfl, rfl, e⟩ := twoS h1 h2 e
    obtain ⟨hl, e⟩ := ite_some e
    obtain ⟨z, hz, rfl⟩ := Option.map_eq_some_iff.mp e
    exact fmt_op hz hl.1 hl.2 ht fun t' k => Post.here S (.str _ _) _
theorem bin_op {op : Operator} {x y d : V} {v u : Value} (e : binV σ op x y = some d) (S : Sim hb C φ σ g s.heap) (hv : VR g φ v x) (hu : VR g φ u y) : wpAny (model prog C.w) A (binaryOp op v u) (Post hb C φ g s σ d) E s := by
  cases op with
  | Add => exact bin_add e S hv hu
  | Mod => exact bin_mod e S hv hu
  | Sub =>
    obtain ⟨a, b, t, t', rfl, rfl, e⟩ := twoI hv hu e
    cases e; exact sub_int (Post.here S (.int _ _) _)
  | Mult =>
    obtain ⟨a, rfl, e⟩ := strK_inv e
    obtain ⟨b, rfl, e⟩ := intK_inv e
    obtain ⟨t, rfl⟩ := hv.ofStr
    obtain ⟨t', rfl⟩ := hu.ofInt
    obtain ⟨hl, e⟩ := ite_some e
    obtain ⟨z, hz, rfl⟩ := Option.map_eq_some_iff.mp e
    obtain ⟨h1, h2, h3⟩ := mulT_ok hz
    refine SB.mul (mulOk_of 16 1048576 (by rw [strV_len]; exact hl) (Int.le_trans h3 (by decide)) (Int.le_trans (by decide) h2) (by decide) (by decide)) fun t' k => ?_
    rw [h1]; exact Post.here S (.str _ _) _
  | FloorDiv =>
    obtain ⟨a, b, t, t', rfl, rfl, e⟩ := twoI hv hu e
    obtain ⟨hb', e⟩ := ite_none e
    cases e
    exact floordiv_int (fun q => hb' (.inl q)) (Post.here S (.int _ _) _) (.inl (PyProof.noPylong_small (by omega)))
  | _ => cases e
end

mutual
noncomputable def toPy : V → PyData
  | .none => .none
  | .bool b => .bool b
  | .int i => .int i
  | .str x => .str (strV x)
  | .tuple vs => .tuple (toPys vs)
  | .list vs => .list (toPys vs)
  | _ => .none
noncomputable def toPys : List V → List PyData
  | [] => []
  | v :: r => toPy v :: toPys r
end
mutual
theorem toPy_lay : ∀ (v : V), v.plain = true → (toPy v).canLay0 = true ∧ (toPy v).depth ≤ v.deep + 1
  | .none, _ => by simp [toPy, PyData.canLay0, PyData.depth]
  | .bool _, h => by simp [V.plain] at h
  | .int _, _ => by simp [toPy, PyData.canLay0, PyData.depth]
  | .str x, h => by
    simp only [V.plain] at h
    refine ⟨?_, by simp [toPy, PyData.depth]⟩
    show (strV x).cps.all (· < 0x110000) = true
    rw [← h]; simp [strV]
  | .tuple vs, h => by
    have := toPys_lay vs (by simpa [V.plain] using h)
    simp only [toPy, PyData.canLay0, PyData.depth, V.deep, this.1, true_and]
    have := this.2; omega
  | .list vs, h => by
    have := toPys_lay vs (by simpa [V.plain] using h)
    simp only [toPy, PyData.canLay0, PyData.depth, V.deep, this.1, true_and]
    have := this.2; omega
  | .own _, h => by simp [V.plain] at h
  | .gl _, h => by simp [V.plain] at h
  | .ty _, h => by simp [V.plain] at h
  | .rng .., h => by simp [V.plain] at h
  | .items _, h => by simp [V.plain] at h
  | .bytes _, h => by simp [V.plain] at h
theorem toPys_lay : ∀ (vs : List V), V.plains vs = true → PyData.canLayAll0 (toPys vs) = true ∧ PyData.depthAll (toPys vs) ≤ V.deeps vs + 1
  | [], _ => by simp [toPys, PyData.canLayAll0, PyData.depthAll]
  | v :: r, h => by
    simp only [V.plains, Bool.and_eq_true] at h
    have h1 := toPy_lay v h.1
    have h2 := toPys_lay r h.2
    simp only [toPys, PyData.canLayAll0, PyData.depthAll, V.deeps, h1.1, h2.1, Bool.and_self, true_and]
    have := h1.2; have := h2.2; omega
end
theorem strV_inj {x y : List Nat} : (strV x == strV y) = (x == y) := by
  rw [Bool.eq_iff_iff]; simp [strV]
mutual
theorem toPy_eqv : ∀ (v u : V), v.plain = true → u.plain = true → PyData.eqv (toPy v) (toPy u) = V.eqb v u
  | .none, u, _, h => by cases u <;> first | rfl | cases h
  | .bool _, _, h, _ => by cases h
  | .int _, u, _, h => by cases u <;> first | rfl | cases h
  | .str _, u, _, h => by cases u <;> first | rfl | (cases h; done) | exact strV_inj
  | .tuple vs, u, h, h' => by
    cases u with
    | tuple us => exact toPys_eqv vs us h h'
    | _ => first | rfl | cases h'
  | .list vs, u, h, h' => by
    cases u with
    | list us => exact toPys_eqv vs us h h'
    | _ => first | rfl | cases h'
  | .own _, _, h, _ => by cases h
  | .gl _, _, h, _ => by cases h
  | .ty _, _, h, _ => by cases h
  | .rng .., _, h, _ => by cases h
  | .items _, _, h, _ => by cases h
  | .bytes _, _, h, _ => by cases h
theorem toPys_eqv : ∀ (vs us : List V), V.plains vs = true → V.plains us = true → PyData.eqvAll (toPys vs) (toPys us) = V.eqbs vs us
  | [], us, _, _ => by cases us <;> rfl
  | v :: r, us, h, h' => by
    cases us with
    | nil => rfl
    | cons u q =>
      have h : (v.plain && V.plains r) = true := h
      have h' : (u.plain && V.plains q) = true := h'
      rw [Bool.and_eq_true] at h h'
      show (PyData.eqv (toPy v) (toPy u) && PyData.eqvAll (toPys r) (toPys q)) = (V.eqb v u && V.eqbs r q)
      rw [toPy_eqv v u h.1 h'.1, toPys_eqv r q h.2 h'.2]
end
mutual
theorem VR.reads {g : Part} {φ : List Addr} {h : Heap} (hk : ∀ a o, g a = some o → h.get? a = some o) : ∀ {d : V} {v : Value}, VR g φ v d → d.plain = true → ∃ as, Reads h v (toPy d) as
  | .none, _, r, _ => by cases r; exact ⟨_, .none⟩
  | .bool _, _, _, e => absurd e nofun
  | .int i, _, r, _ => by obtain ⟨t, rfl⟩ := r.ofInt; exact ⟨_, .int i t⟩
  | .str x, _, r, _ => by obtain ⟨t, rfl⟩ := r.ofStr; exact ⟨_, .str (strV x) t⟩
  | .tuple ds, _, r, e => by
    obtain ⟨a, o, vs, n, rfl, ho, hc, hd, hr⟩ := r.ofTup
    obtain ⟨as, q⟩ := VRs.reads hk hr e
    exact ⟨as, reads_tuple_at (hk _ _ ho) hc hd q⟩
  | .list ds, _, r, e => by
    obtain ⟨a, o, vs, n, rfl, ho, hc, hd, _, hr⟩ := r.ofList
    obtain ⟨as, q⟩ := VRs.reads hk hr e
    exact ⟨_, reads_list_at (hk _ _ ho) hc hd q⟩
  | .own _, _, _, e => absurd e nofun
  | .gl _, _, _, e => absurd e nofun
  | .ty _, _, _, e => absurd e nofun
  | .rng _, _, _, e => absurd e nofun
  | .items _, _, _, e => absurd e nofun
  | .bytes _, _, _, e => absurd e nofun
theorem VRs.reads {g : Part} {φ : List Addr} {h : Heap} (hk : ∀ a o, g a = some o → h.get? a = some o) : ∀ {ds : List V} {vs : List Value}, VRs g φ vs ds → V.plains ds = true → ∃ as, ReadsAll h vs (toPys ds) as
  | [], _, r, _ => by rw [r.inv0]; exact ⟨_, .nil⟩
  | d :: ds, _, r, e => by
    obtain ⟨v, ws, rfl, h1, h2⟩ := r.inv
    obtain ⟨e1, e2⟩ := Bool.and_eq_true_iff.mp (show (d.plain && V.plains ds) = true from e)
    obtain ⟨as, q⟩ := VR.reads hk h1 e1
    obtain ⟨bs, p⟩ := VRs.reads hk h2 e2
    exact ⟨_, .cons q p⟩
end

section
variable {prog : Program} {hb : Heap} {C : Cx} {n : Nat} {σ : Store} {A : Around} {s : Shared} {φ : List Addr} {g : Part} {E : Value → Shared → Prop}

theorem reads_thawed {d : V} {v : Value} (S : Sim hb C φ σ g s.heap) (h : VR g φ v d) (hp : (thawed σ d).plain = true) : ∃ as, Reads s.heap v (toPy (thawed σ d)) as := by
  rcases thawed_inv (σ := σ) (v := d) with q | ⟨k, vs, rfl, h1, q⟩
  · rw [q] at hp ⊢; exact h.reads S.keep hp
  · rw [q] at hp ⊢
    obtain ⟨a, o, ws, m, rfl, ho, hc, hd, _, hr⟩ := lst_plain S h (lstK_at h1)
    obtain ⟨as, q⟩ := hr.reads S.keep hp
    exact ⟨_, reads_list_at ho hc hd q⟩

theorem shaped_of {d : V} (hp : d.plain = true) (hd : d.deep ≤ 8) : SeqAt.shaped (toPy d) = true := by
  have := toPy_lay d hp
  unfold SeqAt.shaped
  rw [this.1, Bool.true_and]
  exact decide_eq_true (by have := this.2; omega)

theorem byt_inj {x y : List Nat} (hx : ∀ c ∈ x, c < 256) (hy : ∀ c ∈ y, c < 256) : ((bytV x).toList == (bytV y).toList) = (x == y) := by
  have : ∀ {x y : List Nat}, (∀ c ∈ x, c < 256) → (∀ c ∈ y, c < 256) → (x.map UInt8.ofNat == y.map UInt8.ofNat) = (x == y) := by
    intro x
    induction x with
    | nil => intro y _ _; cases y <;> rfl
    | cons a r ih =>
      intro y hx hy
      cases y with
      | nil => rfl
      | cons b q =>
        show (UInt8.ofNat a == UInt8.ofNat b && (r.map UInt8.ofNat == q.map UInt8.ofNat)) = (a == b && r == q)
        rw [ih (fun c m => hx c (.tail _ m)) fun c m => hy c (.tail _ m)]
        congr 1
        have ha := hx a (.head _)
        have hb := hy b (.head _)
        rw [Bool.eq_iff_iff, beq_iff_eq, beq_iff_eq]
        refine ⟨fun e => ?_, fun e => by rw [e]⟩
        have e := congrArg UInt8.toNat e
        rwa [UInt8.toNat_ofNat', UInt8.toNat_ofNat', Nat.mod_eq_of_lt ha, Nat.mod_eq_of_lt hb] at e
  unfold bytV
  exact this hx hy
theorem and2 {a b : Bool} (h : (a && b) = true) : a = true ∧ b = true := Bool.and_eq_true_iff.mp h
theorem and4 {a b c d : Bool} (h : (a && b && c && d) = true) : a = true ∧ b = true ∧ c = true ∧ d = true :=
  let ⟨h, h4⟩ := and2 h; let ⟨h, h3⟩ := and2 h; let ⟨h1, h2⟩ := and2 h; ⟨h1, h2, h3, h4⟩
theorem eq_pre {x y : V} {v u : Value} {b : Bool} (e : eqV (thawed σ x) (thawed σ y) = some b) (hA : Rm n A s.toks) (S : Sim hb C φ σ g s.heap) (hv : VR g φ v x) (hu : VR g φ u y) : ∃ dx dy as bs, Reads s.heap v dx as ∧ Reads s.heap u dy bs ∧ SeqAt.shaped dx = true ∧ SeqAt.shaped dy = true ∧ A.units + 64 < cLine ∧ PyData.eqv dx dy = b := by
  obtain ⟨hp, e⟩ := ite_some e
  obtain ⟨p1, p2, d1, d2⟩ := and4 hp
  cases e
  obtain ⟨as, r1⟩ := reads_thawed S hv p1
  obtain ⟨bs, r2⟩ := reads_thawed S hu p2
  exact ⟨_, _, as, bs, r1, r2, shaped_of p1 (of_decide_eq_true d1), shaped_of p2 (of_decide_eq_true d2), by have := hA.units; omega, toPy_eqv _ _ p1 p2⟩
theorem any_eqv : ∀ (vs : List V) (x : V), V.plains vs = true → x.plain = true → ((toPys vs).any fun y => PyData.eqv y (toPy x)) = vs.any fun y => V.eqb y x
  | [], _, _, _ => rfl
  | v :: r, x, h, hx => by
    simp only [V.plains, Bool.and_eq_true] at h
    simp only [toPys, List.any_cons, toPy_eqv v x h.1 hx, any_eqv r x h.2 hx]
theorem in_pre {x : V} {vs : List V} {v u : Value} {b : Bool} (e : inV x vs = some b) (hA : Rm n A s.toks) (S : Sim hb C φ σ g s.heap) (hv : VR g φ v x) (hu : VR g φ u (.list vs)) :
    ∃ ds d as bs, Reads s.heap u (.list ds) as ∧ Reads s.heap v d bs ∧ PyData.canLayAll0 ds = true ∧ d.canLay0 = true ∧ A.units + 1 + min (PyData.depthAll ds) d.depth < cLine ∧ (ds.any fun y => PyData.eqv y d) = b := by
  obtain ⟨hp, e⟩ := ite_some e
  obtain ⟨p1, p2, d1, d2⟩ := and4 hp
  cases e
  obtain ⟨as, r1⟩ := hu.reads S.keep p2
  obtain ⟨bs, r2⟩ := hv.reads S.keep p1
  have l2 := toPy_lay x p1
  refine ⟨toPys vs, toPy x, as, bs, r1, r2, (toPys_lay vs p2).1, l2.1, ?_, any_eqv vs x p2 p1⟩
  have h1 := hA.units
  have h2 := Nat.min_le_right (PyData.depthAll (toPys vs)) (toPy x).depth
  have h3 := l2.2
  have h4 := of_decide_eq_true d1
  omega
theorem vr_kind {x : V} {v : Value} (hv : VR g φ v x) : handedIn v = true ∧ plainIs v .none = true ∧ (v == .none) = x.isNone := by
  cases x <;> first | (obtain ⟨_, rfl, _⟩ := hv; exact ⟨rfl, rfl, rfl⟩) | (obtain ⟨_, rfl⟩ := hv; exact ⟨rfl, rfl, rfl⟩) | (cases hv; exact ⟨rfl, rfl, rfl⟩) | (obtain ⟨_, _, _, _, rfl, _⟩ := hv; exact ⟨rfl, rfl, rfl⟩) | (obtain ⟨_, _, rfl, _⟩ := hv; exact ⟨rfl, rfl, rfl⟩)
theorem is_op {x y : V} {v u : Value} {b : Bool} (e : isV x y = some b) (hv : VR g φ v x) (hu : VR g φ u y) : plainIs v u = true ∧ (v == u) = b := by
  unfold isV at e
  split at e
  · rename_i h
    cases vNone_inv h
    cases hu
    cases e
    exact (vr_kind hv).2
  · obtain ⟨a, rfl, e1⟩ := tyK_inv e
    obtain ⟨c, rfl, e2⟩ := tyK_inv e1
    cases e2; cases hv; cases hu
    refine ⟨rfl, ?_⟩
    rw [Bool.eq_iff_iff]; simp
theorem in_op {x y : V} {v u : Value} {b : Bool} (e : memV x y = some b) (hA : Rm n A s.toks) (S : Sim hb C φ σ g s.heap) (hv : VR g φ v x) (hu : VR g φ u y) {Q : Value → Shared → Prop} :
    (Q (.bool b) s → wpAny (model prog C.w) A (compareOp .In v u) Q E s) ∧ (Q (.bool !b) s → wpAny (model prog C.w) A (compareOp .NotIn v u) Q E s) := by
  rcases Option.or_eq_some_iff.mp e with e | ⟨-, e⟩
  · obtain ⟨vs, rfl, e⟩ := listK_inv e
    obtain ⟨ds, d, as, bs, r1, r2, l1, l2, l3, rfl⟩ := in_pre e hA S hv hu
    exact ⟨SeqAt.in_list_reads r1 r2 l1 l2 l3, SeqAt.notIn_list_reads r1 r2 l1 l2 l3⟩
  · obtain ⟨a, b, t, t', rfl, rfl, e⟩ := twoS hu hv e
    cases e
    exact ⟨P.in_str, P.notIn_str⟩
theorem cmp_op {op : CmpOp} {x y d : V} {v u : Value} (e : cmpV σ op x y = some d) (hA : Rm n A s.toks) (S : Sim hb C φ σ g s.heap) (hv : VR g φ v x) (hu : VR g φ u y) : wpAny (model prog C.w) A (compareOp op v u) (Post hb C φ g s σ d) E s := by
  have fin : ∀ b, Post hb C φ g s σ (.bool b) (.bool b) s := fun b => Post.here S (.bool b) s.toks
  cases op with
  | Eq =>
    obtain ⟨b, e1, rfl⟩ := Option.map_eq_some_iff.mp e
    rcases Option.or_eq_some_iff.mp e1 with e2 | ⟨-, e2⟩
    · obtain ⟨xs, rfl, e3⟩ := bytK_inv e2
      obtain ⟨ys, rfl, e4⟩ := bytK_inv e3
      cases e4
      obtain ⟨t, rfl, hx⟩ := hv.ofByt
      obtain ⟨t', rfl, hy⟩ := hu.ofByt
      refine eq_bytes ?_
      rw [byt_inj hx hy]; exact fin _
    · obtain ⟨dx, dy, as, bs, r1, r2, h1, h2, h3, rfl⟩ := eq_pre e2 hA S hv hu
      exact eq_dataH r1 r2 h1 h2 h3 (fin _)
  | NotEq =>
    obtain ⟨b, e1, rfl⟩ := Option.map_eq_some_iff.mp e
    obtain ⟨dx, dy, as, bs, r1, r2, h1, h2, h3, rfl⟩ := eq_pre e1 hA S hv hu
    exact ne_dataH r1 r2 h1 h2 h3 (fin _)
  | Lt => obtain ⟨i, j, t, t', rfl, rfl, e1⟩ := twoI hv hu e; cases e1; exact lt_int (fin _)
  | Gt => obtain ⟨i, j, t, t', rfl, rfl, e1⟩ := twoI hv hu e; cases e1; exact gt_int (fin _)
  | GtE => obtain ⟨i, j, t, t', rfl, rfl, e1⟩ := twoI hv hu e; cases e1; exact ge_int (fin _)
  | In =>
    obtain ⟨b, e1, rfl⟩ := Option.map_eq_some_iff.mp e
    exact (in_op e1 hA S hv hu).1 (fin b)
  | NotIn =>
    obtain ⟨b, e1, rfl⟩ := Option.map_eq_some_iff.mp e
    exact (in_op e1 hA S hv hu).2 (fin _)
  | Is =>
    obtain ⟨b, e1, rfl⟩ := Option.map_eq_some_iff.mp e
    obtain ⟨h1, rfl⟩ := is_op e1 hv hu
    exact wpAny_is_plain h1 (fin _)
  | IsNot =>
    obtain ⟨b, e1, rfl⟩ := Option.map_eq_some_iff.mp e
    obtain ⟨h1, rfl⟩ := is_op e1 hv hu
    exact wpAny_isNot_plain h1 (fin _)
  | _ => cases e
end
end Mine

namespace Mine

section
variable {prog : Program} {hb : Heap} {C : Cx} {n : Nat} {σ : Store} {A : Around} {s : Shared} {φ : List Addr} {g : Part} {E : Value → Shared → Prop}

theorem Grow.same {h h' : Heap} (hk : ∀ b o, h.get? b = some o → h'.get? b = some o) : Grow φ g h φ g h' :=
  ⟨List.prefix_refl _, fun _ _ e => e, fun _ _ e => .inl e, fun _ e => .inl e, fun b o e _ => hk b o e, fun b o e => ⟨o, hk b o e⟩⟩
theorem seqAt_some {α : Type} {vs : List α} {k : Int} {x : α} (e : seqAt vs k = some x) : -1000000 ≤ k ∧ k ≤ 1000000 ∧ ∃ j, seqIndex? k vs.length = some j ∧ vs[j]? = some x := by
  unfold seqAt at e
  split at e
  · rename_i h
    obtain ⟨j, h1, h2⟩ := Option.bind_eq_some_iff.mp e
    exact ⟨h.1, h.2, j, h1, h2⟩
  · cases e
theorem seqIndex_cases {k : Int} {len j : Nat} (e : seqIndex? k len = some j) : (0 ≤ k ∧ j = k.toNat ∧ j < len) ∨ (k < 0 ∧ -(len : Int) ≤ k ∧ j = (k + len).toNat ∧ j < len) := by
  unfold seqIndex? at e
  by_cases hk : k < 0
  · simp only [hk, if_true] at e
    split at e
    · rename_i h
      simp only [Bool.and_eq_true, decide_eq_true_eq] at h
      cases e
      exact .inr ⟨hk, by omega, rfl, by omega⟩
    · cases e
  · simp only [hk, if_false] at e
    split at e
    · rename_i h
      simp only [Bool.and_eq_true, decide_eq_true_eq] at h
      cases e
      exact .inl ⟨by omega, rfl, by omega⟩
    · cases e

noncomputable def noSlice (e : Expr) : Bool := decide (e.ctorIdx ≠ 26)
theorem subscripted_plain {sl : Expr} {o i : Value} (h : noSlice sl = true) : subscripted sl false o i = operate [o, i] (getItem o i) := by
  cases sl <;> first | rfl | cases (show false = true from h)

theorem idx_op {x y d : V} {v u : Value} {l r : Expr} (hr : noSlice r = true) (e : idxV σ x y = some d) (S : Sim hb C φ σ g s.heap) (hv : VR g φ v x) (hu : VR g φ u y) : wpAny (model prog C.w) A (subscriptTail l r v u) (Post hb C φ g s σ d) E s := by
  obtain ⟨k, rfl, e1⟩ := intK_inv e
  obtain ⟨t, rfl⟩ := hu.ofInt
  rcases Option.or_eq_some_iff.mp e1 with e2 | ⟨-, e2⟩
  · obtain ⟨x', rfl, e3⟩ := strK_inv e2
    obtain ⟨c, hc, rfl⟩ := Option.map_eq_some_iff.mp e3
    obtain ⟨lo, hi, j, hj, hx⟩ := seqAt_some hc
    obtain ⟨tk, rfl⟩ := hv.ofStr
    refine tail_any (typeIs_str s _ tk) PySem.F.slot_str_getitem.lookup (P.getItem_str (c := c) ?_ ?_ ?_) (subscripted_plain hr)
    · simp; omega
    · rw [strV_len, hj]
      simpa [strV] using hx
    · exact Post.here S (.str [c] _) _
  · obtain ⟨ds, hd, hx⟩ := Option.bind_eq_some_iff.mp e2
    obtain ⟨lo, hi, j, hj, hx⟩ := seqAt_some hx
    obtain ⟨a, vs, rfl, hl, hr'⟩ := seq_at S hv hd
    obtain ⟨y, hy, hvr⟩ := hr'.get hx
    rcases hl with hl | ht
    · rcases seqIndex_cases hj with ⟨k0, rfl, _⟩ | ⟨k0, k1, rfl, _⟩
      · refine tail_any hl.typeIs slot_list_getitem.lookup (wpAny_getItem_list hl k0 (by omega) (by simpa using hy) (Post.here S hvr s.toks)) (subscripted_plain hr)
      · have e1 : vs.toArray.size = ds.length := by rw [List.size_toArray, hr'.length]
        refine tail_any hl.typeIs slot_list_getitem.lookup (wpAny_getItem_list_neg hl k0 (by rw [e1]; exact k1) (by omega) (by rw [e1]; simpa using hy) (Post.here S hvr s.toks)) (subscripted_plain hr)
    · refine item_tupleT ht (by omega) (by omega) (by rw [hr'.length]; exact hj) hy (Post.here S hvr s.toks) (subscripted_plain hr)

theorem truth_seq {x : V} {v : Value} {b : Bool} {Q : Bool → Shared → Prop} (e : ((seqOf σ x).bind fun vs => if vs.length ≤ 1000 then some !vs.isEmpty else none) = some b) (S : Sim hb C φ σ g s.heap) (hv : VR g φ v x) (q : ∀ tk, Q b { s with toks := tk }) : wpAny (model prog C.w) A (truthy v) Q E s := by
  obtain ⟨ds, hd, hx⟩ := Option.bind_eq_some_iff.mp e
  obtain ⟨hl, hx⟩ := ite_some hx
  cases hx
  obtain ⟨a, vs, rfl, hl', hr⟩ := seq_at S hv hd
  have hsz : (vs.toArray.size : Int) < 2 ^ 63 := by rw [List.size_toArray, hr.length]; omega
  have hem : vs.toArray.isEmpty = ds.isEmpty := by
    cases ds with
    | nil => rw [hr.inv0]; rfl
    | cons _ _ => obtain ⟨_, _, rfl, _⟩ := hr.inv; rfl
  exact hl'.elim (fun h => wpAny_truthy_list h hsz (by rw [hem]; exact q _)) fun h => truthy_tuple h hsz (by rw [hem]; exact q _)
theorem truth_op {x : V} {v : Value} {b : Bool} {Q : Bool → Shared → Prop} (e : truthV σ x = some b) (S : Sim hb C φ σ g s.heap) (hv : VR g φ v x) (q : ∀ tk, Q b { s with toks := tk }) : wpAny (model prog C.w) A (truthy v) Q E s := by
  rcases Option.or_eq_some_iff.mp e with e | ⟨-, e⟩
  case inr => exact truth_seq e S hv q
  cases x with
  | none => cases e; cases hv; exact truthy_none (q s.toks)
  | bool _ => cases e; cases hv; exact wpAny_truthy_bool (q s.toks)
  | int _ => obtain ⟨t, rfl⟩ := hv.ofInt; cases e; exact truthy_int (q s.toks)
  | str x =>
    obtain ⟨t, rfl⟩ := hv.ofStr
    obtain ⟨hl, e⟩ := ite_some e
    cases e
    refine P.truthy_str (by rw [strV_len]; omega) ?_
    have : (((strV x).length : Int) != 0) = !x.isEmpty := by
      rw [strV_len]
      cases x with
      | nil => rfl
      | cons c r => exact bne_iff_ne.mpr (Int.ne_of_gt (Int.natCast_pos.mpr (Nat.succ_pos _)))
    rw [this]; exact q _
  | _ => cases e
end

section
variable {prog : Program} {hb : Heap} {C : Cx} {n : Nat} {env : Env} {ρ : Rho} {σ σ₁ σ₂ σ₃ : Store}

theorem not_ok {e : Expr} {pos : Pos} {x : V} {b : Bool} (a : EvOK prog hb C n env ρ σ e x σ₁) (ht : truthV σ₁ x = some b) : EvOK prog hb C n env ρ σ (.UnaryOp .Not e pos) (.bool !b) σ₁ := by
  intro A s φ g E hA S R
  show wpAny _ A (do let v ← eval e env; standAt pos; holding [v] (unaryOp .Not v)) _ _ s
  refine wpAny_bind (go hA (a A s φ g E hA S R) (fun v s₁ hA h₁ => ?_))
  obtain ⟨φ₁, g₁, G₁, S₁, V₁, T₁⟩ := h₁
  refine wpAny_bind (wpAny_standAt (wpAny_holding ?_))
  unfold unaryOp
  refine wpAny_holding ?_
  show wpAny _ A (truthy v >>= fun b => pure (Value.bool !b)) _ _ s₁
  exact wpAny_bind (truth_op ht S₁ V₁ fun tk => wpAny_pure (Post.trans G₁ T₁ (Post.here S₁ (.bool _) tk)))

theorem neg_ok {e : Expr} {pos : Pos} {i : Int} (a : EvOK prog hb C n env ρ σ e (.int i) σ₁) : EvOK prog hb C n env ρ σ (.UnaryOp .USub e pos) (.int (-i)) σ₁ := by
  intro A s φ g E hA S R
  show wpAny _ A (do let v ← eval e env; standAt pos; holding [v] (unaryOp .USub v)) _ _ s
  refine wpAny_bind (go hA (a A s φ g E hA S R) (fun v s₁ hA h₁ => ?_))
  obtain ⟨φ₁, g₁, G₁, S₁, V₁, T₁⟩ := h₁
  refine wpAny_bind (wpAny_standAt (wpAny_holding ?_))
  obtain ⟨t, rfl⟩ := V₁.ofInt
  exact neg_int (Post.trans G₁ T₁ (Post.here S₁ (.int _ _) _))

noncomputable def OptOK (prog : Program) (hb : Heap) (C : Cx) (n : Nat) (env : Env) (ρ : Rho) (σ : Store) (e : Option Expr) (d : Option V) (σ' : Store) : Prop := match e, d with
  | none, none => σ' = σ
  | some e, some d => EvOK prog hb C n env ρ σ e d σ'
  | _, _ => False
theorem part_of {d : Option V} {k : Option Int} (e : partV d = some k) : (d = none ∧ k = none) ∨ ∃ i, d = some (.int i) ∧ k = some i := by
  cases d with
  | none => cases e; exact .inl ⟨rfl, rfl⟩
  | some v =>
    obtain ⟨i, rfl, e1⟩ := intK_inv (show intK v (fun i => some (some i)) = some k from e)
    cases e1; exact .inr ⟨_, rfl, rfl⟩
theorem opt_run {A : Around} {s : Shared} {φ : List Addr} {g : Part} {E : Value → Shared → Prop} {e : Option Expr} {d : Option V} {k : Option Int} {Q : Value → Shared → Prop} (h : OptOK prog hb C n env ρ σ e d σ₁) (hk : partV d = some k) (hA : Rm n A s.toks) (S : Sim hb C φ σ g s.heap) (R : ER hb φ g s.heap env ρ)
    (q : ∀ v s' φ' g', Rm n A s'.toks → IsPart v k → (k = none → v = .none) → Grow φ g s.heap φ' g' s'.heap → Sim hb C φ' σ₁ g' s'.heap → ER hb φ' g' s'.heap env ρ → Rest s s' → Q v s') : wpAny (model prog C.w) A (evalPart e env) Q E s := by
  cases e with
  | none => cases d with
    | none => cases (h : σ₁ = σ); cases hk; exact wpAny_pure (q .none s φ g hA .none (fun _ => rfl) (Grow.refl ..) S R (Rest.refl s))
    | some d => exact h.elim
  | some e => cases d with
    | none => exact h.elim
    | some d =>
      refine go hA ((h : EvOK _ _ _ _ _ _ _ _ _ _) A s φ g E hA S R) (fun v s₁ hA h₁ => ?_)
      obtain ⟨φ₁, g₁, G₁, S₁, V₁, T₁⟩ := h₁
      rcases part_of hk with ⟨h1, _⟩ | ⟨i, h1, rfl⟩
      · cases h1
      · cases h1
        obtain ⟨t, rfl⟩ := V₁.ofInt
        exact q _ s₁ φ₁ g₁ hA (.int i t) (fun h => nomatch h) G₁ S₁ (R.grow G₁) T₁

theorem subscripted_slice {lo hi : Option Expr} {p : Pos} {o i : Value} : subscripted (.Slice lo hi none p) false o i = operate [i, o] (getItem o i) := rfl
theorem pick_list {α : Type} (xs : List α) (lo hi : Option Int) (n : Nat) (h : n = xs.length) : (xs.drop (lo.elim 0 (clipAt n))).take (hi.elim n (clipAt n) - lo.elim 0 (clipAt n)) = pickL xs lo hi := by
  subst h; exact List.drop_take.symm
theorem strIdx (lo hi : Option Int) (n : Nat) : Builtin.Str.strSliceIndices lo hi 1 n = (List.range (hi.elim n (clipAt n) - lo.elim 0 (clipAt n))).map (lo.elim 0 (clipAt n) + ·) := by
  rw [← sliceRange_one]
  unfold Builtin.Str.strSliceIndices
  cases lo <;> cases hi <;> simp [clipAt_cast]
theorem slice_strV (x : List Nat) (lo hi : Option Int) : Txt.slice (strV x) lo hi = strV (pickL x lo hi) := by
  have hp : (Builtin.Str.strSliceIndices lo hi 1 (strV x).length).filterMap ((strV x).cps[·]?) = pickL x lo hi := by
    rw [strV_len, strIdx, pick_run]
    exact pick_list x lo hi _ rfl
  unfold Txt.slice
  split
  · rename_i h
    rw [beq_self_eq_true, Bool.true_and, beq_iff_eq, strV_len, strIdx, List.length_map, List.length_range] at h
    have h1 : hi.elim x.length (clipAt x.length) ≤ x.length := by
      cases hi with
      | none => exact Nat.le_refl _
      | some i => have := clipAt_cast x.length i; show clipAt x.length i ≤ _; omega
    have h2 : lo.elim 0 (clipAt x.length) = 0 ∨ x.length = 0 := by omega
    congr 1
    unfold pickL
    rcases h2 with h2 | h2
    · rw [h2, List.drop_zero, List.take_of_length_le (by omega)]
    · rw [List.length_eq_zero_iff.mp h2]; simp
  · rw [hp]; rfl
theorem part_is {v : Value} {k : Option Int} (h : IsPart v k) : ∃ l : Option (Int × Tok), v = partValue l ∧ l.map (·.1) = k := by
  cases h with
  | none => exact ⟨none, rfl, rfl⟩
  | int i t => exact ⟨some (i, t), rfl, rfl⟩

theorem slice_op {A : Around} {s : Shared} {φ : List Addr} {g : Part} {E : Value → Shared → Prop} {l : Expr} {lo hi : Option Expr} {p : Pos} {x : V} {v vl vh : Value} {kl kh : Option Int} {d : V} {sl : Addr} (e : sliceV σ x kl kh = some d) (S : Sim hb C φ σ g s.heap) (V : VR g φ v x) (hs : s.heap.IsSliceOf sl vl vh .none) (p1 : IsPart vl kl) (p2 : IsPart vh kh) :
    wpAny (model prog C.w) A (subscriptTail l (.Slice lo hi none p) v (.ref sl)) (Post hb C φ g s σ d) E s := by
  rcases Option.or_eq_some_iff.mp e with e | ⟨-, e⟩
  · obtain ⟨ds, hd, e⟩ := Option.bind_eq_some_iff.mp e
    obtain ⟨hl, e⟩ := ite_some e
    cases e
    obtain ⟨ad, vs, rfl, hL, hr⟩ := lst_at S V hd
    refine tail_any hL.typeIs slot_list_getitem.lookup (wpAny_getItem_list_slice hL hs p1 p2 .none (fun h => nomatch h) ?_ (by rw [List.size_toArray, hr.length]; exact Nat.le_trans hl (by decide))) subscripted_slice
    rw [slicePick_plain, pick_list vs kl kh _ (List.size_toArray ..)]
    obtain ⟨S', G'⟩ := S.put (fresh_none s.heap) (Heap.get?_push_size _ (o := { cls := .type "list", data := .seq (pickL vs kl kh).toArray }) rfl) fun b o e => Heap.get?_push_of_some _ e
    refine ⟨φ, _, G', S', .list (if_pos rfl) rfl rfl rfl (VRs.mono G'.mono G'.pre ?_), ⟨_, _, rfl⟩⟩
    unfold pickL; rw [← hr.length]; exact (hr.take _).drop _
  · obtain ⟨z, rfl, e⟩ := strK_inv e
    obtain ⟨hl, e⟩ := ite_some e
    cases e
    obtain ⟨t, rfl⟩ := V.ofStr
    obtain ⟨l1, rfl, rfl⟩ := part_is p1
    obtain ⟨l2, rfl, rfl⟩ := part_is p2
    refine tail_any (typeIs_str _ _ t) PySem.F.slot_str_getitem.lookup
      (wpAny_getItem_str_slice (l := l1) (u := l2) (st := none) hs rfl (post_val_or_str ⟨Nat.le_trans (Txt.slice_le (strV z) _ _) (by rw [strV_len]; exact Nat.le_trans hl (by decide)), fun t' k => ?_⟩)) subscripted_slice
    have P : Post hb C φ g s σ (.str (pickL z (l1.map (·.1)) (l2.map (·.1)))) (.str (Txt.slice (strV z) (l1.map (·.1)) (l2.map (·.1))) t') { s with toks := k } := by
      rw [slice_strV]
      exact Post.here S (.str _ _) _
    exact P
theorem slice_ok {l : Expr} {lo hi : Option Expr} {p pos : Pos} {x : V} {dl dh : Option V} {kl kh : Option Int} {d : V}
    (a : EvOK prog hb C n env ρ σ l x σ₁) (b1 : OptOK prog hb C n env ρ σ₁ lo dl σ₂) (b2 : OptOK prog hb C n env ρ σ₂ hi dh σ₃)
    (k1 : partV dl = some kl) (k2 : partV dh = some kh) (e : sliceV σ₃ x kl kh = some d) : EvOK prog hb C n env ρ σ (.Subscript l (.Slice lo hi none p) pos) d σ₃ := by
  intro A s φ g E hA S R
  refine Subscript_ (go hA (a A s φ g E hA S R) (fun v s₁ hA h₁ => ?_))
  obtain ⟨φ₁, g₁, G₁, S₁, V₁, T₁⟩ := h₁
  refine wpAny_Slice ?_
  refine opt_run b1 k1 hA S₁ (R.grow G₁) fun vl s₂ φ₂ g₂ hA p1 n1 G₂ S₂ R₂ T₂ => ?_
  refine opt_run b2 k2 hA S₂ R₂ fun vh s₃ φ₃ g₃ hA p2 n2 G₃ S₃ R₃ T₃ => ?_
  refine wpAny_pure ?_
  have G := G₂.trans G₃
  have hk : ∀ b o, s₃.heap.get? b = some o → (s₃.heap.push { cls := .type "slice", data := .fields #[vl, vh, .none] }).get? b = some o := fun b o e => Heap.get?_push_of_some _ e
  have hs := Heap.IsSliceOf.new s₃.heap vl vh .none
  show wpAny _ _ (subscriptTail _ _ _ (.ref s₃.heap.objs.size)) _ _ { s₃ with heap := s₃.heap.push _ }
  generalize s₃.heap.push { cls := .type "slice", data := .fields #[vl, vh, .none] } = h at hk hs ⊢
  generalize s₃.heap.objs.size = sl at hs ⊢
  exact wpAny_mono (slice_op (s := { s₃ with heap := h }) e (S₃.all hk) (V₁.mono G.mono G.pre) hs p1 p2) (fun r s' P => Post.trans (G₁.trans G) ((T₁.trans T₂).trans T₃) (Post.trans (s₁ := { s₃ with heap := h }) (Grow.same hk) ⟨_, _, rfl⟩ P)) fun _ _ e => e
end
end Mine

namespace Mine

noncomputable def KRs (g : Part) (φ : List Addr) (kvs : List (Str × Value)) (kws : List (List Nat × V)) : Prop :=
  kvs.map (·.1) = kws.map (fun p => strV p.1) ∧ VRs g φ (kvs.map (·.2)) (kws.map (·.2))
theorem KRs.nil {g : Part} {φ : List Addr} : KRs g φ [] [] := ⟨rfl, .nil⟩

section
variable {prog : Program} {hb : Heap} {C : Cx} {n : Nat} {env : Env} {ρ : Rho} {σ σ₁ σ₂ σ₃ : Store}

noncomputable def EvKOK (prog : Program) (hb : Heap) (C : Cx) (n : Nat) (env : Env) (ρ : Rho) (σ : Store) (ks : List Keyword) (ds : List (List Nat × V)) (σ' : Store) : Prop :=
  ∀ A s φ g E pos, Rm n A s.toks → Sim hb C φ σ g s.heap → ER hb φ g s.heap env ρ → wpAny (model prog C.w) A (evalAll ((backToKw pos (keywordEach ks env)).map (·.2)))
    (fun vs s' => ∃ φ' g', Grow φ g s.heap φ' g' s'.heap ∧ Sim hb C φ' σ' g' s'.heap ∧ VRs g' φ' vs (ds.map (·.2)) ∧ Rest s s') E s
noncomputable def kwNames (ks : List Keyword) : List (Option Str) := ks.map (·.arg)
theorem kw_names (pos : Pos) : ∀ ks : List Keyword, (backToKw pos (keywordEach ks env)).map (·.1) = kwNames ks
  | [] => rfl
  | ⟨n, e, p⟩ :: r => by
    show n :: ((backToKw pos (keywordEach r env)).map (·.1)) = n :: kwNames r
    rw [kw_names pos r]
theorem evk_nil : EvKOK prog hb C n env ρ σ [] [] σ := fun _ s φ g _ _ _ S _ => wpAny_pure ⟨φ, g, Grow.refl .., S, .nil, Rest.refl s⟩
theorem evk_cons {k : Option Str} {e : Expr} {p : Pos} {ks : List Keyword} {x : List Nat} {d : V} {ds : List (List Nat × V)} (a : EvOK prog hb C n env ρ σ e d σ₁) (b : EvKOK prog hb C n env ρ σ₁ ks ds σ₂) : EvKOK prog hb C n env ρ σ (⟨k, e, p⟩ :: ks) ((x, d) :: ds) σ₂ := by
  intro A s φ g E pos hA S R
  show wpAny _ A (evalAll ((do let v ← eval e env; standAt pos; pure v) :: (backToKw pos (keywordEach ks env)).map (·.2))) _ _ s
  refine wpAny_evalAll_cons (wpAny_bind (go hA (a A s φ g E hA S R) (fun v s₁ hA h₁ => ?_)))
  obtain ⟨φ₁, g₁, G₁, S₁, V₁, T₁⟩ := h₁
  refine wpAny_bind (wpAny_standAt (wpAny_pure (go hA (b A s₁ φ₁ g₁ E pos hA S₁ (R.grow G₁)) (fun vs s₂ hA h₂ => ?_))))
  obtain ⟨φ₂, g₂, G₂, S₂, V₂, T₂⟩ := h₂
  exact ⟨φ₂, g₂, G₁.trans G₂, S₂, .cons (V₁.mono G₂.mono G₂.pre) V₂, T₁.trans T₂⟩

noncomputable def kwIs (ks : List Keyword) (ds : List (List Nat × V)) : Prop := kwNames ks = ds.map fun p => some (strV p.1)

theorem kw_all {pos : Pos} {ks : List Keyword} {ds : List (List Nat × V)} (h : kwIs ks ds) : (backToKw pos (keywordEach ks env)).all (·.1.isSome) = true := by
  have : (backToKw pos (keywordEach ks env)).all (·.1.isSome) = ((backToKw pos (keywordEach ks env)).map (·.1)).all (·.isSome) := by rw [List.all_map]; rfl
  rw [this, kw_names, h]; simp
theorem kw_zip {pos : Pos} {ks : List Keyword} {ds : List (List Nat × V)} (h : kwIs ks ds) : (backToKw pos (keywordEach ks env)).filterMap (·.1) = ds.map fun p => strV p.1 := by
  have : (backToKw pos (keywordEach ks env)).filterMap (·.1) = ((backToKw pos (keywordEach ks env)).map (·.1)).filterMap id := by rw [List.filterMap_map]; rfl
  rw [this, kw_names, h, List.filterMap_map]
  induction ds with
  | nil => rfl
  | cons d r ih => simp
theorem zip_krs {g : Part} {φ : List Addr} {vs : List Value} : ∀ {ds : List (List Nat × V)}, VRs g φ vs (ds.map (·.2)) → KRs g φ ((ds.map fun p => strV p.1).zip vs) ds := by
  intro ds h
  have hl : (ds.map fun p => strV p.1).length = vs.length := by rw [h.length]; simp
  refine ⟨?_, ?_⟩
  · rw [List.map_fst_zip (by omega)]
  · rw [List.map_snd_zip (by omega)]; exact h

theorem args_run {A : Around} {s : Shared} {φ : List Addr} {g : Part} {E : Value → Shared → Prop} {f : Value} {es : List Expr} {ks : List Keyword} {pos : Pos} {ds : List V} {kds : List (List Nat × V)} {Q : Args → Shared → Prop}
    (a : EvsOK prog hb C n env ρ σ es ds σ₁) (b : EvKOK prog hb C n env ρ σ₁ ks kds σ₂) (hk : kwIs ks kds) (hs : ∀ e r, es = e :: r → ∀ a p, e ≠ .Starred a p) (hA : Rm n A s.toks) (S : Sim hb C φ σ g s.heap) (R : ER hb φ g s.heap env ρ)
    (q : ∀ x s' φ' g', Rm n A s'.toks → Grow φ g s.heap φ' g' s'.heap → Sim hb C φ' σ₂ g' s'.heap → Rest s s' → VRs g' φ' x.pos ds → KRs g' φ' x.kw kds → Q x s') :
    wpAny (model prog C.w) A (evalArgs f true (backTo pos (starEach es env)) (backToKw pos (keywordEach ks env))) Q E s := by
  have tail : ∀ (vs : List Value) (s₁ : Shared) (φ₁ : List Addr) (g₁ : Part), Rm n A s₁.toks → Grow φ g s.heap φ₁ g₁ s₁.heap → Sim hb C φ₁ σ₁ g₁ s₁.heap → VRs g₁ φ₁ vs ds → Rest s s₁ →
      wpAny (model prog C.w) A (evalAll ((backToKw pos (keywordEach ks env)).map (·.2))) (fun kv s₂ => Q ⟨vs, ((backToKw pos (keywordEach ks env)).filterMap (·.1)).zip kv⟩ s₂) E s₁ := by
    intro vs s₁ φ₁ g₁ hA G₁ S₁ V₁ T₁
    refine go hA (b A s₁ φ₁ g₁ E pos hA S₁ (R.grow G₁)) (fun kv s₂ hA h₂ => ?_)
    obtain ⟨φ₂, g₂, G₂, S₂, V₂, T₂⟩ := h₂
    rw [kw_zip hk]
    exact q _ s₂ φ₂ g₂ hA (G₁.trans G₂) S₂ (T₁.trans T₂) (V₁.mono G₂.mono G₂.pre) (zip_krs V₂)
  cases es with
  | nil =>
    intro Γ p hΓ
    obtain ⟨φ₁, g₁, G₁, S₁, V₁, T₁⟩ : ∃ φ' g', Grow φ g s.heap φ' g' s.heap ∧ Sim hb C φ' σ₁ g' s.heap ∧ VRs g' φ' [] ds ∧ Rest s s := a A s φ g E pos hA S R Γ p hΓ
    exact evalArgs_kw_nil (kw_all hk) (tail [] s φ₁ g₁ hA G₁ S₁ V₁ T₁) Γ p hΓ
  | cons e r =>
    rw [star_cons (hs e r rfl)]
    show wpAny _ A (evalArgs f true ((false, eval e env) :: backTo pos (starEach r env)) _) _ _ s
    refine evalArgs_kw (kw_all hk) ?_
    have h0 := a A s φ g E pos hA S R
    rw [star_cons (hs e r rfl)] at h0
    refine go hA h0 (fun vs s₁ hA h₁ => ?_)
    obtain ⟨φ₁, g₁, G₁, S₁, V₁, T₁⟩ := h₁
    exact tail vs s₁ φ₁ g₁ hA G₁ S₁ V₁ T₁
end
end Mine

namespace Mine

noncomputable def notStar (e : Expr) : Bool := decide (e.ctorIdx ≠ 22)
theorem notStar_ne {e : Expr} (h : notStar e = true) : ∀ a p, e ≠ .Starred a p := fun a p q => by subst q; cases (show false = true from h)
theorem stars_none {env : Env} {pos : Pos} : ∀ {es : List Expr}, es.all notStar = true → (backTo pos (starEach es env)).any (·.1) = false
  | [], _ => rfl
  | e :: r, h => by
    simp only [List.all_cons, Bool.and_eq_true] at h
    rw [star_cons (notStar_ne h.1)]
    show (false || (backTo pos (starEach r env)).any (·.1)) = false
    rw [stars_none h.2]; rfl
theorem stars_head {es : List Expr} (h : es.all notStar = true) : ∀ e r, es = e :: r → ∀ a p, e ≠ .Starred a p := fun e r q => by
  subst q
  simp only [List.all_cons, Bool.and_eq_true] at h
  exact notStar_ne h.1

section
variable {prog : Program} {hb : Heap} {C : Cx} {n : Nat} {env : Env} {ρ : Rho} {σ σ₁ σ₂ σ₃ : Store}

noncomputable def CallOK (prog : Program) (hb : Heap) (C : Cx) (FA : String → Option Addr) (n : Nat) (O : Orc) : Prop :=
  ∀ f a args kws σ d σ', FA f = some a → O f args kws σ = some (d, σ') → ∀ A s φ g vals kvs, Rc n A s.toks → Sim hb C φ σ g s.heap → VRs g φ vals args → KRs g φ kvs kws →
    codeAny (model prog C.w) A (.call (.ref a) ⟨vals, kvs⟩) (fun r s' => match r with | .ok (.ret v) => Post hb C φ g s σ' d v s' | _ => False) s
theorem CallOK.run {FA : String → Option Addr} {O : Orc} (h : CallOK prog hb C FA n O) {f : String} {a : Addr} {args : List V} {kws : List (List Nat × V)} {d : V} (hf : FA f = some a) (e : O f args kws σ = some (d, σ₁)) {A : Around} {s : Shared} {φ : List Addr} {g : Part} {E : Value → Shared → Prop} {vals : List Value} {kvs : List (Str × Value)} (hA : Rc n A s.toks) (S : Sim hb C φ σ g s.heap) (V : VRs g φ vals args) (K : KRs g φ kvs kws) :
    wpAny (model prog C.w) A (call (.ref a) vals kvs) (Post hb C φ g s σ₁ d) E s :=
  wpAny_call (codeAny_mono (h f a args kws σ d σ₁ hf e A s φ g vals kvs hA S V K) fun r s' z => by rcases r with e | (v | _ | _ | _) <;> first | exact z | exact z.elim)
noncomputable def FnsOK (hb : Heap) (FA : String → Option Addr) : Prop := ∀ f a, FA f = some a → ∃ o fd, hb.get? a = some o ∧ o.data = .func fd

theorem call_ok {O : Orc} {FA : String → Option Addr} {f : String} {a : Addr} {fs : Str} {p pos : Pos} {es : List Expr} {ds : List V} {d : V} (hO : CallOK prog hb C FA n O) (hF : FnsOK hb FA) (hf : FA f = some a)
    (hn : EvOK prog hb C n env ρ σ (.Name fs p) (.gl a) σ) (h : EvsOK prog hb C n env ρ σ es ds σ₁) (hst : es.all notStar = true) (e : O f ds [] σ₁ = some (d, σ₂)) : EvOK prog hb C n env ρ σ (.Call (.Name fs p) es [] pos) d σ₂ := by
  intro A s φ g E hA S R
  refine wpAny_Call_Name_kw (go hA (hn A s φ g E hA S R) (fun v s₁ hA h₁ => ?_))
  obtain ⟨φ₁, g₁, G₁, S₁, V₁, T₁⟩ := h₁
  cases V₁
  obtain ⟨o, fd, ho, hd⟩ := hF f a hf
  refine callWith_function_kw (o := o) (fd := fd) (args_run h evk_nil (show kwIs [] [] from rfl) (stars_head hst) hA S₁ (R.grow G₁) fun x s₂ φ₂ g₂ hA G₂ S₂ T₂ V₂ K₂ => ?_)
  refine ⟨⟨S₂.hbk a o ho, hd⟩, ?_⟩
  exact wpAny_mono (hO.run hf e hA.rc S₂ V₂ K₂) (fun _ _ p => (p.trans G₂ T₂).trans G₁ T₁) fun _ _ e => e

theorem name_blt {A : Around} {s : Shared} {φ : List Addr} {g : Part} {E : Value → Shared → Prop} {mg mb : Str → Option Value} {x : Str} {v : Value} {pos : Pos} {Q : Value → Shared → Prop} (hg : hb.Ns mainGlobals mg) (hbl : hb.Ns builtinsNs mb) (hx : env.kindOf x = some .globalImplicit) (hm : mg x = none) (hb' : mb x = some v) (hd : (x == ("__debug__" : Str)) = false)
    (S : Sim hb C φ σ g s.heap) (R : ER hb φ g s.heap env ρ) (q : Q v s) : wpAny (model prog C.w) A (eval (.Name x pos) env) Q E s :=
  Calls.Name_function_global R.kind hx (Calls.loadGlobal_builtin (by rw [R.glob]; exact hg.keeps S.hbk) hm (by rw [R.bl]; exact hbl.keeps S.hbk) hb' q) hd

theorem callWith_mach {A : Around} {s : Shared} {E : Value → Shared → Prop} {f : Value} {first : List Value} {pos : Pos} {es : List Expr} {Q : Value → Shared → Prop} (hf : keeperOf f = pure .machine) (hst : es.all notStar = true)
    (h : wpAny (model prog C.w) A (evalArgs f true (backTo pos (starEach es env)) []) (fun a s₁ => wpAny (model prog C.w) A (call f (first ++ a.pos) a.kw) Q E s₁) E s) : wpAny (model prog C.w) A (callWith pos f first (backTo pos (starEach es env)) []) Q E s :=
  callWith_of (P := fun _ => True) (by rw [stars_none hst]; rfl) (fun _ _ => ⟨.machine, .inr (.inl rfl), Looks.of_pure hf⟩) (wpAny_mono h (fun _ _ q => ⟨trivial, q⟩) fun _ _ e => e)

noncomputable def biVal (f : String) : Value := if f = "range" ∨ f = "type" ∨ f = "dict" ∨ f = "bytes" ∨ f = "str" then .type f else .builtin f
theorem biVal_mach (f : String) : keeperOf (biVal f) = pure .machine := by
  unfold biVal; split <;> rfl

theorem bi_len {A : Around} {s : Shared} {φ : List Addr} {g : Part} {E : Value → Shared → Prop} {ds : List V} {d : V} {vals : List Value} (e : lenS σ ds = some (d, σ₁)) (S : Sim hb C φ σ g s.heap) (hvs : VRs g φ vals ds) : wpAny (model prog C.w) A (call (.builtin "len") vals) (Post hb C φ g s σ₁ d) E s := by
  obtain ⟨x, rfl, e⟩ := one1_inv e
  obtain ⟨v, rfl, hv⟩ := hvs.inv1
  rcases Option.or_eq_some_iff.mp e with e | ⟨-, e⟩
  · obtain ⟨vs, h1, e⟩ := Option.bind_eq_some_iff.mp e
    obtain ⟨hl, e⟩ := ite_some e
    cases e
    obtain ⟨a, ws, rfl, hL, hr⟩ := lst_at S hv h1
    have hsz : ws.toArray.size = vs.length := by rw [List.size_toArray, hr.length]
    refine len_list hL (by rw [hsz]; omega) ?_
    rw [hsz]
    exact Post.here S (.int _ _) _
  · obtain ⟨x, rfl, e⟩ := strK_inv e
    obtain ⟨hl, e⟩ := ite_some e
    cases e
    obtain ⟨t, rfl⟩ := hv.ofStr
    refine P.len_str (by rw [strV_len]; omega) ?_
    rw [strV_len]
    exact Post.here S (.int _ _) _
theorem bi_op {A : Around} {s : Shared} {φ : List Addr} {g : Part} {E : Value → Shared → Prop} {f : String} {ds : List V} {d : V} {vals : List Value} (e : biV f σ ds = some (d, σ₁)) (hA : Rm n A s.toks) (S : Sim hb C φ σ g s.heap) (hvs : VRs g φ vals ds) :
    wpAny (model prog C.w) A (call (biVal f) vals) (Post hb C φ g s σ₁ d) E s := by
  unfold biV at e
  split at e
  · rename_i hf; subst hf; exact bi_len e S hvs
  split at e
  · rename_i hf; subst hf
    obtain ⟨v0, rfl, e⟩ := one1_inv e
    obtain ⟨i, rfl, e⟩ := intK_inv e
    obtain ⟨v1, rfl, hv⟩ := hvs.inv1
    obtain ⟨hi, e⟩ := ite_some e
    cases e
    obtain ⟨t, rfl⟩ := hv.ofInt
    exact chr_of_range hi.1 (by omega) (Post.here S (.str [i.toNat] _) _)
  split at e
  · rename_i hf; subst hf
    obtain ⟨v0, rfl, e⟩ := one1_inv e
    obtain ⟨b, rfl, e⟩ := intK_inv e
    obtain ⟨v1, rfl, hv⟩ := hvs.inv1
    obtain ⟨hi, e⟩ := ite_some e
    cases e
    obtain ⟨t, rfl⟩ := hv.ofInt
    refine call_range_1 ?_
    rw [show b = (b.toNat : Int) from (Int.toNat_of_nonneg hi.1).symm]
    exact have ⟨S', G'⟩ := S.put (fresh_none s.heap) (Heap.get?_push_size _ (o := { cls := .type "range", data := .fields #[.int 0 _, .int (b.toNat : Int) _, .int 1 _] }) rfl) fun b o e => Heap.get?_push_of_some _ e
      ⟨φ, _, G', S', VR.rng (if_pos rfl), ⟨_, _, rfl⟩⟩
  obtain ⟨hf, e⟩ := ite_some e
  subst hf
  obtain ⟨v0, rfl, e⟩ := one1_inv e
  obtain ⟨v1, rfl, hv⟩ := hvs.inv1
  rcases Option.or_eq_some_iff.mp e with e | ⟨-, e⟩
  · obtain ⟨x, rfl, e⟩ := strK_inv e
    obtain ⟨t, rfl⟩ := hv.ofStr
    cases e; exact call_type_of (typeIs_str s _ _) (by decide) (Post.here S (.ty _) s.toks)
  · obtain ⟨vs, h1, h2⟩ := Option.map_eq_some_iff.mp e
    cases h2
    obtain ⟨a, ws, rfl, hL, hr⟩ := lst_at S hv h1
    exact call_type_of hL.typeIs (by decide) (Post.here S (.ty _) s.toks)

theorem bi_ok {mg mb : Str → Option Value} {f : String} {p pos : Pos} {es : List Expr} {ds : List V} {d : V} (hg : hb.Ns mainGlobals mg) (hbl : hb.Ns builtinsNs mb) (hx : env.kindOf (Str.ofString f) = some .globalImplicit) (hm : mg (Str.ofString f) = none) (hb' : mb (Str.ofString f) = some (biVal f)) (hd : (Str.ofString f == ("__debug__" : Str)) = false)
    (h : EvsOK prog hb C n env ρ σ es ds σ₁) (hst : es.all notStar = true) (e : biV f σ₁ ds = some (d, σ₂)) : EvOK prog hb C n env ρ σ (.Call (.Name (Str.ofString f) p) es [] pos) d σ₂ := by
  intro A s φ g E hA S R
  refine wpAny_Call_Name_kw (name_blt hg hbl hx hm hb' hd S R ?_)
  refine callWith_mach (biVal_mach f) hst (args_run h evk_nil (show kwIs [] [] from rfl) (stars_head hst) hA S R fun x s₂ φ₂ g₂ hA G₂ S₂ T₂ V₂ K₂ => ?_)
  have hk : x.kw = [] := by have := K₂.1; simpa using this
  rw [hk, List.nil_append]
  exact wpAny_mono (bi_op e hA S₂ V₂) (fun _ _ p => p.trans G₂ T₂) fun _ _ e => e
end
end Mine

namespace Mine

theorem fold_bytes : ∀ (l : List Nat) (acc : Array UInt8), l.foldl (fun acc y => acc ++ ([y.toUInt8] : List UInt8).toArray) acc = acc ++ (l.map Nat.toUInt8).toArray
  | [], acc => by simp
  | y :: r, acc => by
    rw [List.foldl_cons, fold_bytes r]
    simp
theorem loop2_bind {α β γ : Type} {f : α → β → Sem (ForInStep β)} {k : β → Sem γ} {a : α} {l : List α} {b0 b1 : β} (h1 : f a b0 = pure (.yield b1)) (h2 : ∀ a, f a b1 = pure (.done b1)) : (forIn (a :: l) b0 f >>= k) = k b1 := by
  rw [List.forIn_cons, h1]
  show (forIn l b1 f >>= k) = k b1
  cases l with
  | nil => rfl
  | cons c r => rw [List.forIn_cons, h2 c]; rfl
theorem enc_narrow {x : List Nat} {self : Value} {id : String} (hx : ∀ c ∈ x, c < 256) (hl : x.length ≤ 100000) :
    PySem.Builtin._codecs.encodeNarrow id PySem.Builtin._codecs.latin1Codec none self (strV x) = pure (bytV x) := by
  unfold PySem.Builtin._codecs.encodeNarrow
  extract_lets utf8 name asciiBytes limit i out st
  rw [KPc.range_list]
  cases x with
  | nil => rfl
  | cons c r =>
    have hr : List.range' 0 (strV (c :: r)).length = 0 :: List.range' 1 r.length := by rw [strV_len]; rfl
    have hsz : (strV (c :: r)).cps.size = (c :: r).length := strV_len _
    have hbad : ((strV (c :: r)).cps.extract 0).findIdx? PySem.Builtin._codecs.latin1Codec.bad = none := by
      rw [Array.findIdx?_eq_none_iff]
      intro d hd
      have : d ∈ c :: r := by simpa [strV] using hd
      exact decide_eq_false (by have := hx d this; omega)
    rw [hr]
    refine (loop2_bind (b1 := ((c :: r).length, bytV (c :: r), st)) ?_ fun k => ?_).trans rfl
    · dsimp only [i, out]
      rw [if_neg (by show ¬ (0 > sizeLine); omega)]
      show (if (!PySem.Builtin._codecs.latin1Codec.bad c) = true then _ else _) = _
      rw [if_pos (by rw [show PySem.Builtin._codecs.latin1Codec.bad c = false from decide_eq_false (by have := hx c (.head _); omega)]; rfl)]
      rw [hbad]
      simp only [Option.getD_none]
      congr 3
      · rw [Nat.zero_add]; simp [strV]
      · congr 1
        rw [← Array.foldl_toList]
        have e := fold_bytes (c :: r) #[]
        simp only [Array.toList_extract, strV] at *
        simpa [bytV, PySem.Builtin._codecs.latin1Codec, Nat.toUInt8] using e
    · dsimp only
      rw [if_neg (by
        have : (bytV (c :: r)).size = (c :: r).length := by unfold bytV; rw [List.size_toArray, List.length_map]
        rw [this]; have : (100000 : Nat) ≤ sizeLine := by decide
        omega)]
      have : (strV (c :: r)).cps[(c :: r).length]? = none := by rw [Array.getElem?_eq_none_iff, hsz]; exact Nat.le_refl _
      rw [this]
theorem enc_tree (x : Str) (t u : Tok) : PySem.Builtin.«str.encode» ⟨[.str x t, .str (strV latin1) u], []⟩ = ((PySem.Builtin._codecs.encodeNarrow "str.encode" PySem.Builtin._codecs.latin1Codec none (.str x t) x >>= fun b => mkBytes b) >>= fun v => ret v) := by
  kernel_rfl
section
variable {prog : Program} {w : World} {A : Around} {E : Value → Shared → Prop} {s : Shared} {Q : Value → Shared → Prop}
theorem enc_latin {x : List Nat} {t u : Tok} (hx : ∀ c ∈ x, c < 256) (hl : x.length ≤ 100000) (q : ∀ t' k, Q (.bytes (bytV x) t') { s with toks := k }) :
    wpAny (model prog w) A (call (.builtin "str.encode") [.str (strV x) t, .str (strV latin1) u]) Q E s := by
  refine call_gives (m := .bytes (bytV x)) F.slot_str_encode (typeIs_str _ _ _) F.entry_str_encode (F.args_str_encode_2 _ _) ?_ ⟨?_, q _ _⟩
  · rw [enc_tree, enc_narrow hx hl]
    exact Gives.tree (.bytes (bytV x))
  · unfold bytV; rw [List.size_toArray, List.length_map]; exact Nat.le_trans hl (by decide)
open PySem.Builtin PySem.Builtin.Str in
theorem split_push {x y : Str} {t u : Tok} (hy : (y.length == 0) = false) (hl : x.length ≤ 100000)
    (q : ∀ (l : List (Str × Tok)) k, l.map (·.1) = Txt.split x y → Q (.ref s.heap.objs.size) { s with heap := s.heap.push { cls := .type "list", data := .seq (strValues l).toArray }, toks := k }) :
    wpAny (model prog w) A (call (.builtin "str.split") [.str x t, .str y u]) Q E s := by
  have hs : (100002 : Nat) ≤ sizeLine := by decide
  have hn : (partsBetween x (occurrences x y 0 x.length (x.length + 1)) y.length).length ≤ sizeLine := by
    have := StrLaws.occ_length_le x y 0 x.length (x.length + 1)
    rw [length_partsBetween]; omega
  rcases h1 : (decide (x.length < y.length) || decide (strKind x < strKind y)) with _ | _
  · rcases hf : (occurrences x y 0 x.length (x.length + 1)).isEmpty with _ | _
    · refine call_meets F.slot_str_split (typeIs_str _ _ _) F.entry_str_split (F.args_str_split_2 _ _) (meets_str_split_sep x y t u h1 hy hf (by omega) hn) ?_
      have := q (numbered s.toks (partsBetween x (occurrences x y 0 x.length (x.length + 1)) y.length)) (s.toks + (partsBetween x (occurrences x y 0 x.length (x.length + 1)) y.length).length) ((numbered_texts _ _).trans ((if_neg (ne_true_of_eq_false h1)).trans (if_neg (ne_true_of_eq_false hf))).symm)
      rw [← strsFrom_eq] at this
      exact this
    · exact call_meets F.slot_str_split (typeIs_str _ _ _) F.entry_str_split (F.args_str_split_2 _ _) (meets_str_split_not_found x y t u h1 hy hf) (q [(x, t)] s.toks ((if_neg (ne_true_of_eq_false h1)).trans (if_pos hf)).symm)
  · exact call_meets F.slot_str_split (typeIs_str _ _ _) F.entry_str_split (F.args_str_split_2 _ _) (meets_str_split_cannot_occur x y t u h1) (q [(x, t)] s.toks (if_pos h1).symm)
end
end Mine

namespace Mine

noncomputable def rxName : List Nat := [14, 10, 4, 1, 1, 22, 0, 31, 16, 127, 0, 13, 7, 22, 0, 31, 16, 127, 0, 1]
noncomputable def rxValue : List Nat := [14, 14, 4, 1, 1, 9, 4294966783, 0, 0, 2147483648, 0, 0, 0, 0, 0, 13, 11, 9, 4294966783, 0, 0, 2147483648, 0, 0, 0, 0, 0, 1]

theorem rxName_out {c : Nat} (h : (decide (32 ≤ c) && c != 127) = true) (seen : Sre.Seen) : ∃ seen', Sre.inSet rxName.toArray c rxName.toArray.size 5 true seen = .ok (false, seen') := by
  simp only [Bool.and_eq_true, decide_eq_true_eq, bne_iff_ne] at h
  have h2 : ¬ (c == 127) = true := by simpa using h.2
  have h3 : ¬ (decide (0 ≤ c) && decide (c ≤ 31)) = true := by simp; omega
  have e1 : Sre.inSet rxName.toArray c rxName.toArray.size 5 true seen = if (decide (0 ≤ c) && decide (c ≤ 31)) = true then .ok (true, seen.add 22) else Sre.inSet rxName.toArray c 19 8 true (seen.add 22) := rfl
  have e2 : Sre.inSet rxName.toArray c 19 8 true (seen.add 22) = if (c == 127) = true then .ok (true, (seen.add 22).add 16) else Sre.inSet rxName.toArray c 18 10 true ((seen.add 22).add 16) := rfl
  have e3 : Sre.inSet rxName.toArray c 18 10 true ((seen.add 22).add 16) = .ok (false, ((seen.add 22).add 16).add 0) := rfl
  exact ⟨_, by rw [e1, if_neg h3, e2, if_neg h2, e3]⟩

theorem rxValue_bits : ((List.range 256).all fun c => !((decide (32 ≤ c) || c == 9) && c != 127) || !((rxValue.toArray.getD (5 + (1 + c / 32)) 0).testBit (c % 32))) = true := by decide +kernel
theorem rxValue_out {c : Nat} (h : ((decide (32 ≤ c) || c == 9) && c != 127) = true) (seen : Sre.Seen) : ∃ seen', Sre.inSet rxValue.toArray c rxValue.toArray.size 5 true seen = .ok (false, seen') := by
  have h3 : ¬ (decide (c < 256) && (rxValue.toArray.getD (5 + (1 + c / 32)) 0).testBit (c % 32)) = true := by
    intro q
    simp only [Bool.and_eq_true, decide_eq_true_eq] at q
    have := List.all_eq_true.mp rxValue_bits c (List.mem_range.mpr q.1)
    rw [h, q.2] at this
    cases this
  have e1 : Sre.inSet rxValue.toArray c rxValue.toArray.size 5 true seen = if (decide (c < 256) && (rxValue.toArray.getD (5 + (1 + c / 32)) 0).testBit (c % 32)) = true then .ok (true, seen.add 9) else Sre.inSet rxValue.toArray c 27 14 true (seen.add 9) := rfl
  have e2 : Sre.inSet rxValue.toArray c 27 14 true (seen.add 9) = .ok (false, (seen.add 9).add 0) := rfl
  exact ⟨_, by rw [e1, if_neg h3, e2]⟩

theorem admitted_none {m : Sre.M} (h : ∀ i < m.lim, ∀ seen, ∃ seen', Sre.inSet m.code (m.text.getD i 0) m.code.size 5 true seen = .ok (false, seen')) : ∀ (fuel s : Nat) (seen : Sre.Seen), ∃ seen', Sre.M.admitted m fuel s seen = .ok (none, seen')
  | 0, _, seen => ⟨seen, rfl⟩
  | fuel + 1, s, seen => by
    unfold Sre.M.admitted
    split
    · exact ⟨seen, rfl⟩
    · rename_i hs
      obtain ⟨seen', e⟩ := h s (by omega) seen
      rw [e]
      exact admitted_none h fuel (s + 1) seen'

theorem attempt_none {m : Sre.M} {s : Nat} {first : Bool} (hf : m.hasFirstSet = true) (h : ∀ i < m.lim, ∀ seen, ∃ seen', Sre.inSet m.code (m.text.getD i 0) m.code.size 5 true seen = .ok (false, seen')) :
    ∃ m' : Sre.M, m.attemptFrom s first = m'.say false ∧ m'.outcome = m.outcome ∧ m'.frames = m.frames := by
  obtain ⟨seen', e⟩ := admitted_none h (m.lim + 1 - s) s m.seen
  unfold Sre.M.attemptFrom
  rw [hf]
  simp only [Bool.not_true, Bool.false_eq_true, if_false]
  rw [e]
  exact ⟨{ m with seen := seen' }, rfl, rfl, rfl⟩
theorem said_fails {m : Sre.M} (h1 : m.outcome = none) (h2 : m.frames = []) : ((m.say false).runFor 4).outcome = some .failed := by
  have s1 : (m.say false).step = { m.say false with outcome := some .failed } := by
    unfold Sre.M.step
    have : (m.say false).outcome = none := h1
    rw [this]
    have h3 : (m.say false).answer = some false := rfl
    have h4 : (m.say false).frames = [] := h2
    simp only [Option.isSome_none, Bool.false_eq_true, if_false, h3, h4]
  have s0 : (m.say false).runFor 4 = ((m.say false).step).runFor 3 := by
    show (if (m.say false).outcome.isSome then m.say false else ((m.say false).step).runFor 3) = _
    rw [show (m.say false).outcome = none from h1]; rfl
  rw [s0, s1]
  rfl
theorem search_fails {code text : Array Nat} (h0 : Sre.ops[code.getD 0 0]? = some .INFO) (h2 : code.getD 2 0 = 4) (h3 : code.getD 3 0 = 1)
    (h : ∀ i < text.size, ∀ seen, ∃ seen', Sre.inSet code (text.getD i 0) code.size 5 true seen = .ok (false, seen')) :
    ((Sre.forSearch code text 0 0 text.size false).runFor 4).outcome = some .failed := by
  have key : ∃ m : Sre.M, Sre.forSearch code text 0 0 text.size false = m.say false ∧ m.outcome = none ∧ m.frames = [] := by
    unfold Sre.forSearch
    have hl : (Sre.header code).1 = 1 := by unfold Sre.header; rw [h0]; exact h3
    simp only [hl]
    split
    · exact ⟨_, rfl, rfl, rfl⟩
    · have hf : ∀ m : Sre.M, m.code = code → m.hasFirstSet = true := fun m e => by
        unfold Sre.M.hasFirstSet; rw [e, h0, h2]; rfl
      exact attempt_none (hf _ rfl) h
  obtain ⟨m, e, o, f⟩ := key
  rw [e]; exact said_fails o f

section
variable {prog : Program} {w : World} {A : Around} {E : Value → Shared → Prop} {s : Shared}
open Builtin.Re
theorem drive_fails {m : Sre.M} {Q : Option Sre.M → Shared → Prop} (h : (m.runFor 4).outcome = some .failed) (q : Q none s) : wpAny (model prog w) A (reRunToEnd m) Q E s := by
  unfold reRunToEnd
  have e : reDrive (2 ^ 64) m = pure (m.runFor 4) := by
    show (if (m.runFor 4).outcome.isSome then pure (m.runFor 4) else _) = _
    rw [h]; rfl
  rw [e]
  refine wpAny_bind (wpAny_pure (wpAny_bind ?_))
  refine wpAny_forIn_list _ (fun _ _ s' => s' = s) _ (fun x rest b s' hs => ?_) (fun b s' hs => ?_) _ _ rfl
  · subst hs
    split
    · exact wpAny_bind (wpAny_rule (wpAny_pure rfl))
    · exact wpAny_pure rfl
  · subst hs
    rw [h]; exact wpAny_pure q
theorem slot_re_search : Slot "re.Pattern" "search" "re.Pattern.search" :=
  .of (owner := "re.Pattern") (n := "search") (by rw [typeLookup_type, builtinLookup_eq_fast]; kernel_rfl) (by decide +kernel) (by decide +kernel) (by decide +kernel)
    (by first | exact .inl (by decide +kernel) | exact .inr (by decide +kernel)) (by rw [isSubtype_type]; kernel_rfl)
theorem entry_re_search : entryFor table "re.Pattern.search" = some Builtin.«re.Pattern.search» := entryFor_of_tree (by kernel_rfl)
theorem args_re_search (a b : Value) : argsOk "re.Pattern.search" ⟨[a, b], []⟩ := by unfold argsOk; kernel_rfl
theorem attrs_re : PlainAttrs "re.Pattern" := ⟨⟨"object.__getattribute__", by rw [typeLookup_type, builtinLookup_eq_fast]; kernel_rfl, by decide +kernel⟩, by rw [typeLookup_type, builtinLookup_eq_fast]; kernel_rfl⟩
theorem type_re_search : typeOf (.builtin "re.Pattern.search") = pure (.type "method_descriptor") := by show builtinType _ = _; rw [builtinType_eq_fast]; kernel_rfl
end
end Mine

namespace Mine
section
variable {prog : Program} {w : World} {A : Around} {E : Value → Shared → Prop} {s : Shared}
open Builtin.Re

noncomputable def IsPat (h : Heap) (a : Addr) (code : List Nat) : Prop :=
  ∃ o p0 p1 t2 p3 p4 c t6 oc items n, h.get? a = some o ∧ o.cls = .type "re.Pattern" ∧ o.dict = none ∧ o.data = .fields #[p0, p1, .int 0 t2, p3, p4, .ref c, .int 0 t6] ∧ h.get? c = some oc ∧ oc.data = .seq items n ∧ (items.map reRawOf).map (·.toNat) = code.toArray

theorem search_none {a : Addr} {code : List Nat} {x : List Nat} {t : Tok} {Q : Value → Shared → Prop} (hp : IsPat s.heap a code)
    (h0 : Sre.ops[code.toArray.getD 0 0]? = some .INFO) (h2 : code.toArray.getD 2 0 = 4) (h3 : code.toArray.getD 3 0 = 1)
    (h : ∀ c ∈ x, ∀ seen, ∃ seen', Sre.inSet code.toArray c code.toArray.size 5 true seen = .ok (false, seen')) (hx : x.length ≤ 1000000) (q : Q .none s) :
    wpAny (model prog w) A (call (.builtin "re.Pattern.search") [.ref a, .str (strV x) t]) Q E s := by
  obtain ⟨o, p0, p1, t2, p3, p4, c, t6, oc, items, n, ho, hcl, hdi, hd, hc, hcd, hcode⟩ := hp
  refine wpAny_call_entry slot_re_search ⟨o, ho, hcl⟩ entry_re_search ?_ (args_re_search _ _)
  unfold Builtin.«re.Pattern.search»
  refine wpAny_bind ?_
  unfold reTarget
  show wpAny _ _ (reNamed "re.Pattern.search" "search" ["string", "pos", "endpos"] 1 [.str (strV x) t] [] >>= _) _ _ s
  have hn : reNamed "re.Pattern.search" "search" ["string", "pos", "endpos"] 1 [.str (strV x) t] [] = pure [some (.str (strV x) t), none, none] := by rfl
  rw [hn]
  refine wpAny_bind (wpAny_pure ?_)
  dsimp only
  refine wpAny_bind (wpAny_pure (wpAny_bind (wpAny_pure ?_)))
  refine wpAny_bind (wpAny_fieldsOf ho hd ?_)
  have ht : reTextOf (.str (strV x) t) = pure ((strV x).cps, 0) := rfl
  rw [ht]
  refine wpAny_bind (wpAny_pure ?_)
  dsimp only
  have hw : (reRawNat ((#[p0, p1, Value.int 0 t2, p3, p4, Value.ref c, Value.int 0 t6] : Array Value).getD 6 .none)) = 0 := rfl
  rw [hw]
  refine wpAny_bind ?_
  show wpAny _ _ (pure ()) _ _ s
  refine wpAny_pure ?_
  unfold reRawItems
  refine wpAny_bind (wpAny_bind ?_)
  show wpAny _ _ (seqItems? (.ref c)) _ _ s
  refine wpAny_seqItems hc hcd (wpAny_pure (wpAny_pure ?_))
  dsimp only
  unfold reAnswer
  refine wpAny_bind (drive_fails ?_ (wpAny_pure ⟨_, rfl, q⟩))
  have e1 : (Option.getD (some items) #[]) = items := rfl
  have e2 : min (2 ^ 63 - 1 : Int).toNat (strV x).cps.size = (strV x).cps.size := by
    apply Nat.min_eq_right; show x.toArray.size ≤ _; rw [List.size_toArray]; omega
  have e3 : min (Int.toNat 0) (strV x).cps.size = 0 := by simp
  have e4 : (reRawNat ((#[p0, p1, Value.int 0 t2, p3, p4, Value.ref c, Value.int 0 t6] : Array Value).getD 2 .none)) = 0 := rfl
  rw [e1, e2, e3, e4, hcode]
  refine search_fails h0 h2 h3 fun i hi seen => ?_
  refine h _ ?_ seen
  have hi' : i < x.length := by simpa [strV] using hi
  have : (strV x).cps.getD i 0 = x[i] := by simp [strV, hi']
  rw [this]; exact List.getElem_mem hi'
end
end Mine

namespace Mine

structure Pats (hb : Heap) (nd vd : Nat) : Prop where
  pn : IsPat hb nd rxName
  pv : IsPat hb vd rxValue
  ne : nd ≠ vd
theorem IsPat.keeps {h h' : Heap} {a : Addr} {code : List Nat} (x : IsPat h a code) (hk : ∀ b o, h.get? b = some o → h'.get? b = some o) : IsPat h' a code := by
  obtain ⟨o, p0, p1, t2, p3, p4, c, t6, oc, items, n, h1, h2, h3, h4, h5, r⟩ := x
  exact ⟨o, p0, p1, t2, p3, p4, c, t6, oc, items, n, hk _ _ h1, h2, h3, h4, hk _ _ h5, r⟩
theorem IsPat.obj {h : Heap} {a : Addr} {code : List Nat} (x : IsPat h a code) : ∃ o, h.get? a = some o ∧ o.cls = .type "re.Pattern" ∧ o.dict = none := by
  obtain ⟨o, p0, p1, t2, p3, p4, c, t6, oc, items, n, h1, h2, h3, h4, h5, r⟩ := x
  exact ⟨o, h1, h2, h3⟩

theorem strsOf_are {g : Part} {φ : List Addr} : ∀ {ds : List V} {vs : List Value} {ss : List (List Nat)}, VRs g φ vs ds → strsOf ds = some ss → StrsAre vs (ss.map strV)
  | [], _, _, h, e => by cases e; rw [h.inv0]; exact .nil
  | d :: ds, _, _, h, e => by
    obtain ⟨v, ws, rfl, hv, hr⟩ := h.inv
    obtain ⟨x, rfl, e⟩ := strK_inv e
    obtain ⟨js, h1, rfl⟩ := Option.map_eq_some_iff.mp e
    obtain ⟨t, rfl⟩ := hv.ofStr
    exact .cons _ t (strsOf_are hr h1)
theorem join_strV (sep : List Nat) : ∀ ss : List (List Nat), Str.join (strV sep) (ss.map strV) = strV (joinT sep ss)
  | [] => rfl
  | [x] => rfl
  | x :: y :: r => by
    have ih := join_strV sep (y :: r)
    show strV x ++ strV sep ++ Str.join (strV sep) ((y :: r).map strV) = strV (x ++ sep ++ joinT sep (y :: r))
    rw [ih, strV_append, strV_append]
theorem lower_strV {x y : List Nat} (e : lowerT x = some y) : Txt.lower (strV x) = strV y ∧ x.length ≤ 1000000 := by
  obtain ⟨h, e⟩ := ite_some e
  cases e
  refine ⟨?_, h.2⟩
  rw [lower_ascii (by simpa [strV] using h.1)]
  simp [strV, lowerN, lo1]

section
variable {prog : Program} {hb : Heap} {C : Cx} {n : Nat} {σ σ' : Store} {A : Around} {s : Shared} {φ : List Addr} {g : Part} {E : Value → Shared → Prop}

theorem strMs_cases {m id : String} (h : strMs.lookup m = some id) : (m = "lower" ∧ id = "str.lower") ∨ (m = "join" ∧ id = "str.join") ∨ (m = "index" ∧ id = "str.index") ∨ (m = "find" ∧ id = "str.find") ∨ (m = "split" ∧ id = "str.split") ∨ (m = "encode" ∧ id = "str.encode") := by
  have step : ∀ {a b : String} {l : List (String × String)}, ((a, b) :: l).lookup m = some id → (m = a ∧ id = b) ∨ l.lookup m = some id := fun {a b l} h => by
    rw [List.lookup_cons] at h
    split at h
    · rename_i q; cases h; exact .inl ⟨beq_iff_eq.mp q, rfl⟩
    · exact .inr h
  refine (step h).imp_right fun h => (step h).imp_right fun h => (step h).imp_right fun h => (step h).imp_right fun h => (step h).imp_right fun h => (step h).resolve_right fun h => by cases h
theorem smId_name {nd vd : Nat} {m id : String} {x : V} (e : smId nd vd m σ x = some id) : (∃ y, x = .str y ∧ strMs.lookup m = some id) ∨ (∃ a, x = .gl a ∧ (a = nd ∨ a = vd) ∧ m = "search" ∧ id = "re.Pattern.search") ∨
    (∃ k vs, x = .own k ∧ σ[k]? = some (.lst vs) ∧ m = "append" ∧ id = "list.append") ∨ (∃ k es, x = .own k ∧ σ[k]? = some (.dct es) ∧ m = "items" ∧ id = "dict.items") := by
  rcases Option.or_eq_some_iff.mp e with e | ⟨-, e⟩
  · rcases Option.or_eq_some_iff.mp e with e | ⟨-, e⟩
    · exact .inl (strK_inv e)
    · obtain ⟨a, rfl, e⟩ := glK_inv e
      obtain ⟨h, e⟩ := ite_some e
      exact .inr (.inl ⟨a, rfl, h.2, h.1, (Option.some.inj e).symm⟩)
  · obtain ⟨k, rfl, e⟩ := ownK_inv e
    rcases Option.or_eq_some_iff.mp e with e | ⟨-, e⟩
    · obtain ⟨vs, q, e⟩ := lstK_inv e
      obtain ⟨h, e⟩ := ite_some e
      exact .inr (.inr (.inl ⟨k, vs, rfl, q, h, (Option.some.inj e).symm⟩))
    · obtain ⟨vs, q, e⟩ := dctK_inv e
      obtain ⟨h, e⟩ := ite_some e
      exact .inr (.inr (.inr ⟨k, vs, rfl, q, h, (Option.some.inj e).symm⟩))
set_option maxHeartbeats 2000000 in
theorem sm_get {nd vd : Nat} {m id : String} {x : V} {v : Value} {pl : Sem Bool} {Q : Value × List Value → Shared → Prop} (P : Pats hb nd vd) (e : smId nd vd m σ x = some id) (S : Sim hb C φ σ g s.heap) (hv : VR g φ v x) (q : Q (.builtin id, [v]) s) :
    wpAny (model prog C.w) A (getMethod v (Str.ofString m) pl) Q E s := by
  rcases smId_name e with ⟨y, rfl, h⟩ | ⟨a, rfl, h, rfl, rfl⟩ | ⟨k, vs, rfl, h, rfl, rfl⟩ | ⟨k, vs, rfl, h, rfl, rfl⟩
  · obtain ⟨t, rfl⟩ := hv.ofStr
    rcases strMs_cases h with ⟨rfl, rfl⟩ | ⟨rfl, rfl⟩ | ⟨rfl, rfl⟩ | ⟨rfl, rfl⟩ | ⟨rfl, rfl⟩ | ⟨rfl, rfl⟩
    · exact GM.of _ (typeIs_str _ _ _) F.slot_str_lower F.type_str_lower GM.noRef q
    · exact GM.of _ (typeIs_str _ _ _) F.slot_str_join F.type_str_join GM.noRef q
    · exact GM.of _ (typeIs_str _ _ _) F.slot_str_index F.type_str_index GM.noRef q
    · exact GM.of _ (typeIs_str _ _ _) F.slot_str_find F.type_str_find GM.noRef q
    · exact GM.of _ (typeIs_str _ _ _) F.slot_str_split F.type_str_split GM.noRef q
    · exact GM.of _ (typeIs_str _ _ _) F.slot_str_encode F.type_str_encode GM.noRef q
  · cases hv
    obtain ⟨o, ho, hc, hd⟩ : ∃ o, hb.get? a = some o ∧ o.cls = .type "re.Pattern" ∧ o.dict = none := by
      rcases h with rfl | rfl
      · exact P.pn.obj
      · exact P.pv.obj
    exact getMethod_builtin ⟨o, S.hbk _ _ ho, hc⟩ attrs_re slot_re_search type_re_search (fun a' e => by cases e; exact ⟨o, S.hbk _ _ ho, hd⟩) q
  · obtain ⟨a, rfl, ha⟩ := hv.ofOwn
    obtain ⟨ws, ⟨m', ho⟩, hr⟩ := S.own _ _ _ ha h
    exact getMethod_builtin ⟨_, ho, rfl⟩ F.plainAttrs_list F.slot_list_append F.type_list_append (fun a' e => by cases e; exact ⟨_, ho, rfl⟩) q
  · obtain ⟨a, rfl, ha⟩ := hv.ofOwn
    obtain ⟨_, _, _, ho, _, _⟩ := S.own _ _ _ ha h
    exact getMethod_builtin ⟨_, ho, rfl⟩ F.plainAttrs_dict F.slot_dict_items F.type_dict_items (fun a' e => by cases e; exact ⟨_, ho, rfl⟩) q

theorem ents_size (w : World) (l : List (List Nat × Tok × Value)) : (entsOf w l).length = l.length := by unfold entsOf; rw [List.length_map]
theorem ents_pairs (l : List (List Nat × Tok × Value)) : Pairs (strKind prog C.w) (entsOf C.w l) (l.map fun p => (strV p.1, p.2.2)) := by
  induction l with
  | nil => exact .nil
  | cons p r ih => exact .cons (by simp [PySem.strKind, Value.isStrOf]) rfl ih
theorem strV_inj' {x y : List Nat} (h : strV x = strV y) : x = y := by
  have := beq_iff_eq.mpr h
  rw [strV_inj] at this
  exact beq_iff_eq.mp this
theorem dict_at {a : Addr} {l : List (List Nat × Tok × Value)} {n : Nat} {h : Heap} (ho : h.get? a = some (dictOf (entsOf C.w l) n)) (hn : (l.map (·.1)).Nodup) : h.DictAt (strKind prog C.w) a (l.map fun p => (strV p.1, p.2.2)) n := by
  refine ⟨_, (entsOf C.w l).toArray, ho, ⟨rfl, rfl, rfl⟩, rfl, fun e he => ?_, ents_pairs l, ?_⟩
  · obtain ⟨p, _, rfl⟩ := List.mem_map.mp (show e ∈ entsOf C.w l from by simpa using he)
    exact ⟨strV p.1, by simp [PySem.strKind, Value.isStrOf], rfl⟩
  · rw [List.map_map]
    have : (l.map ((fun x => x.1) ∘ fun p => (strV p.1, p.2.2))) = (l.map (·.1)).map strV := by rw [List.map_map]; rfl
    rw [this]
    exact List.pairwise_map.mpr (hn.imp fun h q => h (strV_inj' q))
theorem strs_vrs {g : Part} {φ : List Addr} : ∀ l : List (Str × Tok), VRs g φ (strValues l) (((l.map (·.1)).map fun z => z.cps.toList).map V.str)
  | [] => .nil
  | (x, t) :: r => .cons (VR.str (g := g) (φ := φ) x.cps.toList t) (strs_vrs r)
theorem sm_lower {y : List Nat} {t : Tok} {d : V} {ds : List V} {vals : List Value} (e : lowS σ (.str y) ds = some (d, σ')) (S : Sim hb C φ σ g s.heap) (hvs : VRs g φ vals ds) : wpAny (model prog C.w) A (call (.builtin "str.lower") (.str (strV y) t :: vals)) (Post hb C φ g s σ' d) E s := by
  obtain ⟨hds, e⟩ := ite_some (show (if ds.isEmpty then (lowerT y).map fun y => (V.str y, σ) else none) = some (d, σ') from e)
  cases List.isEmpty_iff.mp hds
  cases hvs.inv0
  obtain ⟨z, h1, h2⟩ := Option.map_eq_some_iff.mp e
  cases h2
  obtain ⟨hl, hx⟩ := lower_strV h1
  refine SCL.lower (by rw [strV_len]; omega) fun _ => ?_
  rw [hl]; exact Post.here S (.str _ _) _
theorem sm_join {y : List Nat} {t : Tok} {d : V} {ds : List V} {vals : List Value} (e : joinS σ (.str y) ds = some (d, σ')) (S : Sim hb C φ σ g s.heap) (hvs : VRs g φ vals ds) : wpAny (model prog C.w) A (call (.builtin "str.join") (.str (strV y) t :: vals)) (Post hb C φ g s σ' d) E s := by
  obtain ⟨d1, rfl, e⟩ := one1_inv e
  obtain ⟨u, rfl, hu⟩ := hvs.inv1
  obtain ⟨ws, h1, h2⟩ := Option.bind_eq_some_iff.mp e
  obtain ⟨ss, h3, h4⟩ := Option.bind_eq_some_iff.mp h2
  obtain ⟨hl, h4⟩ := ite_some h4
  cases h4
  obtain ⟨a, us, rfl, hL, hr⟩ := lst_at S hu h1
  refine join_list hL (ys := ss.map strV) (strsOf_are hr h3) ?_ fun t' tk => ?_
  · have : ((ss.map strV).map (·.length)) = ss.map (·.length) := by rw [List.map_map]; congr 1
    rw [this, List.length_map, strV_len]; exact hl
  · have : Txt.join (strV y) (ss.map strV) = strV (joinT y ss) := by
      rw [← join_strV]; exact eq_of_beq (join_closes rfl)
    rw [this]; exact Post.here S (.str _ _) _
theorem sm_index {y : List Nat} {t : Tok} {d : V} {ds : List V} {vals : List Value} (e : indexS σ (.str y) ds = some (d, σ')) (S : Sim hb C φ σ g s.heap) (hvs : VRs g φ vals ds) : wpAny (model prog C.w) A (call (.builtin "str.index") (.str (strV y) t :: vals)) (Post hb C φ g s σ' d) E s := by
  obtain ⟨d1, rfl, e⟩ := one1_inv e
  obtain ⟨u, rfl, hu⟩ := hvs.inv1
  obtain ⟨z, rfl, e⟩ := strK_inv (show strK d1 _ = some (d, σ') from e)
  obtain ⟨t', rfl⟩ := hu.ofStr
  obtain ⟨i, hi, e⟩ := Option.map_eq_some_iff.mp e
  cases e
  obtain ⟨rest, ho⟩ := List.head?_eq_some_iff.mp hi
  exact SC.index ho (Post.here S (.int _ _) _)
theorem sm_find {y : List Nat} {t : Tok} {d : V} {ds : List V} {vals : List Value} (e : findS σ (.str y) ds = some (d, σ')) (S : Sim hb C φ σ g s.heap) (hvs : VRs g φ vals ds) : wpAny (model prog C.w) A (call (.builtin "str.find") (.str (strV y) t :: vals)) (Post hb C φ g s σ' d) E s := by
  obtain ⟨d1, rfl, e⟩ := one1_inv e
  obtain ⟨u, rfl, hu⟩ := hvs.inv1
  obtain ⟨z, rfl, e⟩ := strK_inv (show strK d1 _ = some (d, σ') from e)
  obtain ⟨t', rfl⟩ := hu.ofStr
  cases e
  exact SC.find (Post.here S (.int _ _) _)
theorem sm_split {y : List Nat} {t : Tok} {d : V} {ds : List V} {vals : List Value} (e : splitS σ (.str y) ds = some (d, σ')) (S : Sim hb C φ σ g s.heap) (hvs : VRs g φ vals ds) : wpAny (model prog C.w) A (call (.builtin "str.split") (.str (strV y) t :: vals)) (Post hb C φ g s σ' d) E s := by
  obtain ⟨d1, rfl, e⟩ := one1_inv e
  obtain ⟨u, rfl, hu⟩ := hvs.inv1
  obtain ⟨z, rfl, e⟩ := strK_inv (show strK d1 _ = some (d, σ') from e)
  obtain ⟨t', rfl⟩ := hu.ofStr
  obtain ⟨hz, e⟩ := ite_none e
  obtain ⟨hl, e⟩ := ite_some e
  cases e
  refine split_push (by rw [strV_len, beq_eq_false_iff_ne]; exact fun q => hz (List.isEmpty_iff.mpr (List.length_eq_zero_iff.mp q))) (by rw [strV_len]; exact hl) fun l k hk => ?_
  obtain ⟨S', G'⟩ := S.put (fresh_none s.heap) (Heap.get?_push_size _ (o := { cls := .type "list", data := .seq (strValues l).toArray }) rfl) fun b o e => Heap.get?_push_of_some _ e
  refine ⟨φ, _, G', S', .list (if_pos rfl) rfl rfl rfl ?_, ⟨_, _, rfl⟩⟩
  unfold splitT
  rw [← hk]
  exact strs_vrs l
theorem sm_encode {y : List Nat} {t : Tok} {d : V} {ds : List V} {vals : List Value} (e : encS σ (.str y) ds = some (d, σ')) (S : Sim hb C φ σ g s.heap) (hvs : VRs g φ vals ds) : wpAny (model prog C.w) A (call (.builtin "str.encode") (.str (strV y) t :: vals)) (Post hb C φ g s σ' d) E s := by
  obtain ⟨d1, rfl, e⟩ := one1_inv e
  obtain ⟨u, rfl, hu⟩ := hvs.inv1
  obtain ⟨z, rfl, e⟩ := strK_inv (show strK d1 _ = some (d, σ') from e)
  obtain ⟨t', rfl⟩ := hu.ofStr
  obtain ⟨⟨rfl, hl, hx⟩, e1⟩ := ite_some e
  cases e1
  have hx : ∀ c ∈ y, c < 256 := fun c m => of_decide_eq_true (List.all_eq_true.mp hx c m)
  exact enc_latin hx hl fun t' k => Post.here S (.bytes _ _ hx) _
theorem sm_str {m id : String} {y : List Nat} {nd vd : Nat} {d : V} {ds : List V} {v : Value} {vals : List Value} (hid : strMs.lookup m = some id) (e : smV nd vd m σ (.str y) ds = some (d, σ')) (S : Sim hb C φ σ g s.heap) (hv : VR g φ v (.str y)) (hvs : VRs g φ vals ds) :
    wpAny (model prog C.w) A (call (.builtin id) (v :: vals)) (Post hb C φ g s σ' d) E s := by
  obtain ⟨t, rfl⟩ := hv.ofStr
  rcases strMs_cases hid with ⟨rfl, rfl⟩ | ⟨rfl, rfl⟩ | ⟨rfl, rfl⟩ | ⟨rfl, rfl⟩ | ⟨rfl, rfl⟩ | ⟨rfl, rfl⟩
  · exact sm_lower e S hvs
  · exact sm_join e S hvs
  · exact sm_index e S hvs
  · exact sm_find e S hvs
  · exact sm_split e S hvs
  · exact sm_encode e S hvs
theorem sm_search {nd vd a : Nat} {d : V} {ds : List V} {vals : List Value} (P : Pats hb nd vd) (e : searchS nd vd σ (.gl a) ds = some (d, σ')) (S : Sim hb C φ σ g s.heap) (hvs : VRs g φ vals ds) :
    wpAny (model prog C.w) A (call (.builtin "re.Pattern.search") (.ref a :: vals)) (Post hb C φ g s σ' d) E s := by
  obtain ⟨d1, rfl, e⟩ := one1_inv (show one1 ds _ = some (d, σ') from e)
  obtain ⟨u, rfl, hu⟩ := hvs.inv1
  obtain ⟨y, rfl, e⟩ := strK_inv e
  obtain ⟨t, rfl⟩ := hu.ofStr
  obtain ⟨⟨hl, h⟩, e⟩ := ite_some e
  cases e
  have q := Post.here (v := .none) S .none s.toks
  rcases h with ⟨rfl, hy⟩ | ⟨rfl, hy⟩
  · exact search_none (P.pn.keeps S.hbk) rfl rfl rfl (fun c hc seen => rxName_out (List.all_eq_true.mp hy c hc) seen) hl q
  · exact search_none (P.pv.keeps S.hbk) rfl rfl rfl (fun c hc seen => rxValue_out (List.all_eq_true.mp hy c hc) seen) hl q
theorem sm_append {k : Nat} {v : Value} {d : V} {ds : List V} {vals : List Value} (e : appendS σ (.own k) ds = some (d, σ')) (S : Sim hb C φ σ g s.heap) (hv : VR g φ v (.own k)) (hvs : VRs g φ vals ds) :
    wpAny (model prog C.w) A (call (.builtin "list.append") (v :: vals)) (Post hb C φ g s σ' d) E s := by
  obtain ⟨d1, rfl, e⟩ := one1_inv (show one1 ds _ = some (d, σ') from e)
  obtain ⟨u, rfl, hu⟩ := hvs.inv1
  obtain ⟨vs, q, e⟩ := lstK_inv e
  obtain ⟨hl, e⟩ := ite_some e
  cases e
  obtain ⟨a, rfl, ha⟩ := hv.ofOwn
  obtain ⟨ws, hp, hr⟩ := S.own _ _ _ ha q
  refine wpAny_list_append_plain hp (fun h' hp' hs' => ?_) (by rw [List.size_toArray, hr.length]; exact Nat.le_trans hl (by decide))
  obtain ⟨S', G'⟩ := S.turn (x := .lst (vs ++ [d1])) ha hs' ⟨ws ++ [u], by rw [List.push_toArray] at hp'; exact hp', hr.append (.cons hu .nil)⟩
  exact ⟨φ, g, G', S', .none, ⟨h', s.toks, rfl⟩⟩
theorem sm_items {k : Nat} {v : Value} {d : V} {ds : List V} {vals : List Value} (e : itemsS σ (.own k) ds = some (d, σ')) (S : Sim hb C φ σ g s.heap) (hv : VR g φ v (.own k)) (hvs : VRs g φ vals ds) :
    wpAny (model prog C.w) A (call (.builtin "dict.items") (v :: vals)) (Post hb C φ g s σ' d) E s := by
  obtain ⟨es, q, e⟩ := dctK_inv e
  obtain ⟨hds, e⟩ := ite_some e
  cases e
  cases List.isEmpty_iff.mp hds
  cases hvs.inv0
  obtain ⟨a, rfl, ha⟩ := hv.ofOwn
  obtain ⟨hn, hnd, l, ho, hk, hr⟩ := S.own _ _ _ ha q
  have hd : s.heap.DictAt (strKind prog C.w) a _ l.length := dict_at ho (hk ▸ hnd)
  refine call_meetsIn F.slot_dict_items ⟨_, ho, rfl⟩ F.entry_dict_items (F.args_dict_items_1 _) (meets_dict_items (strKind prog C.w) a (beq_eq_false_iff_ne.mpr hn)) ⟨⟨_, hd.dictOf⟩, ?_⟩
  obtain ⟨S', G'⟩ := S.put (fresh_none s.heap) (o := { cls := .type "dict_items", data := .fields #[.ref a] }) (h' := s.heap.push { cls := .type "dict_items", data := .fields #[.ref a] }) (Heap.get?_push_size _ rfl) (fun b o e => Heap.get?_push_of_some _ e)
  exact ⟨φ, _, G', S', VR.items ha (if_pos rfl), ⟨_, _, rfl⟩⟩
theorem sm_call {nd vd : Nat} {m id : String} {x d : V} {ds : List V} {v : Value} {vals : List Value} {σ₀ : Store} (P : Pats hb nd vd) (hid : smId nd vd m σ₀ x = some id) (e : smV nd vd m σ x ds = some (d, σ')) (S : Sim hb C φ σ g s.heap) (hv : VR g φ v x) (hvs : VRs g φ vals ds) :
    wpAny (model prog C.w) A (call (.builtin id) (v :: vals)) (Post hb C φ g s σ' d) E s := by
  rcases smId_name hid with ⟨y, rfl, h⟩ | ⟨a, rfl, h, rfl, rfl⟩ | ⟨k, vs, rfl, h, rfl, rfl⟩ | ⟨k, vs, rfl, h, rfl, rfl⟩
  · exact sm_str h e S hv hvs
  · cases hv; exact sm_search P e S hvs
  · exact sm_append (show appendS σ (.own k) ds = _ from e) S hv hvs
  · exact sm_items (show itemsS σ (.own k) ds = _ from e) S hv hvs
end
end Mine

namespace Mine

noncomputable def baseOk : Expr → Bool
  | .Call (.Name _ _) [] [] _ => false
  | _ => true
theorem base_eq {o : Expr} {attr : Str} {env : Env} {whole : Sem Value} (h : baseOk o = true) : attributeBase o attr env whole = whole := by
  cases o <;> first | rfl | skip
  rename_i f as ks p
  cases f <;> first | rfl | skip
  cases as <;> first | rfl | skip
  cases ks <;> first | rfl | cases h

noncomputable def isName (e : Expr) : Bool := decide (e.ctorIdx = 23)

section
variable {prog : Program} {hb : Heap} {C : Cx} {n : Nat} {env : Env} {ρ : Rho} {σ σ₁ σ₂ σ₃ : Store}

theorem method_form {A : Around} {s : Shared} {E : Value → Shared → Prop} {o : Expr} {name : Str} {apos pos : Pos} {es : List Expr} {ks : List Keyword} {Q : Value → Shared → Prop}
    (hbase : baseOk o = true) (hst : es.all notStar = true) (hkn : (kwNames ks).all (·.isSome) = true) (hlen : es.length + ks.length < 29) (hline : (apos.endLine == pos.line) = true)
    (h : wpAny (model prog C.w) A (eval o env) (fun ov s₁ => ∀ pl, wpAny (model prog C.w) A (getMethod ov name pl) (fun fx s₂ => wpAny (model prog C.w) A (callWith pos fx.1 fx.2 (backTo pos (starEach es env)) (backToKw pos (keywordEach ks env))) Q E s₂) E s₁) E s) :
    wpAny (model prog C.w) A (eval (.Call (.Attribute o name apos) es ks pos) env) Q E s := by
  rw [arm_eval_Call, base_eq hbase]
  refine wpAny_bind (wpAny_mono h (fun ov s₁ h₁ => wpAny_bind (wpAny_standAt ?_)) fun _ _ x => x)
  have hform : methodCallForm (es.length + ks.length) (backTo pos (starEach es env)) (backToKw pos (keywordEach ks env)) = true := by
    unfold methodCallForm
    have h1 : (backTo pos (starEach es env)).all (!·.1) = true := by
      have := stars_none (env := env) (pos := pos) hst
      rw [List.all_eq_true]; intro x hx
      rw [List.any_eq_false] at this
      simpa using this x hx
    have h2 : (backToKw pos (keywordEach ks env)).all (·.1.isSome) = true := by
      have : (backToKw pos (keywordEach ks env)).all (·.1.isSome) = ((backToKw pos (keywordEach ks env)).map (·.1)).all (·.isSome) := by rw [List.all_map]; rfl
      rw [this, kw_names]; exact hkn
    rw [h1, h2, Bool.true_and, Bool.true_and, decide_eq_true_iff]
    split <;> omega
  unfold methodCall
  rw [hform]
  unfold calleeOf methodCallPos
  simp only [if_true, hline, Bool.not_true, Bool.false_or]
  exact wpAny_bind (wpAny_holding (wpAny_mono (h₁ _) (fun fx s₂ h₂ => wpAny_bind (wpAny_pure h₂)) fun _ _ x => x))

theorem sm_ok {nd vd : Nat} {m id : String} {o : Expr} {apos pos : Pos} {es : List Expr} {x d : V} {ds : List V} (P : Pats hb nd vd) (hbase : baseOk o = true) (hst : es.all notStar = true) (hlen : es.length < 29) (hline : (apos.endLine == pos.line) = true)
    (a : EvOK prog hb C n env ρ σ o x σ₁) (b : EvsOK prog hb C n env ρ σ₁ es ds σ₂) (hid : smId nd vd m σ₁ x = some id) (e : smV nd vd m σ₂ x ds = some (d, σ₃)) :
    EvOK prog hb C n env ρ σ (.Call (.Attribute o (Str.ofString m) apos) es [] pos) d σ₃ := by
  intro A s φ g E hA S R
  refine method_form hbase hst rfl (by simpa using hlen) hline (go hA (a A s φ g E hA S R) (fun v s₁ hA h₁ => ?_))
  obtain ⟨φ₁, g₁, G₁, S₁, V₁, T₁⟩ := h₁
  intro pl
  refine sm_get P hid S₁ V₁ ?_
  refine callWith_mach rfl hst (args_run b evk_nil (show kwIs [] [] from rfl) (stars_head hst) hA S₁ (R.grow G₁) fun y s₂ φ₂ g₂ hA G₂ S₂ T₂ V₂ K₂ => ?_)
  have hk : y.kw = [] := by have := K₂.1; simpa using this
  rw [hk]
  exact wpAny_mono (sm_call P hid e S₂ (V₁.mono G₂.mono G₂.pre) V₂) (fun _ _ p => (p.trans G₂ T₂).trans G₁ T₁) fun _ _ e => e

structure ClsOK (K : Frag) (hb : Heap) (C : Addr) (FA : String → Option Addr) : Prop where
  kin : K.In hb
  ga : findIn K (.ref C) "__getattribute__" = some (some (.builtin "object.__getattribute__"))
  gattr : findIn K (.ref C) "__getattr__" = some none
  sattr : findIn K (.ref C) "__setattr__" = some (some (.builtin "object.__setattr__"))
  over : plainOver K C = true
  hasD : hasDictIn K C = true
  hdr : findIn K (.ref C) "_headers" = some none
  makes : makesIn K C = true
  bnd : ∀ m a, FA ("Headers." ++ m) = some a → specialIn K (.ref a) "__get__" = some (some (.builtin "function.__get__")) ∧ takesIn K (.ref a) = some false ∧ copiedNames.contains (Str.ofString m) = false ∧ fnIn K a = true
  meth : ∀ m a, FA ("Headers." ++ m) = some a → findIn K (.ref C) (Str.ofString m) = some (some (.ref a)) ∧ typeIn K (.ref a) = some (.type "function") ∧ (Str.ofString m == ("_headers" : Str)) = false

theorem inst_at {s : Shared} {φ : List Addr} {g : Part} {k : Nat} {v : Value} (S : Sim hb C φ σ g s.heap) (hv : VR g φ v (.own k)) (hi : isInst σ k = true) :
    ∃ a dx es m, v = .ref a ∧ InstAt s.heap a (instObj C.c dx) C.c (some (dictOf es m)) ∧ ∀ name : Str, (name == ("_headers" : Str)) = false → getL name es = some none := by
  obtain ⟨a, rfl, ha⟩ := hv.ofOwn
  obtain ⟨_, hi'⟩ := Option.isSome_iff_exists.mp hi
  obtain ⟨d, q, hi'⟩ := instK_inv hi'
  obtain ⟨x, q2, -⟩ := attrsK_inv hi'
  obtain ⟨dx, h1, h2⟩ := S.own _ _ _ ha q
  have h3 := S.own _ _ _ h1 q2
  cases x with
  | none => exact ⟨a, dx, [], 0, rfl, ⟨h2, rfl, rfl, h3⟩, fun _ _ => rfl⟩
  | some x =>
    obtain ⟨hsh, t, u, n, h4, h5⟩ := h3
    refine ⟨a, dx, _, n, rfl, ⟨h2, rfl, rfl, h4⟩, fun name hn => ?_⟩
    have : (Value.str (Str.ofString "_headers") t).isStr name = false := by
      show (Str.ofString "_headers" == name) = false
      rw [Bool.eq_false_iff] at hn ⊢
      intro q; exact hn (by rw [beq_iff_eq] at q ⊢; exact q.symm)
    unfold getL
    rw [List.find?_cons, this]
    rfl

theorem meth_ok {K : Frag} {O : Orc} {FA : String → Option Addr} {m : String} {fa : Addr} {o : Expr} {apos pos : Pos} {es : List Expr} {ks : List Keyword} {k : Nat} {d : V} {ds : List V} {kds : List (List Nat × V)} {σ₄ : Store} (hC : ClsOK K hb C.c FA) (hO : CallOK prog hb C FA n O) (hF : FnsOK hb FA) (hf : FA ("Headers." ++ m) = some fa)
    (hbase : baseOk o = true) (hst : es.all notStar = true) (hlen : es.length + ks.length < 29) (hline : (apos.endLine == pos.line) = true)
    (a : EvOK prog hb C n env ρ σ o (.own k) σ₁) (hi : isInst σ₁ k = true) (b : EvsOK prog hb C n env ρ σ₁ es ds σ₂) (c : EvKOK prog hb C n env ρ σ₂ ks kds σ₃) (hk : kwIs ks kds)
    (e : O ("Headers." ++ m) (.own k :: ds) kds σ₃ = some (d, σ₄)) : EvOK prog hb C n env ρ σ (.Call (.Attribute o (Str.ofString m) apos) es ks pos) d σ₄ := by
  intro A s φ g E hA S R
  refine method_form hbase hst (by rw [hk]; simp) hlen hline (go hA (a A s φ g E hA S R) (fun v s₁ hA h₁ => ?_))
  obtain ⟨φ₁, g₁, G₁, S₁, V₁, T₁⟩ := h₁
  intro pl
  obtain ⟨x, dx, es', m', rfl, I, hn⟩ := inst_at S₁ V₁ hi
  obtain ⟨m1, m2, m3⟩ := hC.meth m fa hf
  refine method_fn (hC.kin.keeps S₁.hbk) I hC.ga hC.gattr m1 m2 (by show (lookIn _ (dictOf es' m')).map _ = _; rw [lookIn_dict, hn _ m3]; rfl) ?_
  obtain ⟨of, fd, ho, hd⟩ := hF _ _ hf
  refine callWith_function_kw (o := of) (fd := fd) (args_run b c hk (stars_head hst) hA S₁ (R.grow G₁) fun y s₂ φ₂ g₂ hA G₂ S₂ T₂ V₂ K₂ => ?_)
  refine ⟨⟨S₂.hbk fa of ho, hd⟩, ?_⟩
  exact wpAny_mono (hO.run hf e hA.rc S₂ (.cons (V₁.mono G₂.mono G₂.pre) V₂) K₂) (fun _ _ p => (p.trans G₂ T₂).trans G₁ T₁) fun _ _ e => e

theorem attr_get {K : Frag} {FA : String → Option Addr} {A : Around} {s : Shared} {φ : List Addr} {g : Part} {E : Value → Shared → Prop} {k d : Nat} {x : V} {v : Value} {expr : Bool} (hC : ClsOK K hb C.c FA) (S : Sim hb C φ σ g s.heap) (hv : VR g φ v (.own k)) (h1 : σ[k]? = some (.inst d)) (h2 : σ[d]? = some (.attrs (some x))) :
    wpAny (model prog C.w) A (getAttr v "_headers" expr) (Post hb C φ g s σ x) E s := by
  obtain ⟨a, rfl, ha⟩ := hv.ofOwn
  obtain ⟨dx, h3, h4⟩ := S.own _ _ _ ha h1
  obtain ⟨hsh, t, u, n, h5, h6⟩ := S.own _ _ _ h3 h2
  have I : InstAt s.heap a (instObj C.c dx) C.c (some (dictOf [⟨hsh, .str (Str.ofString "_headers") t, u⟩] n)) := ⟨h4, rfl, rfl, h5⟩
  have hl : lookIn ("_headers" : Str) (dictOf [⟨hsh, .str (Str.ofString "_headers") t, u⟩] n) = some (some u) := by
    rw [lookIn_dict]; unfold getL
    have : (Value.str (Str.ofString "_headers") t).isStr ("_headers" : Str) = true := by
      show (Str.ofString "_headers" == Str.ofString "_headers") = true
      simp
    rw [List.find?_cons, this]
  exact get_value (hC.kin.keeps S.hbk) I hC.ga (findObj_own hC.hasD hC.hdr rfl hl) (vr_kind h6).1 (Post.here S h6 _)

theorem attr_ok {K : Frag} {FA : String → Option Addr} {o : Expr} {pos : Pos} {k d : Nat} {x : V} (hC : ClsOK K hb C.c FA) (hbase : isName o = true) (a : EvOK prog hb C n env ρ σ o (.own k) σ₁) (h1 : σ₁[k]? = some (.inst d)) (h2 : σ₁[d]? = some (.attrs (some x))) :
    EvOK prog hb C n env ρ σ (.Attribute o "_headers" pos) x σ₁ := by
  intro A s φ g E hA S R
  cases o <;> first | (cases (show false = true from hbase); done) | skip
  rw [arm_eval_Attribute, base_eq rfl]
  refine wpAny_bind (go hA (a A s φ g E hA S R) (fun v s₁ hA h₁ => wpAny_bind (wpAny_standAt ?_)))
  obtain ⟨φ₁, g₁, G₁, S₁, V₁, T₁⟩ := h₁
  refine wpAny_bind (wpAny_holding (wpAny_mono (attr_get hC S₁ V₁ h1 h2) (fun r s₂ h₂ => ?_) fun _ _ e => e))
  exact wpAny_bind (wpAny_pure (wpAny_pure (h₂.trans G₁ T₁)))

theorem new_ok {K : Frag} {O : Orc} {FA : String → Option Addr} {fi : Addr} {x : Str} {p pos : Pos} {es : List Expr} {ds : List V} {σ₂ : Store} (hC : ClsOK K hb C.c FA) (hO : CallOK prog hb C FA n O) (hf : FA "Headers.__init__" = some fi)
    (hn : EvOK prog hb C n env ρ σ (.Name x p) (.gl C.c) σ) (b : EvsOK prog hb C n env ρ σ es ds σ₁) (hst : es.all notStar = true)
    (e : O "Headers.__init__" (.own (σ₁.length + 1) :: ds) [] (σ₁ ++ [.attrs none, .inst σ₁.length]) = some (.none, σ₂)) (hkp : keepIn K (.ref C.c) = true) : EvOK prog hb C n env ρ σ (.Call (.Name x p) es [] pos) (.own (σ₁.length + 1)) σ₂ := by
  intro A s φ g E hA S R
  refine wpAny_Call_Name_kw (go hA (hn A s φ g E hA S R) (fun v s₁ hA h₁ => ?_))
  obtain ⟨φ₁, g₁, G₁, S₁, V₁, T₁⟩ := h₁
  cases V₁
  refine callWith_of (by rw [stars_none hst]; rfl) (keeps_K hkp) (args_run b evk_nil (show kwIs [] [] from rfl) (stars_head hst) hA S₁ (R.grow G₁) fun y s₂ φ₂ g₂ hA G₂ S₂ T₂ V₂ K₂ => ⟨hC.kin.keeps S₂.hbk, ?_⟩)
  obtain ⟨m1, m2, m3⟩ := hC.meth "__init__" fi hf
  obtain ⟨hh, gg, dd, tt, os⟩ := s₂
  refine wpAny_call (make_core (makes_of (hC.kin.keeps S₂.hbk) hC.makes) (looks_findIn (hC.kin.keeps S₂.hbk) m1) (fun self => bind_fn (hC.kin.keeps S₂.hbk) self m2) (.inl rfl) ?_)
  obtain ⟨S₃, G₃⟩ := S₂.more (x := .attrs none) (h' := hh.push emptyDict) (fresh_none hh) (fun b o e => Heap.get?_push_of_some _ e) (Heap.get?_push_size _ rfl)
  have hsz : (hh.push emptyDict).objs.size = hh.objs.size + 1 := Heap.size_push ..
  obtain ⟨S₄, G₄⟩ := S₃.more (x := .inst σ₁.length) (h' := (hh.push emptyDict).push (instObj C.c hh.objs.size)) (fresh_none _) (fun b o e => Heap.get?_push_of_some _ e)
    ⟨hh.objs.size, by rw [List.append_assoc, List.getElem?_append_right (by rw [S₂.len]; exact Nat.le_refl _), S₂.len]; simp, Heap.get?_push_size _ rfl⟩
  rw [hsz] at S₄ G₄
  have hk : φ₂.length = σ₁.length := S₂.len
  have hx : VR g₂ (φ₂ ++ [hh.objs.size] ++ [hh.objs.size + 1]) (.ref (hh.objs.size + 1)) (.own (σ₁.length + 1)) := .own (by rw [List.getElem?_append_right (by simp [hk]), List.length_append, hk]; simp)
  have G₅ := G₃.trans G₄
  have hkw : y.kw = [] := by have := K₂.1; simpa using this
  rw [hkw]
  rw [show σ₁ ++ [OObj.attrs none] ++ [OObj.inst σ₁.length] = σ₁ ++ [.attrs none, .inst σ₁.length] from by simp] at S₄
  refine codeAny_mono (hO "Headers.__init__" fi (.own (σ₁.length + 1) :: ds) [] _ .none σ₂ hf e _ ⟨(hh.push emptyDict).push (instObj C.c hh.objs.size), gg, dd, tt, os⟩ _ g₂ (.ref (hh.objs.size + 1) :: y.pos) [] (hA.under C.c y.pos []) S₄ (.cons hx (V₂.mono G₅.mono G₅.pre)) KRs.nil) fun r s' z => ?_
  rcases r with e | (v | _ | _ | _) <;> first | exact z.elim | skip
  obtain ⟨φ₆, g₆, G₆, S₆, V₆, T₆⟩ := z
  cases V₆
  refine ⟨rfl, ?_⟩
  have P : Post hb C φ₂ g₂ ⟨hh, gg, dd, tt, os⟩ σ₂ (.own (σ₁.length + 1)) (.ref (hh.objs.size + 1)) s' := ⟨φ₆, g₆, G₅.trans G₆, S₆, hx.mono G₆.mono G₆.pre, (Rest.mk ⟨hh, gg, dd, tt, os⟩ _ tt).trans T₆⟩
  exact (P.trans G₂ T₂).trans G₁ T₁
end
end Mine

namespace Mine

section
variable {prog : Program} {w : World} {A : Around} {E : Value → Shared → Prop} {s : Shared} {K : Frag} {x Cl f : Addr} {ox : Obj} {od : Option Obj}
theorem bytes_call {Q : Value → Shared → Prop} (X : K.In s.heap) (I : InstAt s.heap x ox Cl od) (hs : findIn K (.ref Cl) "__bytes__" = some (some (.ref f))) (hf : typeIn K (.ref f) = some (.type "function"))
    (h : wpAny (model prog w) A.in1.in1 (call (.ref f) [.ref x]) (fun v s' => ∃ b t, v = .bytes b t ∧ Q v s') E s) : wpAny (model prog w) A (call (.type "bytes") [.ref x]) Q E s := by
  refine callType_codes (T := "bytes") (Bi := Builtin.«object.__init__») (Q₁ := fun r s₁ => ∃ y u, r = .bytes y u ∧ Q r s₁) PySem.F.bm_called (PySem.F.bm_typeCall _) PySem.F.entry_object_init ?_ ?_
  · refine codeAny_of_tree ?_
    show wpAny _ A.in1.in1 (do checkBuiltinCall "bytes.__new__" ⟨[.type "bytes", .ref x], []⟩; again (.builtin "bytes.__new__" ⟨[.type "bytes", .ref x], []⟩)) _ _ s
    refine wpAny_bind (wpAny_of_eq (PySem.F.bm_newCall _) (wpAny_pure ⟨plainId_quiet PySem.F.bm_plain _, codeAny_builtin PySem.F.bm_entry ?_⟩))
    rw [Around.under_plainId PySem.F.bm_plain _]
    unfold Builtin.«bytes.__new__»
    refine wpAny_bind (wpAny_of_eq (a := true) rfl ?_)
    refine bm_if_false rfl ?_
    refine wpAny_bind (wpAny_of_eq PySem.F.bm_sub ?_)
    refine bm_if_false rfl ?_
    refine wpAny_bind (wpAny_of_eq (PySem.F.bm_bind _) ?_)
    refine wpAny_bind (wpAny_of_eq (a := ()) rfl ?_)
    refine wpAny_bind (wpAny_of_eq (a := ()) rfl ?_)
    refine bm_if_false rfl ?_
    refine wpAny_bind (wpAny_bind (I.type.here ((looks_findIn X hs).here ?_)))
    refine wpAny_bind (wpAny_rule ?_)
    refine wpAny_bind (m := callSpecial? (.ref x) (Str.ofString "__bytes__")) (special_fn X I hs hf (wpAny_mono h (fun r s' hr => ?_) fun _ _ y => y))
    obtain ⟨b, t, rfl, hq⟩ := hr
    refine wpAny_bind (wpAny_isInstance (T := "bytes") rfl PySem.F.bm_sub ?_)
    refine bm_if_false rfl ?_
    exact wpAny_pure ⟨_, _, rfl, hq⟩
  · rintro obj s₁ ⟨y, u, rfl, hq⟩
    exact ⟨rfl, PySem.F.args_object_init_2 _ _, object_init_meets PySem.F.bm_called.init.lookup PySem.F.bm_called.made (by decide) prog w A.in1 _ s₁ ⟨rfl, rfl, hq⟩⟩
end
theorem Rm.in2 {n t : Nat} {A : Around} (h : Rm n A t) : Rc n A.in1.in1 t := ⟨h.handled, by have := h.depth; show A.depth + 4 * n < _; omega, by have := h.units; show A.units + 1 + 1 + 40 * n + 300 < _; omega, h.pos⟩
section
variable {prog : Program} {hb : Heap} {C : Cx} {n : Nat} {env : Env} {ρ : Rho} {σ σ₁ σ₂ σ₃ : Store}
theorem conv_op {K : Frag} {O : Orc} {FA : String → Option Addr} {A : Around} {s : Shared} {φ : List Addr} {g : Part} {E : Value → Shared → Prop} {b : Bool} {k : Nat} {fa : Addr} {v : Value} {d : V} (hC : ClsOK K hb C.c FA) (hO : CallOK prog hb C FA n O) (hfa : FA (if b then "Headers.__str__" else "Headers.__bytes__") = some fa)
    (hA : Rm n A s.toks) (S : Sim hb C φ σ g s.heap) (hv : VR g φ v (.own k)) (hi : isInst σ k = true) (e : O (if b then "Headers.__str__" else "Headers.__bytes__") [.own k] [] σ = some (d, σ₁)) (hd : if b then ∃ x, d = .str x else ∃ x, d = .bytes x) :
    wpAny (model prog C.w) A (call (.type (if b then "str" else "bytes")) [v]) (Post hb C φ g s σ₁ d) E s := by
  obtain ⟨a, dx, es, m, rfl, I, hn⟩ := inst_at S hv hi
  have hr : wpAny (model prog C.w) A.in1.in1 (call (.ref fa) [.ref a]) (Post hb C φ g s σ₁ d) E s := hO.run hfa e hA.in2 S (.cons hv .nil) KRs.nil
  cases b with
  | true =>
    obtain ⟨m1, m2, m3⟩ := hC.meth "__str__" fa hfa
    obtain ⟨x, rfl⟩ := hd
    refine kso_call (by have := hA.in2.units; omega) (hC.kin.keeps S.hbk) I m1 (by show (typeIn K (.ref fa) == _) = true; rw [m2]; rfl) (wpAny_mono hr (fun v s' P => ?_) fun _ _ e => e)
    obtain ⟨φ', g', G', S', V', T'⟩ := id P
    obtain ⟨t, rfl⟩ := V'.ofStr
    exact P
  | false =>
    obtain ⟨m1, m2, m3⟩ := hC.meth "__bytes__" fa hfa
    obtain ⟨x, rfl⟩ := hd
    refine bytes_call (hC.kin.keeps S.hbk) I m1 m2 (wpAny_mono hr (fun v s' P => ?_) fun _ _ e => e)
    obtain ⟨φ', g', G', S', V', T'⟩ := id P
    obtain ⟨t, rfl, _⟩ := V'.ofByt
    exact ⟨_, _, rfl, P⟩
theorem conv_ok {K : Frag} {O : Orc} {FA : String → Option Addr} {b : Bool} {k : Nat} {fa : Addr} {d : V} {mg mb : Str → Option Value} {f : String} {p pos : Pos} {es : List Expr} (hC : ClsOK K hb C.c FA) (hO : CallOK prog hb C FA n O) (hfa : FA (if b then "Headers.__str__" else "Headers.__bytes__") = some fa)
    (hf : f = if b then "str" else "bytes") (hg : hb.Ns mainGlobals mg) (hbl : hb.Ns builtinsNs mb) (hx : env.kindOf (Str.ofString f) = some .globalImplicit) (hm : mg (Str.ofString f) = none) (hb' : mb (Str.ofString f) = some (.type f)) (hdb : (Str.ofString f == ("__debug__" : Str)) = false)
    (h : EvsOK prog hb C n env ρ σ es [.own k] σ₁) (hst : es.all notStar = true) (hi : isInst σ₁ k = true) (e : O (if b then "Headers.__str__" else "Headers.__bytes__") [.own k] [] σ₁ = some (d, σ₂)) (hd : if b then ∃ x, d = .str x else ∃ x, d = .bytes x) :
    EvOK prog hb C n env ρ σ (.Call (.Name (Str.ofString f) p) es [] pos) d σ₂ := by
  intro A s φ g E hA S R
  refine wpAny_Call_Name_kw (name_blt hg hbl hx hm hb' hdb S R ?_)
  refine callWith_mach rfl hst (args_run h evk_nil (show kwIs [] [] from rfl) (stars_head hst) hA S R fun x s₂ φ₂ g₂ hA G₂ S₂ T₂ V₂ K₂ => ?_)
  have hk : x.kw = [] := by have := K₂.1; simpa using this
  rw [hk, List.nil_append]
  obtain ⟨v, hv, V₃⟩ := V₂.inv1
  rw [hv, hf]
  exact wpAny_mono (conv_op hC hO hfa hA S₂ V₃ hi e hd) (fun _ _ p => p.trans G₂ T₂) fun _ _ e => e

theorem replT_append (c : Nat) (z a b : List Nat) : replT c z (a ++ b) = replT c z a ++ replT c z b := List.flatMap_append
theorem replT_free (c : Nat) (z : List Nat) : ∀ a : List Nat, c ∉ a → replT c z a = a
  | [], _ => rfl
  | d :: r, h => by
    have h1 : d ≠ c := fun q => h (q ▸ .head _)
    have ih := replT_free c z r fun q => h (.tail _ q)
    show (if d = c then z else [d]) ++ replT c z r = d :: r
    rw [if_neg h1, ih]; rfl
theorem replT_join (c : Nat) (z : List Nat) : ∀ parts : List Str, (∀ p ∈ parts, c ∉ p.cps.toList) → (Str.join (strV z) parts).cps.toList = replT c z (Str.join ⟨#[c]⟩ parts).cps.toList
  | [], _ => rfl
  | [p], h => by
    show p.cps.toList = replT c z p.cps.toList
    rw [replT_free c z _ (h p (.head _))]
  | p :: q :: r, h => by
    have ih := replT_join c z (q :: r) fun x m => h x (.tail _ m)
    show (p.cps ++ (strV z).cps ++ (Str.join (strV z) (q :: r)).cps).toList = replT c z (p.cps ++ #[c] ++ (Str.join ⟨#[c]⟩ (q :: r)).cps).toList
    rw [Array.toList_append, Array.toList_append, Array.toList_append, Array.toList_append, replT_append, replT_append, replT_free c z _ (h p (.head _)), ih]
    congr 2
    show z = (if c = c then z else [c]) ++ []
    rw [if_pos rfl, List.append_nil]
theorem repl_strV (c : Nat) (z x : List Nat) : Txt.replace (strV x) (strV [c]) (strV z) = strV (replT c z x) := by
  have h := replT_join c z (Txt.split (strV x) ⟨#[c]⟩) (StrLaws.split_free (strV x) c)
  rw [StrLaws.join_split] at h
  show Txt.replace (strV x) ⟨#[c]⟩ (strV z) = _
  rw [StrLaws.replace_one]
  refine Str.ext' ?_
  rw [← Array.toList_inj, h]
  rfl
theorem repl_ok {o : Expr} {apos pos p1 p2 : Pos} {k1 k2 : Nat} {c : Nat} {x z : List Nat} (hbase : baseOk o = true) (hline : (apos.endLine == pos.line) = true)
    (a : EvOK prog hb C n env ρ σ o (.str x) σ₁) (hz : z ≠ [c]) (hl : x.length ≤ 10000) (hl2 : z.length ≤ 14) :
    EvOK prog hb C n env ρ σ (.Call (.Attribute o (Str.ofString "replace") apos) [.Constant (.str (strV [c])) k1 p1, .Constant (.str (strV z)) k2 p2] [] pos) (.str (replT c z x)) σ₁ := by
  intro A s φ g E hA S R
  refine method_form hbase rfl rfl (by simp) hline (go hA (a A s φ g E hA S R) (fun v s₁ hA h₁ => ?_))
  obtain ⟨φ₁, g₁, G₁, S₁, V₁, T₁⟩ := h₁
  intro pl
  obtain ⟨t, rfl⟩ := V₁.ofStr
  refine GM.replace ?_
  refine callWith_mach rfl rfl (evalArgs_kw rfl ?_)
  have con : ∀ {x : List Nat} {k : Nat} {q : Pos} {s : Shared} {Q : Value → Shared → Prop}, Q (.str (strV x) s.toks) { s with toks := s.toks + 1 } → wpAny (model prog C.w) A (eval (.Constant (.str (strV x)) k q) env) Q E s := fun h _ _ _ => h
  rw [spliced]
  refine wpAny_bind (con (k := k1) (q := p1) ?_)
  simp only [Bool.false_eq_true, if_false]
  refine wpAny_bind (wpAny_pure (wpAny_bind (wpAny_holding ?_)))
  show wpAny _ A (spliced [(false, eval (.Constant (.str (strV z)) k2 p2) env)]) _ _ _
  rw [spliced]
  refine wpAny_bind (con (k := k2) (q := p2) ?_)
  simp only [Bool.false_eq_true, if_false]
  refine wpAny_bind (wpAny_pure (wpAny_bind (wpAny_holding (wpAny_pure (wpAny_pure (wpAny_pure (wpAny_pure ?_)))))))
  have h0 := hA.pos
  refine SC.replace (u := s₁.toks) (v := s₁.toks + 1) (Nat.ne_of_gt h0) (Nat.succ_ne_zero _) (Nat.ne_of_lt (Nat.lt_succ_self _)) (by rw [strV_inj, beq_eq_false_iff_ne]; exact fun q => hz q.symm) (by
    rw [strV_len, strV_len]
    have : (x.length + 1) * z.length ≤ 10001 * 14 := Nat.mul_le_mul (by omega) hl2
    omega) fun t' k => ?_
  rw [repl_strV c z x]
  exact Post.trans G₁ T₁ (Post.here S₁ (.str _ _) _)

theorem fv_str {A : Around} {s : Shared} {E : Value → Shared → Prop} {x : Str} {t : Tok} {Q : Value → Shared → Prop} (hx : x.length ≤ sizeLine) (q : ∀ t k, s.toks ≤ k → Q (.str x t) { s with toks := k }) :
    wpAny (model prog C.w) A (convS (.str x t)) (fun r s₂ => wpAny (model prog C.w) A (formatField r Str.empty) Q E s₂) E s := by
  have k2 : ∀ t k, s.toks ≤ k → wpAny (model prog C.w) A (formatField (.str x t) Str.empty) Q E { s with toks := k } := fun t k hk => wpAny_formatField_str (q t k hk) (q k (k + 1) (Nat.le_succ_of_le hk)) hx
  exact wpAny_habitSame_str (k2 t s.toks (Nat.le_refl _)) (k2 _ _ (Nat.le_succ _)) hx
theorem fmt_ok {a b : Expr} {x y u w : List Nat} {p p1 p2 p3 p4 : Pos} {k1 k2 : Nat} (h1 : EvOK prog hb C n env ρ σ a (.str u) σ₁) (h2 : EvOK prog hb C n env ρ σ₁ b (.str w) σ₂) (hu : u.length ≤ 100000) (hw : w.length ≤ 100000) (hx : x.length ≤ 100) (hy : y.length ≤ 100) :
    EvOK prog hb C n env ρ σ (.JoinedStr [.FormattedValue a 115 none p1, .Constant (.str (strV x)) k1 p2, .FormattedValue b 115 none p3, .Constant (.str (strV y)) k2 p4] p) (.str (u ++ x ++ w ++ y)) σ₂ := by
  intro A s φ g E hA S R
  have big : 300000 ≤ sizeLine := by decide
  have le : ∀ {z : List Nat}, z.length ≤ 300000 → (strV z).length ≤ sizeLine := fun h => by rw [strV_len]; exact Nat.le_trans h big
  have l2 : (u ++ x).length ≤ 100100 := by rw [List.length_append]; omega
  have l3 : (u ++ x ++ w).length ≤ 200100 := by rw [List.length_append]; omega
  have l4 : (u ++ x ++ w ++ y).length ≤ 200200 := by rw [List.length_append]; omega
  refine wpAny_JoinedStr ?_
  show wpAny _ A (eval (.FormattedValue a 115 none p1) env) _ E s
  refine wpAny_FormattedValue_s (go hA (h1 A s φ g E hA S R) fun v s₁ hA P1 => ?_)
  obtain ⟨φ₁, g₁, G₁, S₁, V₁, T₁⟩ := P1
  obtain ⟨t, rfl⟩ := V₁.ofStr
  refine fv_str (le (Nat.le_trans hu (by decide))) fun t k hk => ⟨_, _, rfl, by rw [Str.empty_append]; exact le (Nat.le_trans hu (by decide)), ?_⟩
  rw [Str.empty_append]
  show wpAny _ A (eval (.Constant (.str (strV x)) k1 p2) env) _ E _
  refine fun _ _ _ => ⟨_, _, rfl, by rw [strV_append]; exact le (Nat.le_trans l2 (by decide)), ?_⟩
  rw [strV_append]
  show wpAny _ A (eval (.FormattedValue b 115 none p3) env) _ E _
  have hA' : Rm n A (k + 1) := hA.up (Nat.le_succ_of_le hk)
  refine wpAny_FormattedValue_s (go hA' (h2 A _ φ₁ g₁ E hA' S₁ (R.grow G₁)) fun v s₂ hA P2 => ?_)
  obtain ⟨φ₂, g₂, G₂, S₂, V₂, T₂⟩ := P2
  obtain ⟨t, rfl⟩ := V₂.ofStr
  refine fv_str (le (Nat.le_trans hw (by decide))) fun t k' hk => ⟨_, _, rfl, by rw [strV_append]; exact le (Nat.le_trans l3 (by decide)), ?_⟩
  rw [strV_append]
  show wpAny _ A (eval (.Constant (.str (strV y)) k2 p4) env) _ E _
  refine fun _ _ _ => ⟨_, _, rfl, by rw [strV_append]; exact le (Nat.le_trans l4 (by decide)), ?_⟩
  rw [strV_append]
  exact ⟨le (Nat.le_trans l4 (by decide)), φ₂, g₂, G₁.trans G₂, S₂, .str _ _, (T₁.trans ⟨_, _, rfl⟩).trans (T₂.trans ⟨_, _, rfl⟩)⟩
end
end Mine

namespace Mine

section
variable {prog : Program} {hb : Heap} {C : Cx} {n : Nat} {env : Env} {ρ : Rho} {σ σ₁ σ₂ σ₃ : Store}

noncomputable def Step (hb : Heap) (C : Cx) (φ : List Addr) (g : Part) (s : Shared) (σ' : Store) (s' : Shared) : Prop :=
  ∃ φ' g', Grow φ g s.heap φ' g' s'.heap ∧ Sim hb C φ' σ' g' s'.heap ∧ Rest s s'
theorem Step.trans {φ φ₁ : List Addr} {g g₁ : Part} {s s₁ s' : Shared} {σ' : Store} (x : Grow φ g s.heap φ₁ g₁ s₁.heap) (r : Rest s s₁) (p : Step hb C φ₁ g₁ s₁ σ' s') : Step hb C φ g s σ' s' :=
  let ⟨φ', g', a, b, e⟩ := p; ⟨φ', g', x.trans a, b, r.trans e⟩
theorem Step.here {φ : List Addr} {g : Part} {s : Shared} (S : Sim hb C φ σ g s.heap) (tk : Nat) : Step hb C φ g s σ { s with toks := tk } := ⟨φ, g, Grow.refl .., S, ⟨s.heap, tk, rfl⟩⟩

noncomputable def TestOK (prog : Program) (hb : Heap) (C : Cx) (n : Nat) (env : Env) (ρ : Rho) (σ : Store) (e : Expr) (t : Bool) (σ' : Store) : Prop :=
  ∀ A s φ g E, Rm n A s.toks → Sim hb C φ σ g s.heap → ER hb φ g s.heap env ρ → wpAny (model prog C.w) A (isTrue e env (eval e env)) (fun b s' => b = t ∧ Step hb C φ g s σ' s') E s
noncomputable def AllOK (prog : Program) (hb : Heap) (C : Cx) (n : Nat) (env : Env) (ρ : Rho) (σ : Store) (op : BoolOp) (es : List Expr) (t : Bool) (σ' : Store) : Prop :=
  ∀ A s φ g E, Rm n A s.toks → Sim hb C φ σ g s.heap → ER hb φ g s.heap env ρ → wpAny (model prog C.w) A (allTrue op es env) (fun b s' => b = t ∧ Step hb C φ g s σ' s') E s
noncomputable def BoolOK (prog : Program) (hb : Heap) (C : Cx) (n : Nat) (env : Env) (ρ : Rho) (σ : Store) (op : BoolOp) (es : List Expr) (d : V) (σ' : Store) : Prop :=
  ∀ A s φ g E pos, Rm n A s.toks → Sim hb C φ σ g s.heap → ER hb φ g s.heap env ρ → wpAny (model prog C.w) A (boolOp pos op (evalEach es env)) (Post hb C φ g s σ' d) E s

noncomputable def isPlainTest (e : Expr) : Bool := decide (e.ctorIdx ≠ 3) && decide (e.ctorIdx ≠ 0) && decide (e.ctorIdx ≠ 5) && decide (e.ctorIdx ≠ 15)
theorem isTrue_eq {e : Expr} {whole : Sem Value} (h : isPlainTest e = true) : isTrue e env whole = (do let v ← whole; standAt e.pos; holding [v] (truthy v)) := by
  cases e <;> first | rfl | cases (show false = true from h)

theorem test_plain {e : Expr} {x : V} {t : Bool} (hp : isPlainTest e = true) (a : EvOK prog hb C n env ρ σ e x σ₁) (ht : truthV σ₁ x = some t) : TestOK prog hb C n env ρ σ e t σ₁ := by
  intro A s φ g E hA S R
  rw [isTrue_eq hp]
  refine wpAny_bind (go hA (a A s φ g E hA S R) (fun v s₁ hA h₁ => wpAny_bind (wpAny_standAt (wpAny_holding ?_))))
  obtain ⟨φ₁, g₁, G₁, S₁, V₁, T₁⟩ := h₁
  exact truth_op ht S₁ V₁ fun tk => ⟨rfl, Step.trans G₁ T₁ (Step.here S₁ tk)⟩
theorem test_not {e : Expr} {t : Bool} {pos : Pos} (a : TestOK prog hb C n env ρ σ e t σ₁) : TestOK prog hb C n env ρ σ (.UnaryOp .Not e pos) (!t) σ₁ :=
  fun A s φ g E hA S R => isTrue_not (go hA (a A s φ g E hA S R) (fun b s' hA h => ⟨by rw [h.1], h.2⟩))
theorem test_bool {op : BoolOp} {es : List Expr} {t : Bool} {pos : Pos} (a : AllOK prog hb C n env ρ σ op es t σ₁) : TestOK prog hb C n env ρ σ (.BoolOp op es pos) t σ₁ :=
  fun A s φ g E hA S R => a A s φ g E hA S R
theorem all_nil {op : BoolOp} : AllOK prog hb C n env ρ σ op [] (op == .And) σ := fun A s φ g E hA S R => wpAny_pure ⟨rfl, Step.here S s.toks⟩
theorem all_stop {op : BoolOp} {e : Expr} {es : List Expr} (a : TestOK prog hb C n env ρ σ e (!(op == .And)) σ₁) : AllOK prog hb C n env ρ σ op (e :: es) (!(op == .And)) σ₁ := by
  intro A s φ g E hA S R
  show wpAny _ A (isTrue e env (eval e env) >>= fun b => match op, b with
    | .And, false => pure false
    | .Or, true => pure true
    | _, _ => allTrue op es env) _ _ s
  refine wpAny_bind (go hA (a A s φ g E hA S R) (fun b s₁ hA h₁ => ?_))
  obtain ⟨rfl, h₁⟩ := h₁
  cases op <;> exact wpAny_pure ⟨rfl, h₁⟩
theorem all_go {op : BoolOp} {e : Expr} {es : List Expr} {t : Bool} (a : TestOK prog hb C n env ρ σ e (op == .And) σ₁) (b : AllOK prog hb C n env ρ σ₁ op es t σ₂) : AllOK prog hb C n env ρ σ op (e :: es) t σ₂ := by
  intro A s φ g E hA S R
  show wpAny _ A (isTrue e env (eval e env) >>= fun b => match op, b with
    | .And, false => pure false
    | .Or, true => pure true
    | _, _ => allTrue op es env) _ _ s
  refine wpAny_bind (go hA (a A s φ g E hA S R) (fun b' s₁ hA h₁ => ?_))
  obtain ⟨rfl, φ₁, g₁, G₁, S₁, T₁⟩ := h₁
  have := go hA (b A s₁ φ₁ g₁ E hA S₁ (R.grow G₁)) (fun b' s' hA h => (⟨h.1, Step.trans G₁ T₁ h.2⟩ : b' = t ∧ Step hb C φ g s σ₂ s'))
  cases op <;> exact this
theorem test_ife {c a b : Expr} {t u : Bool} {pos : Pos} (hc : TestOK prog hb C n env ρ σ c t σ₁) (h : TestOK prog hb C n env ρ σ₁ (if t then a else b) u σ₂) : TestOK prog hb C n env ρ σ (.IfExp c a b pos) u σ₂ := by
  intro A s φ g E hA S R
  refine isTrue_IfExp (go hA (hc A s φ g E hA S R) (fun b' s₁ hA h₁ => ?_))
  obtain ⟨rfl, φ₁, g₁, G₁, S₁, T₁⟩ := h₁
  have := go hA (h A s₁ φ₁ g₁ E hA S₁ (R.grow G₁)) (fun b' s' hA h => (⟨h.1, Step.trans G₁ T₁ h.2⟩ : b' = u ∧ Step hb C φ g s σ₂ s'))
  cases b' <;> exact this
theorem ife_ok {c a b : Expr} {t : Bool} {d : V} {pos : Pos} (hc : TestOK prog hb C n env ρ σ c t σ₁) (h : EvOK prog hb C n env ρ σ₁ (if t then a else b) d σ₂) : EvOK prog hb C n env ρ σ (.IfExp c a b pos) d σ₂ := by
  intro A s φ g E hA S R
  refine wpAny_IfExp (go hA (hc A s φ g E hA S R) (fun b' s₁ hA h₁ => ?_))
  obtain ⟨rfl, φ₁, g₁, G₁, S₁, T₁⟩ := h₁
  have := go hA (h A s₁ φ₁ g₁ E hA S₁ (R.grow G₁)) (fun v s' hA h => Post.trans G₁ T₁ h)
  cases b' <;> exact this
theorem test_cmp {l r : Expr} {op : CmpOp} {pos : Pos} {x y d : V} {t : Bool} (a : EvOK prog hb C n env ρ σ l x σ₁) (b : EvOK prog hb C n env ρ σ₁ r y σ₂) (hm : behindInMarks op r = false)
    (h : ∀ A s φ g E v u, Rm n A s.toks → Sim hb C φ σ₂ g s.heap → VR g φ v x → VR g φ u y → wpAny (model prog C.w) A (compareOp op v u) (Post hb C φ g s σ₂ d) E s) (ht : truthV σ₂ d = some t) : TestOK prog hb C n env ρ σ (.Compare l [op] [r] pos) t σ₂ := by
  intro A s φ g E hA S R
  refine wpAny_isTrue_Compare1 (two_ok a b hA S R fun v u s' φ' g' hA G' S' _ T' V' U' => go hA (h A s' φ' g' E v u hA S' V' U') (fun c s₃ hA h₃ => ?_)) hm
  obtain ⟨φ₁, g₁, G₁, S₁, V₁, T₁⟩ := h₃
  exact truth_op ht S₁ V₁ fun tk => ⟨rfl, Step.trans G' T' (Step.trans G₁ T₁ (Step.here S₁ tk))⟩

theorem bool_one {op : BoolOp} {e : Expr} {d : V} (a : EvOK prog hb C n env ρ σ e d σ₁) : BoolOK prog hb C n env ρ σ op [e] d σ₁ := fun A s φ g E pos hA S R => a A s φ g E hA S R
theorem bool_stop {op : BoolOp} {e e2 : Expr} {es : List Expr} {d : V} (a : EvOK prog hb C n env ρ σ e d σ₁) (ht : truthV σ₁ d = some (!(op == .And))) : BoolOK prog hb C n env ρ σ op (e :: e2 :: es) d σ₁ := by
  intro A s φ g E pos hA S R
  show wpAny _ A (eval e env >>= fun v => standAt pos >>= fun _ => holding [v] (truthy v) >>= fun t => match op, t with
    | .And, false | .Or, true => pure v
    | _, _ => boolOp pos op (evalEach (e2 :: es) env)) _ _ s
  refine wpAny_bind (go hA (a A s φ g E hA S R) (fun v s₁ hA h₁ => wpAny_bind (wpAny_standAt (wpAny_bind (wpAny_holding ?_)))))
  obtain ⟨φ₁, g₁, G₁, S₁, V₁, T₁⟩ := h₁
  refine truth_op ht S₁ V₁ fun tk => ?_
  cases op <;> exact wpAny_pure (Post.trans G₁ T₁ (Post.here S₁ V₁ tk))
theorem bool_go {op : BoolOp} {e e2 : Expr} {es : List Expr} {x d : V} (a : EvOK prog hb C n env ρ σ e x σ₁) (ht : truthV σ₁ x = some (op == .And)) (b : BoolOK prog hb C n env ρ σ₁ op (e2 :: es) d σ₂) : BoolOK prog hb C n env ρ σ op (e :: e2 :: es) d σ₂ := by
  intro A s φ g E pos hA S R
  show wpAny _ A (eval e env >>= fun v => standAt pos >>= fun _ => holding [v] (truthy v) >>= fun t => match op, t with
    | .And, false | .Or, true => pure v
    | _, _ => boolOp pos op (evalEach (e2 :: es) env)) _ _ s
  refine wpAny_bind (go hA (a A s φ g E hA S R) (fun v s₁ hA h₁ => wpAny_bind (wpAny_standAt (wpAny_bind (wpAny_holding ?_)))))
  obtain ⟨φ₁, g₁, G₁, S₁, V₁, T₁⟩ := h₁
  refine wpAny_with_toks (Nat.le_refl _) (truth_op ht S₁ V₁ fun tk => fun le => ?_)
  have G₂ : Grow φ₁ g₁ s₁.heap φ₁ g₁ ({ s₁ with toks := tk } : Shared).heap := Grow.refl ..
  have := go (hA.up le) (b A { s₁ with toks := tk } φ₁ g₁ E pos (hA.up le) S₁ (R.grow G₁)) (fun v s' hA h => Post.trans G₁ T₁ (Post.trans (s := s₁) G₂ ⟨_, tk, rfl⟩ h))
  cases op <;> exact this
theorem boolop_ok {op : BoolOp} {es : List Expr} {d : V} {pos : Pos} (a : BoolOK prog hb C n env ρ σ op es d σ₁) : EvOK prog hb C n env ρ σ (.BoolOp op es pos) d σ₁ := fun A s φ g E hA S R => a A s φ g E pos hA S R
end
end Mine

namespace Mine

theorem char_inj {a b : Char} (h : a.toNat = b.toNat) : a = b := by
  rw [← Char.ofNat_toNat a, ← Char.ofNat_toNat b, h]
theorem map_char_inj : ∀ {a b : List Char}, a.map Char.toNat = b.map Char.toNat → a = b
  | [], [], _ => rfl
  | [], _ :: _, h => by cases h
  | _ :: _, [], h => by cases h
  | x :: r, y :: q, h => by
    simp only [List.map_cons, List.cons.injEq] at h
    rw [char_inj h.1, map_char_inj h.2]
theorem ofString_inj {a b : String} (h : Str.ofString a = Str.ofString b) : a = b := by
  rw [Str.ofString_eq_toList, Str.ofString_eq_toList] at h
  have h1 : (a.toList.map Char.toNat) = (b.toList.map Char.toNat) := by
    have := congrArg Str.cps h
    simpa using this
  exact String.toList_inj.mp (map_char_inj h1)

theorem look_setv {x y : String} {v : V} : ∀ {ρ ρ' : Rho}, setv ρ x v = some ρ' → look ρ' y = if y = x then some v else look ρ y
  | [], _, h => by cases h
  | (z, u) :: r, ρ', h => by
    unfold setv at h
    split at h
    · rename_i hx
      cases h
      subst hx
      unfold look
      rw [List.lookup_cons, List.lookup_cons]
      by_cases hy : y = x
      · subst hy; simp
      · have : (y == x) = false := by simpa using hy
        rw [this, if_neg hy]
    · rename_i hx
      obtain ⟨r', h1, rfl⟩ := Option.map_eq_some_iff.mp h
      have ih := look_setv (y := y) h1
      unfold look at ih ⊢
      rw [List.lookup_cons, List.lookup_cons]
      by_cases hy : (y == z) = true
      · rw [hy]
        have : y ≠ x := by rintro rfl; simp at hy; exact hx hy
        rw [if_neg this]
      · rw [Bool.not_eq_true] at hy
        rw [hy]; exact ih

structure GrowX (X : Addr → Prop) (φ : List Addr) (g : Part) (h : Heap) (φ' : List Addr) (g' : Part) (h' : Heap) : Prop where
  pre : φ <+: φ'
  mono : ∀ a o, g a = some o → g' a = some o
  newg : ∀ a o, g' a = some o → g a = some o ∨ h.get? a = none
  newf : ∀ a, a ∈ φ' → a ∈ φ ∨ h.get? a = none
  keep : ∀ a o, h.get? a = some o → a ∉ φ → ¬ X a → h'.get? a = some o
  dom : ∀ a o, h.get? a = some o → ∃ o', h'.get? a = some o'

section
variable {X Y : Addr → Prop} {φ φ₁ φ₂ : List Addr} {g g₁ g₂ : Part} {h h₁ h₂ : Heap}
theorem Grow.toX (x : Grow φ g h φ₁ g₁ h₁) : GrowX X φ g h φ₁ g₁ h₁ := ⟨x.pre, x.mono, x.newg, x.newf, fun a o e n _ => x.keep a o e n, x.dom⟩
theorem GrowX.refl : GrowX X φ g h φ g h := (Grow.refl φ g h).toX
theorem GrowX.wider (x : GrowX X φ g h φ₁ g₁ h₁) (hy : ∀ a, X a → Y a) : GrowX Y φ g h φ₁ g₁ h₁ := ⟨x.pre, x.mono, x.newg, x.newf, fun a o e n m => x.keep a o e n fun q => m (hy a q), x.dom⟩
theorem GrowX.trans (x : GrowX X φ g h φ₁ g₁ h₁) (y : GrowX X φ₁ g₁ h₁ φ₂ g₂ h₂) : GrowX X φ g h φ₂ g₂ h₂ where
  pre := x.pre.trans y.pre
  mono := fun a o e => y.mono a o (x.mono a o e)
  newg := fun a o e => by
    rcases y.newg a o e with e1 | e1
    · exact x.newg a o e1
    · cases q : h.get? a with
      | none => exact .inr rfl
      | some o' => obtain ⟨o'', e2⟩ := x.dom a o' q; rw [e1] at e2; cases e2
  newf := fun a e => by
    rcases y.newf a e with e1 | e1
    · exact x.newf a e1
    · cases q : h.get? a with
      | none => exact .inr rfl
      | some o' => obtain ⟨o'', e2⟩ := x.dom a o' q; rw [e1] at e2; cases e2
  keep := fun a o e n m => by
    refine y.keep a o (x.keep a o e n m) (fun q => ?_) m
    rcases x.newf a q with q | q
    · exact n q
    · rw [q] at e; cases e
  dom := fun a o e => let ⟨o₁, e₁⟩ := x.dom a o e; y.dom a o₁ e₁
theorem GrowX.plain (x : GrowX X φ g h φ₁ g₁ h₁) (hx : ∀ a, X a → h.get? a = none) : Grow φ g h φ₁ g₁ h₁ :=
  ⟨x.pre, x.mono, x.newg, x.newf, fun a o e n => x.keep a o e n fun q => (by rw [hx a q] at e; cases e), x.dom⟩
theorem GrowX.less (x : GrowX Y φ g h φ₁ g₁ h₁) (hx : ∀ a, Y a → X a ∨ h.get? a = none) : GrowX X φ g h φ₁ g₁ h₁ :=
  ⟨x.pre, x.mono, x.newg, x.newf, fun a o e n m => x.keep a o e n fun q => (by rcases hx a q with q | q; exact m q; rw [q] at e; cases e), x.dom⟩
theorem GrowX.off (x : GrowX X φ g h φ₁ g₁ h₁) {a : Addr} {o : Obj} (e : h.get? a = some o) (h1 : a ∉ φ) (h2 : g a = none) : a ∉ φ₁ ∧ g₁ a = none := by
  refine ⟨fun q => ?_, ?_⟩
  · rcases x.newf a q with q | q
    · exact h1 q
    · rw [q] at e; cases e
  · cases q : g₁ a with
    | none => rfl
    | some o' =>
      rcases x.newg a o' q with q | q
      · rw [h2] at q; cases q
      · rw [q] at e; cases e
theorem GrowX.but {a : Addr} {o : Obj} (hx : X a) (he : h₁.get? a = some o) (hs : Heap.ExtBut a h h₁) : GrowX X φ g h φ g h₁ :=
  ⟨List.prefix_refl _, fun _ _ e => e, fun _ _ e => .inl e, fun _ e => .inl e, fun b o' e n m => hs b o' (fun q => m (q ▸ hx)) e, fun b o' e => by
    by_cases q : b = a
    · subst q; exact ⟨o, he⟩
    · exact ⟨o', hs b o' q e⟩⟩
end

section
variable {prog : Program} {hb : Heap} {C : Cx} {n : Nat} {env : Env} {ρ ρ' : Rho} {σ σ₁ σ₂ σ₃ : Store} {A : Around} {s : Shared} {φ : List Addr} {g : Part} {E : Value → Shared → Prop} {X : Addr → Prop}

theorem Sim.but {a : Addr} {h' : Heap} (S : Sim hb C φ σ g s.heap) (h1 : a ∉ φ) (h2 : g a = none) (hs : Heap.ExtBut a s.heap h') : Sim hb C φ σ g h' :=
  S.keeps fun b o e m => hs b o (by rintro rfl; rcases m with m | m; exact h1 m; rw [h2] at m; cases m) e

theorem Nsm.uniq {h : Heap} {a : Addr} {m m' : Str → Option Value} (x : h.Ns a m) (y : h.Ns a m') : m = m' := by
  obtain ⟨o, es, ep, h1, h2, _, h3⟩ := x
  obtain ⟨o', es', ep', h1', h2', _, h3'⟩ := y
  rw [h1] at h1'; cases h1'
  rw [h2] at h2'; cases h2'
  funext k; rw [← h3, ← h3']
theorem store_ok {x : String} {d : V} {v : Value} {Q : Unit → Shared → Prop} (hr : setv ρ x d = some ρ') (hk : env.kindOf (Str.ofString x) = some .local ∨ env.kindOf (Str.ofString x) = some .cell) (S : Sim hb C φ σ g s.heap) (R : ER hb φ g s.heap env ρ) (hv : VR g φ v d)
    (hX : X env.locals ∧ (env.kindOf (Str.ofString x) = some .cell → ∀ c, env.cells.lookup (Str.ofString x) = some c → X c))
    (q : ∀ h' tk, GrowX X φ g s.heap φ g h' → Sim hb C φ σ g h' → ER hb φ g h' env ρ' → Q () { s with heap := h', toks := tk }) : wpAny (model prog C.w) A (storeName env (Str.ofString x) v) Q E s := by
  have hsc : (env.scope.kind == .class || (env.scope.kind == .module && env.locals != env.globals)) = false := by rw [R.kind]; rfl
  rcases hk with hk | hk
  · obtain ⟨m, hm⟩ := R.ns
    refine wpAny_storeName_local hk hm (fun h' hn hs => ?_) hsc
    obtain ⟨o, ho⟩ := Nsm.has hn
    refine q h' _ (GrowX.but hX.1 ho hs.extBut) (S.but R.offL.1 R.offL.2 hs.extBut) ?_
    refine ⟨R.kind, R.glob, R.bl, ⟨_, hn⟩, R.offL, fun y c e => ?_, R.has, fun y e hy hvis => ?_, R.inj⟩
    · obtain ⟨⟨u, hu⟩, h1, h2, h3⟩ := R.cells y c e
      exact ⟨⟨u, Cellm.at hu fun o e => hs.extBut _ o h3 e⟩, h1, h2, h3⟩
    · rw [look_setv hr] at hy
      by_cases hyx : y = x
      · subst hyx
        rw [if_pos rfl] at hy; cases hy
        exact ⟨v, .inl ⟨hk, _, hn, by simp⟩, hv⟩
      · rw [if_neg hyx] at hy
        obtain ⟨u, hu, hr'⟩ := R.sees y e hy hvis
        refine ⟨u, ?_, hr'⟩
        rcases hu with ⟨e1, m', hm', hv'⟩ | ⟨e1, c, hc, hv'⟩
        · have : m' = m := Nsm.uniq hm' hm
          subst this
          refine .inl ⟨e1, _, hn, ?_⟩
          rw [if_neg fun q => hyx (ofString_inj q)]; exact hv'
        · exact .inr ⟨e1, c, hc, Cellm.at hv' fun o e => hs.extBut _ o (R.cells _ c hc).2.2.2 e⟩
  · obtain ⟨c, hc⟩ := R.has _ (.inl hk)
    obtain ⟨⟨u, hu⟩, h1, h2, h3⟩ := R.cells _ c hc
    refine wpAny_storeName_cell R.kind hk hc hu (fun h' hn hs => ?_)
    obtain ⟨o, ho, hd⟩ := id hn
    refine q h' s.toks (GrowX.but (hX.2 hk c hc) ho hs.extBut) (S.but h1 h2 hs.extBut) ?_
    obtain ⟨m, hm⟩ := R.ns
    refine ⟨R.kind, R.glob, R.bl, ⟨m, Nsm.at hm fun o e => hs.extBut _ o (Ne.symm h3) e⟩, R.offL, fun y c' e => ?_, R.has, fun y e hy hvis => ?_, R.inj⟩
    · obtain ⟨⟨u', hu'⟩, h1', h2', h3'⟩ := R.cells y c' e
      refine ⟨?_, h1', h2', h3'⟩
      by_cases hcc : c' = c
      · subst hcc; exact ⟨_, hn⟩
      · exact ⟨u', Cellm.at hu' fun o e => hs.extBut _ o hcc e⟩
    · rw [look_setv hr] at hy
      by_cases hyx : y = x
      · subst hyx
        rw [if_pos rfl] at hy; cases hy
        exact ⟨v, .inr ⟨.inl hk, c, hc, hn⟩, hv⟩
      · rw [if_neg hyx] at hy
        obtain ⟨u', hu', hr'⟩ := R.sees y e hy hvis
        refine ⟨u', ?_, hr'⟩
        rcases hu' with ⟨e1, m', hm', hv'⟩ | ⟨e1, c', hc', hv'⟩
        · exact .inl ⟨e1, m', Nsm.at hm' fun o e => hs.extBut _ o (Ne.symm h3) e, hv'⟩
        · refine .inr ⟨e1, c', hc', Cellm.at hv' fun o e => hs.extBut _ o ?_ e⟩
          rintro rfl
          exact hyx (ofString_inj (R.inj _ _ _ hc' hc))

noncomputable def nmIs (e : Expr) (x : String) : Bool := onNameE e fun id _ => id == Str.ofString x
theorem nmIs_inv {e : Expr} {x : String} (h : nmIs e x = true) : ∃ p, e = .Name (Str.ofString x) p :=
  onName_elim (P := fun e => ∃ p, e = .Name (Str.ofString x) p) h fun id p h => ⟨p, by rw [beq_iff_eq.mp h]⟩
noncomputable def nmsAre : List Expr → List String → Bool
  | [], l => l.isEmpty
  | e :: r, l => match l with
    | [] => false
    | x :: xs => nmIs e x && nmsAre r xs
noncomputable def tgtIs (e : Expr) (m : MT) : Bool := match m with
  | .one x => nmIs e x
  | .tup xs => onTupleE e fun es _ _ => nmsAre es xs
noncomputable def storable (env : Env) (xs : List String) : Prop := ∀ x ∈ xs, env.kindOf (Str.ofString x) = some .local ∨ env.kindOf (Str.ofString x) = some .cell
noncomputable def Bears (X : Addr → Prop) (env : Env) (xs : List String) : Prop := X env.locals ∧ ∀ x ∈ xs, env.kindOf (Str.ofString x) = some .cell → ∀ c, env.cells.lookup (Str.ofString x) = some c → X c

theorem order_ok {Q : Unit → Shared → Prop} : ∀ {es : List Expr} {xs : List String} {vs : List Value} {ds : List V} {ρ : Rho} {s : Shared}, nmsAre es xs = true → setTup ρ xs ds = some ρ' → storable env xs → Bears X env xs → VRs g φ vs ds → Sim hb C φ σ g s.heap → ER hb φ g s.heap env ρ →
    (∀ h' tk, GrowX X φ g s.heap φ g h' → Sim hb C φ σ g h' → ER hb φ g h' env ρ' → Q () { s with heap := h', toks := tk }) → wpAny (model prog C.w) A (assignInOrder ((assignEach es env).map (·.2)) vs) Q E s
  | [], [], vs, ds, ρ, s, _, e, hst, hbe, hvs, S, R, q => by
    cases ds with
    | nil =>
      cases hvs.inv0
      cases e
      exact wpAny_pure (q s.heap s.toks GrowX.refl S R)
    | cons _ _ => cases e
  | [], _ :: _, _, _, _, _, h, _, _, _, _, _, _, _ => by cases h
  | e :: r, [], _, _, _, _, h, _, _, _, _, _, _, _ => by cases h
  | e :: r, x :: xs, vs, ds, ρ, s, h, e', hst, hbe, hvs, S, R, q => by
    have h : (nmIs e x && nmsAre r xs) = true := h
    rw [Bool.and_eq_true] at h
    cases ds with
    | nil => cases e'
    | cons d ds =>
      obtain ⟨v, ws, rfl, hv, hr⟩ := hvs.inv
      obtain ⟨ρ₁, h1, h2⟩ := Option.bind_eq_some_iff.mp (show ((setv ρ x d).bind fun ρ => setTup ρ xs ds) = some ρ' from e')
      obtain ⟨hn, hrest⟩ := h
      obtain ⟨p, rfl⟩ := nmIs_inv hn
      · show wpAny _ A (holding ws (standAt p >>= fun _ => bindName env (Str.ofString x) v) >>= fun _ => assignInOrder ((assignEach r env).map (·.2)) ws) _ _ s
        refine wpAny_bind (wpAny_holding (wpAny_bind (wpAny_standAt (wpAny_bindName (store_ok h1 (hst x (.head _)) S R hv ⟨hbe.1, fun k c hc => hbe.2 x (.head _) k c hc⟩ fun h' tk G' S' R' => ?_)))))
        exact order_ok (s := { s with heap := h', toks := tk }) hrest h2 (fun y hy => hst y (.tail _ hy)) ⟨hbe.1, fun y hy => hbe.2 y (.tail _ hy)⟩ hr S' R' fun h'' tk' G'' S'' R'' => q h'' tk' (G'.trans G'') S'' R''

theorem each_len : ∀ {es : List Expr} {xs : List String}, nmsAre es xs = true → (assignEach es env).length = xs.length ∧ (assignEach es env).findIdx? (·.1) = none
  | [], [], _ => ⟨rfl, rfl⟩
  | [], _ :: _, h => by cases h
  | e :: r, [], h => by cases h
  | e :: r, x :: xs, h => by
    have h : (nmIs e x && nmsAre r xs) = true := h
    rw [Bool.and_eq_true] at h
    obtain ⟨h1, h2⟩ := each_len (es := r) (xs := xs) h.2
    obtain ⟨p, rfl⟩ := nmIs_inv h.1
    · show ((false, assign (.Name (Str.ofString x) p) env) :: assignEach r env).length = _ ∧ ((false, assign (.Name (Str.ofString x) p) env) :: assignEach r env).findIdx? (·.1) = none
      rw [List.length_cons, h1, List.findIdx?_cons, h2]
      exact ⟨rfl, rfl⟩
theorem setTup_len : ∀ {xs : List String} {ds : List V} {ρ : Rho}, setTup ρ xs ds = some ρ' → xs.length = ds.length
  | [], [], _, _ => rfl
  | [], _ :: _, _, h => by cases h
  | _ :: _, [], _, h => by cases h
  | x :: xs, d :: ds, ρ, h => by
    obtain ⟨ρ₁, h1, h2⟩ := Option.bind_eq_some_iff.mp (show ((setv ρ x d).bind fun ρ => setTup ρ xs ds) = some ρ' from h)
    rw [List.length_cons, List.length_cons, setTup_len h2]

theorem assign_ok {t : Expr} {m : MT} {d : V} {v : Value} {Q : Unit → Shared → Prop} (ht : tgtIs t m = true) (hr : setT ρ m d = some ρ') (hst : storable env m.names) (hbe : Bears X env m.names) (hh : A.handled = none) (S : Sim hb C φ σ g s.heap) (R : ER hb φ g s.heap env ρ) (hv : VR g φ v d)
    (q : ∀ h' tk, GrowX X φ g s.heap φ g h' → Sim hb C φ σ g h' → ER hb φ g h' env ρ' → Q () { s with heap := h', toks := tk }) : wpAny (model prog C.w) A (assign t env v) Q E s := by
  cases m with
  | one x =>
    obtain ⟨p, rfl⟩ := nmIs_inv (show nmIs t x = true from ht)
    · show wpAny _ A (standAt p >>= fun _ => bindName env (Str.ofString x) v) _ _ s
      exact wpAny_bind (wpAny_standAt (wpAny_bindName (store_ok hr (hst x (.head _)) S R hv ⟨hbe.1, fun k c hc => hbe.2 x (.head _) k c hc⟩ q)))
  | tup xs =>
    refine onTuple_elim (P := fun t => wpAny (model prog C.w) A (assign t env v) Q E s) (f := fun es _ _ => nmsAre es xs) ht fun es k p ht' => ?_
    · cases d with
      | tuple ds =>
        obtain ⟨l1, l2⟩ := each_len (env := env) ht'
        obtain ⟨a, us, rfl, hT, hrs⟩ := tup_at S hv
        refine wpAny_assign_Tuple hh hT (by rw [l1, setTup_len (show setTup ρ xs ds = some ρ' from hr), List.size_toArray, hrs.length]) l2 fun h' hs => ?_
        have hk : ∀ b o, s.heap.get? b = some o → h'.get? b = some o := fun b o e => hs b o (Nat.ne_of_lt (Heap.lt_size e)) e
        have G' : Grow φ g s.heap φ g h' := ⟨List.prefix_refl _, fun _ _ e => e, fun _ _ e => .inl e, fun _ e => .inl e, fun b o e _ => hk b o e, fun b o e => ⟨o, hk b o e⟩⟩
        exact order_ok (s := { s with heap := h' }) ht' hr hst hbe (by simpa using hrs) (S.all hk) (R.grow G') fun h'' tk G'' S'' R'' => q h'' tk (G'.toX.trans G'') S'' R''
      | _ => cases hr
end
end Mine

namespace Mine

noncomputable def ItAt (φ : List Addr) (h : Heap) (it : Addr) (v : Value) (N i : Nat) : V → Prop
  | .list _ => ∃ a, v = .ref a ∧ h.IsListIter it a i
  | .own _ => ∃ a, v = .ref a ∧ h.IsListIter it a i
  | .tuple _ => ∃ a, v = .ref a ∧ h.IsTupleIter it a i
  | .rng n => IsRangeIter h it i ((n : Int) - i) 1
  | .items k => ∃ d ok ov, φ[k]? = some d ∧ IsItemIter h it d i N N ok ov
  | .bytes x => ∃ t, v = .bytes (bytV x) t ∧ KBw.IsBytesIter h it (bytV x) t i
  | _ => False

theorem VRs.none {g : Part} {φ : List Addr} {vs : List Value} {ds : List V} {i : Nat} (h : VRs g φ vs ds) (e : ds[i]? = .none) : vs.toArray[i]? = .none := by
  rw [List.getElem?_toArray]
  rw [List.getElem?_eq_none_iff] at e ⊢
  rw [h.length]; exact e
section
variable {prog : Program} {hb : Heap} {C : Cx} {n : Nat} {env : Env} {ρ ρ' : Rho} {σ σ₁ σ₂ σ₃ : Store} {A : Around} {s : Shared} {φ φ' : List Addr} {g : Part} {E : Value → Shared → Prop} {X : Addr → Prop}

theorem ItAt.keep {h h' : Heap} {it : Addr} {v : Value} {N i : Nat} {x : V} (z : ItAt φ h it v N i x) (hp : φ <+: φ') (hk : ∀ o, h.get? it = some o → h'.get? it = some o) : ItAt φ' h' it v N i x := by
  cases x <;> first | exact z.elim | skip
  · obtain ⟨a, e, o, ho, r⟩ := z; exact ⟨a, e, o, hk _ ho, r⟩
  · obtain ⟨a, e, o, ho, r⟩ := z; exact ⟨a, e, o, hk _ ho, r⟩
  · obtain ⟨a, e, o, ho, r⟩ := z; exact ⟨a, e, o, hk _ ho, r⟩
  · exact hk _ z
  · obtain ⟨d, p, q, h1, h2⟩ := z; exact ⟨d, p, q, pre_get hp h1, hk _ h2⟩
  · obtain ⟨t, e, o, ho, r⟩ := z; exact ⟨t, e, o, hk _ ho, r⟩
theorem ItAt.obj {h : Heap} {it : Addr} {v : Value} {N i : Nat} {x : V} (z : ItAt φ h it v N i x) : ∃ o, h.get? it = some o := by
  cases x <;> first | exact z.elim | skip
  · obtain ⟨a, e, o, ho, r⟩ := z; exact ⟨o, ho⟩
  · obtain ⟨a, e, o, ho, r⟩ := z; exact ⟨o, ho⟩
  · obtain ⟨a, e, o, ho, r⟩ := z; exact ⟨o, ho⟩
  · exact ⟨_, z⟩
  · obtain ⟨d, p, q, h1, h2⟩ := z; exact ⟨_, h2⟩
  · obtain ⟨t, e, o, ho, r⟩ := z; exact ⟨o, ho⟩

theorem range_small : ∀ n : Nat, n ≤ 16 → Builtin.Range.small 0 n 1 = true ∧ Builtin.Range.rangeSize 0 n 1 = n := fun n h =>
  (by decide : ∀ n : Fin 17, Builtin.Range.small 0 n.val 1 = true ∧ Builtin.Range.rangeSize 0 n.val 1 = n.val) ⟨n, Nat.lt_succ_of_le h⟩
theorem items_inv {k : Nat} {vs : List V} (e : iterOf σ (.items k) = some vs) : ∃ es, σ[k]? = some (.dct es) ∧ es.length ≤ 1000 ∧ vs = es.map fun p => .tuple [.str p.1, p.2] := by
  obtain ⟨es, q, e⟩ := dctK_inv e
  obtain ⟨hl, e⟩ := ite_some e
  exact ⟨es, q, hl, (Option.some.inj e).symm⟩
theorem iter_lst {x : V} {v : Value} {vs : List V} {Q : Value → Shared → Prop} (e : lstOf σ x = some vs) (S : Sim hb C φ σ g s.heap) (hv : VR g φ v x)
    (q : ∀ it h', s.heap.get? it = none → (∀ b o, s.heap.get? b = some o → h'.get? b = some o) → (∃ a, v = .ref a ∧ h'.IsListIter it a 0) → Q (.ref it) { s with heap := h' }) : wpAny (model prog C.w) A (pyIter v) Q E s := by
  obtain ⟨a, us, rfl, hL, hr⟩ := lst_at S hv e
  exact wpAny_pyIter_list hL (q _ _ (fresh_none _) (fun b o e => Heap.get?_push_of_some _ e) ⟨a, rfl, _, Heap.get?_push_size _ rfl, rfl, rfl⟩)
theorem iter_op {x : V} {v : Value} {vs : List V} {Q : Value → Shared → Prop} (e : iterOf σ x = some vs) (S : Sim hb C φ σ g s.heap) (hv : VR g φ v x)
    (q : ∀ it h', s.heap.get? it = none → (∀ b o, s.heap.get? b = some o → h'.get? b = some o) → ItAt φ h' it v vs.length 0 x → Q (.ref it) { s with heap := h' }) : wpAny (model prog C.w) A (pyIter v) Q E s := by
  cases x with
  | tuple ds =>
    obtain ⟨a, us, rfl, hT, hr⟩ := tup_at S hv
    exact wpAny_pyIter_tuple hT (q _ _ (fresh_none _) (fun b o e => Heap.get?_push_of_some _ e) ⟨a, rfl, _, Heap.get?_push_size _ rfl, rfl, rfl⟩)
  | list _ => exact iter_lst (show lstOf σ (.list _) = some vs from e) S hv q
  | own _ => exact iter_lst (show lstOf σ (.own _) = some vs from e) S hv q
  | rng n =>
    obtain ⟨hc, e⟩ := ite_some e
    cases e
    obtain ⟨r, t, u, w, rfl, ho⟩ := hv
    obtain ⟨hs, hz⟩ := range_small n hc
    refine wpAny_pyIter_range (S.keep _ _ ho) hs (q _ _ (fresh_none _) (fun b o e => Heap.get?_push_of_some _ e) ?_)
    rw [hz]
    show IsRangeIter _ _ ((0 : Nat) : Int) ((n : Int) - (0 : Nat)) 1
    rw [show (n : Int) - ((0 : Nat) : Int) = n from Int.sub_zero _]
    exact Heap.get?_push_size _ rfl
  | items k =>
    obtain ⟨es, q', hl, rfl⟩ := items_inv e
    obtain ⟨a, r, rfl, ha, ho⟩ := hv
    obtain ⟨_, hnd, l, hd, hk, hr⟩ := S.own _ _ _ ha q'
    have hD : s.heap.DictAt (strKind prog C.w) a _ l.length := dict_at hd (hk ▸ hnd)
    have hN : (es.map fun p => V.tuple [.str p.1, p.2]).length = l.length := by rw [List.length_map, ← List.length_map (f := (·.1)) (as := es), ← hk, List.length_map]
    refine wpAny_pyIter_items (knd := strKind prog C.w) (d := a) ⟨_, S.keep _ _ ho, rfl, rfl⟩ hD (q _ _ (fresh_none _) (fun b o e => Heap.get?_push_of_some _ e) ⟨a, .none, .none, ha, ?_⟩)
    rw [hN]
    have := Heap.get?_push_size s.heap (o := { cls := .type "dict_itemiterator", data := .fields #[.none, .bool false, .ref a, .int (0 : Nat) 0, .int l.length 0, .int l.length 0, .none, .none] }) rfl
    rw [List.length_map]
    exact this
  | bytes x =>
    cases e
    obtain ⟨t, rfl, hx⟩ := hv.ofByt
    exact KBw.pyIter_bytes (q _ _ (fresh_none _) (fun b o e => Heap.get?_push_of_some _ e) ⟨t, rfl, _, Heap.get?_push_size _ rfl, rfl, rfl⟩)
  | _ => cases e
theorem next_lst {x : V} {v : Value} {vs : List V} {it : Addr} {i : Nat} {Q : Option Value → Shared → Prop} (hh : A.handled = none) (e : lstOf σ x = some vs) (S : Sim hb C φ σ g s.heap) (hv : VR g φ v x) (hit : ∃ a, v = .ref a ∧ s.heap.IsListIter it a i)
    (q1 : ∀ d u h' tk, vs[i]? = some d → VR g φ u d → Heap.ExtBut it s.heap h' → (∃ a, v = .ref a ∧ h'.IsListIter it a (i + 1)) → Q (some u) { s with heap := h', toks := tk })
    (q2 : ∀ h' , vs[i]? = none → Heap.ExtBut it s.heap h' → Q none { s with heap := h' }) : wpAny (model prog C.w) A (pyNext (.ref it)) Q E s := by
  obtain ⟨a, rfl, hit2⟩ := hit
  obtain ⟨a', us, ha', hL, hr⟩ := lst_at S hv e
  cases ha'
  cases hd : vs[i]? with
  | some d =>
    obtain ⟨u, hu, hru⟩ := hr.get hd
    exact wpAny_pyNext_list_item hit2 hL (by rw [List.getElem?_toArray]; exact hu) fun h' hit' hs' => q1 d u h' s.toks hd hru hs'.extBut ⟨a, rfl, hit'⟩
  | none => exact wpAny_pyNext_list_end hh hit2 hL (hr.none hd) fun h' hs' => q2 h' hd hs'
theorem next_op {x : V} {v : Value} {vs : List V} {it : Addr} {i : Nat} {Q : Option Value → Shared → Prop} (hh : A.handled = none) (e : iterOf σ x = some vs) (S : Sim hb C φ σ g s.heap) (hv : VR g φ v x) (hx : ∀ k, x ≠ .items k) (hit : ItAt φ s.heap it v vs.length i x) (hi : i ≤ vs.length)
    (q1 : ∀ d u h' tk, vs[i]? = some d → VR g φ u d → Heap.ExtBut it s.heap h' → ItAt φ h' it v vs.length (i + 1) x → Q (some u) { s with heap := h', toks := tk })
    (q2 : ∀ h' , vs[i]? = none → Heap.ExtBut it s.heap h' → Q none { s with heap := h' }) : wpAny (model prog C.w) A (pyNext (.ref it)) Q E s := by
  cases x with
  | tuple ds =>
    cases e
    obtain ⟨a, rfl, hit⟩ := hit
    obtain ⟨a', us, ha', hT, hr⟩ := tup_at S hv
    cases ha'
    cases hd : vs[i]? with
    | some d =>
      obtain ⟨u, hu, hru⟩ := hr.get hd
      exact wpAny_pyNext_tuple_item hit hT (by rw [List.getElem?_toArray]; exact hu) fun h' hit' hs' => q1 d u h' s.toks hd hru hs'.extBut ⟨a, rfl, hit'⟩
    | none => exact wpAny_pyNext_tuple_end hh hit hT (hr.none hd) fun h' hs' => q2 h' hd hs'
  | list _ => exact next_lst hh (show lstOf σ (.list _) = some vs from e) S hv hit q1 q2
  | own _ => exact next_lst hh (show lstOf σ (.own _) = some vs from e) S hv hit q1 q2
  | rng n =>
    obtain ⟨hc, e⟩ := ite_some e
    cases e
    rw [List.length_map, List.length_range] at hi
    have hd : ((List.range n).map fun (i : Nat) => V.int i)[i]? = if i < n then some (.int i) else none := by
      rw [List.getElem?_map]
      by_cases h : i < n
      · rw [List.getElem?_range h, if_pos h]; rfl
      · rw [List.getElem?_eq_none_iff.mpr (by rw [List.length_range]; exact Nat.le_of_not_lt h), if_neg h]; rfl
    by_cases hlt : i < n
    · refine wpAny_pyNext_range_item hit (by omega) fun h' hit' hs' => q1 _ _ h' _ (hd.trans (if_pos hlt)) (.int _ _) hs'.extBut ?_
      show IsRangeIter h' it ((i : Int) + 1) ((n : Int) - ((i : Int) + 1)) 1
      rw [← Int.sub_sub]
      exact hit'
    · exact wpAny_pyNext_range_end hh hit (by omega) fun h' hs' => q2 h' (hd.trans (if_neg hlt)) hs'
  | items k => exact absurd rfl (hx _)
  | bytes y =>
    cases e
    obtain ⟨t, rfl, hit⟩ := hit
    obtain ⟨t', ht', hb'⟩ := hv.ofByt
    have hb : (bytV y)[i]? = y[i]?.map UInt8.ofNat := by unfold bytV; rw [List.getElem?_toArray, List.getElem?_map]
    have hm : (y.map fun (c : Nat) => V.int c)[i]? = y[i]?.map fun (c : Nat) => V.int c := List.getElem?_map ..
    cases hd : y[i]? with
    | some c =>
      rw [hd] at hb hm
      have hcn : ((UInt8.ofNat c).toNat : Int) = c := by rw [UInt8.toNat_ofNat', Nat.mod_eq_of_lt (hb' c (List.mem_of_getElem? hd))]
      refine KBw.next_item hit hb fun h' hit' hs' => ?_
      rw [hcn]
      exact q1 _ _ h' _ hm (.int _ _) hs'.extBut ⟨t, rfl, hit'⟩
    | none =>
      rw [hd] at hb hm
      exact KBw.next_end hh hit hb fun h' hs' => q2 h' hm hs'
  | _ => cases e

theorem go_ok {t : Expr} {x : V} {v u : Value} {it : Addr} {i : Nat} {Q : Unit → Shared → Prop} {N : Nat} (hit : ItAt φ s.heap it v N (i + 1) x) (q : Q () s) (hx : ∀ k, x ≠ .items k) : wpAny (model prog C.w) A (letOwnedTupleGo t (.ref it) u) Q E s := by
  have key : ∀ {nm : String} {fs : Array Value} {o : Obj}, s.heap.get? it = some o → o.cls = .type nm → o.data = .fields fs → ["enumerate", "zip", "dict_itemiterator", "dict_reverseitemiterator", "odict_iterator", "itertools.zip_longest", "itertools.pairwise"].contains nm = false → wpAny (model prog C.w) A (letOwnedTupleGo t (.ref it) u) Q E s := by
    intro nm fs o ho hc hd hn
    unfold letOwnedTupleGo
    split
    · split
      · rename_i r a hp
        cases hp
        refine wpAny_bind (wpAny_load ho ?_)
        rw [hc, hd]
        dsimp only
        rw [hn, Bool.false_and]
        exact wpAny_pure q
      · exact wpAny_pure q
    · split
      · rename_i r a hp
        cases hp
        refine wpAny_bind (wpAny_load ho ?_)
        rw [hc, hd]
        dsimp only
        rw [hn, Bool.false_and]
        exact wpAny_pure q
      · exact wpAny_pure q
    · exact wpAny_pure q
  cases x <;> first | exact hit.elim | skip
  · obtain ⟨a, e, o, ho, h1, h2⟩ := hit; exact key ho h1 h2 (by decide)
  · obtain ⟨a, e, o, ho, h1, h2⟩ := hit; exact key ho h1 h2 (by decide)
  · obtain ⟨a, e, o, ho, h1, h2⟩ := hit; exact key ho h1 h2 (by decide)
  · exact key (show s.heap.get? it = _ from hit) rfl rfl (by decide)
  · exact absurd rfl (hx _)
  · obtain ⟨t, e, o, ho, h1, h2⟩ := hit; exact key ho h1 h2 (by decide)
noncomputable def isTupT (e : Expr) : Bool := onTupleE e fun _ _ _ => true
theorem next_any {t : Expr} {x : V} {v : Value} {vs : List V} {it : Addr} {i : Nat} {Q : Option Value → Shared → Prop} (hh : A.handled = none) (e : iterOf σ x = some vs) (S : Sim hb C φ σ g s.heap) (hv : VR g φ v x) (hit : ItAt φ s.heap it v vs.length i x) (h1 : it ∉ φ) (h2 : g it = none) (hi : i ≤ vs.length)
    (ht : (∃ k, x = .items k) → isTupT t = true)
    (q1 : ∀ d u hv' g' h' tk, vs[i]? = some d → Grow φ g s.heap φ g' hv' → Sim hb C φ σ g' hv' → g' it = none → VR g' φ u d → Heap.ExtBut it hv' h' →
      (∀ {E' : Value → Shared → Prop} {Q' : Unit → Shared → Prop}, (∀ h'', ItAt φ h'' it v vs.length (i + 1) x → Heap.ExtBut it hv' h'' → Q' () { s with heap := h'', toks := tk }) → wpAny (model prog C.w) A (letOwnedTupleGo t (.ref it) u) Q' E' { s with heap := h', toks := tk }) →
      Q (some u) { s with heap := h', toks := tk })
    (q2 : ∀ h' , vs[i]? = none → Heap.ExtBut it s.heap h' → Q none { s with heap := h' }) : wpAny (model prog C.w) A (pyNext (.ref it)) Q E s := by
  by_cases hx : ∃ k, x = .items k
  · obtain ⟨k, rfl⟩ := hx
    obtain ⟨es, q', hl, rfl⟩ := items_inv e
    obtain ⟨a, ok, ov, ha, hit⟩ := hit
    obtain ⟨_, hnd, l, hd, hk, hr⟩ := S.own _ _ _ ha q'
    have hD : s.heap.DictAt (strKind prog C.w) a _ l.length := dict_at hd (hk ▸ hnd)
    have hle : es.length = l.length := by rw [← List.length_map (f := (·.1)) (as := es), ← hk, List.length_map]
    rw [List.length_map] at hit hi
    rw [hle, ← List.length_map (f := fun p : List Nat × Tok × Value => (strV p.1, p.2.2)) (as := l)] at hit
    cases hp : l[i]? with
    | none =>
      refine wpAny_pyNext_items_end (knd := strKind prog C.w) hh (ep := l.length) (by simpa using hit) hD (by rw [List.getElem?_map, hp]; rfl) fun h' hs' => q2 h' ?_ hs'
      rw [List.getElem?_map, List.getElem?_eq_none_iff.mpr (by rw [hle]; exact List.getElem?_eq_none_iff.mp hp)]; rfl
    | some p =>
      obtain ⟨y, tk, w⟩ := p
      have hlt : i < l.length := (List.getElem?_eq_some_iff.mp hp).1
      obtain ⟨f, hf⟩ : ∃ f, es[i]? = some f := ⟨_, List.getElem?_eq_getElem (hle ▸ hlt)⟩
      have hkey : f.1 = y := by
        have := congrArg (·[i]?) hk
        simp only [List.getElem?_map, hp, hf, Option.map_some] at this
        exact (Option.some.inj this).symm
      obtain ⟨u, hu, hvr⟩ := hr.get (k := i) (d := f.2) (by rw [List.getElem?_map, hf]; rfl)
      rw [List.getElem?_map, hp] at hu
      cases hu
      refine wpAny_pyNext_items_item (knd := strKind prog C.w) (ep := l.length) (by simpa using hit) hD (by rw [List.getElem?_map, hp]; rfl) fun key h' hkd he' hgt hsz hext => ?_
      obtain ⟨t', rfl⟩ := Value.isStrOf_shape (show Value.isStrOf (strV y) key = true by simpa [PySem.strKind] using hkd)
      have hne : s.heap.objs.size ≠ it := Nat.ne_of_gt (Heap.lt_size hit)
      obtain ⟨S', G'⟩ := S.put (fresh_none s.heap) (o := { cls := .type "tuple", data := .seq #[.str (strV y) t', w] }) (h' := s.heap.push { cls := .type "tuple", data := .seq #[.str (strV y) t', w] }) (Heap.get?_push_size _ rfl) (fun b o e => Heap.get?_push_of_some _ e)
      have hE : Heap.ExtBut it (s.heap.push { cls := .type "tuple", data := .seq #[.str (strV y) t', w] }) h' := fun b o hb e => by
        rcases Heap.get?_push_cases e with ⟨rfl, rfl⟩ | e'
        · exact hgt
        · exact hext b o hb e'
      have hd' : (es.map fun p => V.tuple [.str p.1, p.2])[i]? = some (.tuple [.str y, f.2]) := by rw [List.getElem?_map, hf, ← hkey]; rfl
      refine q1 _ _ _ _ h' s.toks hd' G' S' (by unfold putG; rw [if_neg (Ne.symm hne)]; exact h2)
        (.tuple (vs := [.str (strV y) t', w]) (by unfold putG; rw [if_pos rfl]) rfl rfl (.cons (.str _ _) (.cons (hvr.mono G'.mono G'.pre) .nil))) hE fun {E' Q'} q => ?_
      refine onTuple_elim (P := fun t => wpAny (model prog C.w) A (letOwnedTupleGo t (.ref it) (.ref s.heap.objs.size)) Q' E' { s with heap := h', toks := s.toks }) (ht ⟨k, rfl⟩) fun a1 a2 a3 _ => ?_
      refine wpAny_letOwnedTupleGo_items he' fun h'' hi'' hs'' => q h'' ⟨a, .str (strV y) t', w, ha, ?_⟩ ?_
      · rw [List.length_map, hle]; simpa using hi''
      · exact fun b o hb e => hs''.extBut b o hb (hE b o hb e)
  · refine next_op hh e S hv (fun k q => hx ⟨k, q⟩) hit hi (fun d u h' tk hd hu he hit' => q1 d u s.heap g h' tk hd (Grow.refl ..) S h2 hu he fun {E' Q'} q => ?_) q2
    exact go_ok (s := { s with heap := h', toks := tk }) hit' (q h' hit' he) fun k q => hx ⟨k, q⟩
end
end Mine

namespace Mine

section
variable {prog : Program} {hb : Heap} {C : Cx} {n : Nat} {env cenv : Env} {ρ ρ' : Rho} {σ σ₁ σ₂ σ₃ : Store} {A : Around} {s : Shared} {φ φ' : List Addr} {g : Part} {E : Value → Shared → Prop} {X : Addr → Prop}

theorem GrowX.step {X : Addr → Prop} {φ φ₁ : List Addr} {g g₁ : Part} {h h₁ : Heap} (x : Grow φ g h φ₁ g₁ h₁) : GrowX X φ g h φ₁ g₁ h₁ := x.toX

theorem closure_go (cells : List (Str × Addr)) : ∀ (names : List (Str × NameKind)) (acc : List (Str × Addr)), env.cells = cells → (∀ x ∈ names, x.2 = .free → ∃ c, cells.lookup x.1 = some c) → (∀ n c, acc.lookup n = some c → cells.lookup n = some c) →
    ∃ cl, (forIn (m := Sem) names acc fun x r => (match x with | (name, kind) => if (kind == .free) = true then do let __do_lift ← cellOf env name; pure (ForInStep.yield ((name, __do_lift) :: r)) else pure (ForInStep.yield r) : Sem (ForInStep (List (Str × Addr))))) = pure cl ∧
      (∀ n c, cl.lookup n = some c → cells.lookup n = some c) ∧ ∀ n, ((n, NameKind.free) ∈ names ∨ (acc.lookup n).isSome = true) → (cl.lookup n).isSome = true
  | [], acc, he, hf, ha => ⟨acc, rfl, ha, fun n h => by rcases h with h | h; cases h; exact h⟩
  | (m, k) :: r, acc, he, hf, ha => by
    cases hk : (k == .free) with
    | true =>
      have hk' : k = .free := by simpa using hk
      subst hk'
      obtain ⟨c, hc⟩ := hf _ (.head _) rfl
      obtain ⟨cl, e1, e2, e3⟩ := closure_go cells r ((m, c) :: acc) he (fun x hx => hf x (.tail _ hx)) (fun n c' h => by
        rw [List.lookup_cons] at h
        split at h
        · rename_i q; cases h; have := beq_iff_eq.mp q; subst this; exact hc
        · exact ha n c' h)
      refine ⟨cl, ?_, e2, fun n h => e3 n ?_⟩
      · rw [List.forIn_cons]
        have : (cellOf env m : Sem Addr) = pure c := by unfold cellOf; rw [he]; dsimp only at hc; rw [hc]
        show (cellOf env m >>= fun x => pure (ForInStep.yield ((m, x) :: acc)) : Sem _) >>= _ = _
        rw [this]; exact e1
      · rcases h with h | h
        · cases h with
          | head => exact .inr (by rw [List.lookup_cons]; simp)
          | tail _ h => exact .inl h
        · refine .inr ?_
          rw [List.lookup_cons]; split
          · rfl
          · exact h
    | false =>
      obtain ⟨cl, e1, e2, e3⟩ := closure_go cells r acc he (fun x hx => hf x (.tail _ hx)) ha
      refine ⟨cl, ?_, e2, fun n h => e3 n ?_⟩
      · rw [List.forIn_cons]
        show (if (k == .free) = true then _ else pure (ForInStep.yield acc) : Sem _) >>= _ = _
        rw [hk]; exact e1
      · rcases h with h | h
        · cases h with
          | head => exact absurd hk (by decide)
          | tail _ h => exact .inl h
        · exact .inr h
theorem closure_ok {scope : Scope} (hf : ∀ x ∈ scope.names, x.2 = .free → ∃ c, env.cells.lookup x.1 = some c) :
    ∃ cl, closureFor scope env = pure cl ∧ (∀ n c, cl.lookup n = some c → env.cells.lookup n = some c) ∧ ∀ n, (n, NameKind.free) ∈ scope.names → (cl.lookup n).isSome = true := by
  obtain ⟨cl, e1, e2, e3⟩ := closure_go env.cells scope.names [] rfl hf (fun n c h => by cases h)
  refine ⟨cl, ?_, e2, fun n h => e3 n (.inl h)⟩
  unfold closureFor
  show (forIn (m := Sem) scope.names [] _ >>= fun cs => pure cs) = pure cl
  have : ∀ t : Sem (List (Str × Addr)), t = pure cl → (t >>= fun cs => pure cs) = (pure cl : Sem _) := fun t h => by rw [h]; rfl
  exact this _ e1

structure CompScope (env : Env) (scope : Scope) (own : List String) : Prop where
  kind : scope.kind = .function
  noCell : ∀ x ∈ scope.names, x.2 ≠ .cell
  once : ∀ x ∈ scope.names, scope.names.lookup x.1 = some x.2
  locals : ∀ x ∈ scope.names, x.2 = .local → ∃ y ∈ own, x.1 = Str.ofString y
  free : ∀ x ∈ scope.names, x.2 = .free → env.kindOf x.1 = some .cell ∨ env.kindOf x.1 = some .free

theorem look_own {own : List String} {x : String} {d : V} (h : look (own.map (fun y => (y, none)) ++ ρ) x = some d) : x ∉ own ∧ look ρ x = some d := by
  induction own with
  | nil => exact ⟨by simp, h⟩
  | cons y r ih =>
    unfold look at h ih ⊢
    rw [List.map_cons, List.cons_append, List.lookup_cons] at h
    cases hxy : (x == y) with
    | true => rw [hxy] at h; cases h
    | false =>
      rw [hxy] at h
      obtain ⟨h1, h2⟩ := ih h
      refine ⟨fun q => ?_, h2⟩
      rcases List.mem_cons.mp q with q | q
      · rw [q] at hxy; simp at hxy
      · exact h1 q

theorem relabel_lookup {scope : Scope} {x : Str} {k : NameKind} (h : (relabel scope env).names.lookup x = some k) : ∃ k₀, (x, k₀) ∈ scope.names ∧ scope.names.lookup x = some k₀ ∧ k = if (k₀ == .free && env.scope.kind == .function && env.kindOf x == some .cell) then .cell else k₀ := by
  obtain ⟨knd, names, b, c, d⟩ := scope
  unfold relabel at h
  dsimp only at h ⊢
  induction names with
  | nil => cases h
  | cons p r ih =>
    obtain ⟨m, k₁⟩ := p
    rw [List.map_cons] at h
    dsimp only at h
    by_cases hx : (x == m) = true
    · have hx' := beq_iff_eq.mp hx
      subst hx'
      refine ⟨k₁, .head _, by rw [List.lookup_cons]; simp, ?_⟩
      split at h
      · rename_i q
        rw [List.lookup_cons] at h; simp at h; rw [if_pos q]; exact h.symm
      · rename_i q
        rw [List.lookup_cons] at h; simp at h; rw [if_neg q]; exact h.symm
    · rw [Bool.not_eq_true] at hx
      have h' : List.lookup x (r.map fun x => match x with | (n, k) => if (k == .free && env.scope.kind == .function && env.kindOf n == some .cell) = true then (n, NameKind.cell) else (n, k)) = some k := by
        split at h <;> (rw [List.lookup_cons, hx] at h; exact h)
      obtain ⟨k₀, i1, i2, i3⟩ := ih h'
      exact ⟨k₀, .tail _ i1, by rw [List.lookup_cons, hx]; exact i2, i3⟩

theorem comp_er {scope : Scope} {own : List String} {cl : List (Str × Addr)} {L : Addr} {h h' : Heap} (Z : CompScope env scope own) (S : Sim hb C φ σ g h) (R : ER hb φ g h env ρ) (hcl : ∀ n c, cl.lookup n = some c → env.cells.lookup n = some c) (hcl' : ∀ n, (n, NameKind.free) ∈ scope.names → (cl.lookup n).isSome = true)
    (hL : h.get? L = none) (hk : ∀ b o, h.get? b = some o → h'.get? b = some o) (hn : h'.Ns L (fun _ => none)) : ER hb φ g h' (compEnvC scope cl L env) (own.map (fun y => (y, none)) ++ ρ) where
  kind := Z.kind
  glob := R.glob
  bl := R.bl
  ns := ⟨_, hn⟩
  offL := ⟨S.fresh_f hL, S.fresh_g hL⟩
  cells := fun m c e => by
    obtain ⟨⟨v, hv⟩, h1, h2, h3⟩ := R.cells m c (hcl m c e)
    refine ⟨⟨v, Cellm.at hv fun o e => hk _ o e⟩, h1, h2, ?_⟩
    rintro rfl
    obtain ⟨o, ho, _⟩ := hv
    rw [hL] at ho; cases ho
  has := fun m hm => by
    have : ∃ k, (relabel scope env).names.lookup m = some k ∧ (k = .cell ∨ k = .free) := by
      rcases hm with hm | hm
      · exact ⟨_, hm, .inl rfl⟩
      · exact ⟨_, hm, .inr rfl⟩
    obtain ⟨k, hk1, hk2⟩ := this
    obtain ⟨k₀, i1, i2, i3⟩ := relabel_lookup hk1
    have hk0 : k₀ = .free := by
      have := Z.noCell _ i1
      split at i3
      · rename_i q; simp only [Bool.and_eq_true, beq_iff_eq] at q; exact q.1.1
      · rcases hk2 with hk2 | hk2
        · exact absurd (i3.symm.trans hk2) this
        · exact i3.symm.trans hk2
    subst hk0
    exact Option.isSome_iff_exists.mp (hcl' m i1)
  sees := fun x d hx hv => by
    obtain ⟨h1, h2⟩ := look_own hx
    have hv' : ∃ k, (relabel scope env).names.lookup (Str.ofString x) = some k ∧ (k = .local ∨ k = .cell ∨ k = .free) := by
      have hv2 : vis ((relabel scope env).names.lookup (Str.ofString x)) = true := hv
      cases q : (relabel scope env).names.lookup (Str.ofString x) with
      | none => rw [q] at hv2; cases hv2
      | some k => rw [q] at hv2; refine ⟨k, rfl, ?_⟩; cases k <;> first | exact .inl rfl | exact .inr (.inl rfl) | exact .inr (.inr rfl) | cases hv2
    obtain ⟨k, hk1, hk2⟩ := hv'
    obtain ⟨k₀, i1, i2, i3⟩ := relabel_lookup hk1
    have hk0 : k₀ = .free := by
      have c1 := Z.noCell _ i1
      have c2 : k₀ ≠ .local := fun q => by
        obtain ⟨y, hy1, hy2⟩ := Z.locals _ i1 q
        exact h1 ((ofString_inj hy2) ▸ hy1)
      split at i3
      · rename_i q; simp only [Bool.and_eq_true, beq_iff_eq] at q; exact q.1.1
      · rcases hk2 with hk2 | hk2 | hk2
        · exact absurd (i3.symm.trans hk2) c2
        · exact absurd (i3.symm.trans hk2) c1
        · exact i3.symm.trans hk2
    subst hk0
    have hvis : vis (env.kindOf (Str.ofString x)) = true := by rcases Z.free _ i1 rfl with q | q <;> (rw [q]; rfl)
    obtain ⟨v, hs, hr⟩ := R.sees x d h2 hvis
    refine ⟨v, .inr ?_, hr⟩
    rcases hs with ⟨e1, _⟩ | ⟨e1, c, hc, hv1⟩
    · rcases Z.free _ i1 rfl with q | q <;> (rw [show env.kindOf (Str.ofString x) = _ from e1] at q; cases q)
    · obtain ⟨c', hc'⟩ := Option.isSome_iff_exists.mp (hcl' _ i1)
      have : c' = c := by have := hcl _ _ hc'; rw [hc] at this; exact (Option.some.inj this).symm
      subst this
      refine ⟨?_, c', hc', Cellm.at hv1 fun o e => hk _ o e⟩
      rcases e1 with e1 | ⟨e1, e2⟩
      · left
        show (relabel scope env).names.lookup (Str.ofString x) = _
        rw [hk1, i3, if_pos (by simp [R.kind, e1])]
      · right
        refine ⟨?_, e2⟩
        show (relabel scope env).names.lookup (Str.ofString x) = _
        rw [hk1, i3, if_neg (by simp [e1])]
  inj := fun m m' c e1 e2 => R.inj m m' c (hcl _ _ e1) (hcl _ _ e2)
end
end Mine

namespace Mine

structure CS (hb : Heap) (C : Cx) (φ : List Addr) (g : Part) (h : Heap) (cenv : Env) (ρ : Rho) (σ : Store) (D : Addr) (acc : List V) : Prop where
  sim : Sim hb C φ σ g h
  er : ER hb φ g h cenv ρ
  acc : ∃ vs : List Value, h.PlainList D vs.toArray ∧ VRs g φ vs acc
  offD : D ∉ φ ∧ g D = none
  neL : D ≠ cenv.locals
  neC : ∀ n c, cenv.cells.lookup n = some c → D ≠ c

noncomputable def innerW (prog : Program) (w : World) (A : Around) (e elt : Expr) (gens : List Comprehension) (acc : Value) (cenv : Env) (j : Nat) (Q : Shared → Prop) (E : Value → Shared → Prop) (s : Shared) : Prop := match gens[j]? with
  | some g' => wpAny (model prog w) A (eval g'.iter cenv) (fun x s₁ => wpAny (model prog w) A (pyIter x) (fun it s₂ => codeAny (model prog w) A (.compStart e j it acc cenv) (fun r s' => match r with | .ok _ => Q s' | .error _ => False) s₂) E s₁) E s
  | none => wpAny (model prog w) A (eval elt cenv) (fun v s₁ => wpAny (model prog w) A (call (.builtin "list.append") [acc, v]) (fun _ s₂ => Q s₂) E s₁) E s
noncomputable def notSet (e : Expr) : Bool := decide (e.ctorIdx ≠ 7)
theorem folded_ok {e : Expr} {env : Env} {x : Value} (h : notSet e = true) : foldedSetIterable e env x = pure x := by
  cases e <;> first | rfl | cases (show false = true from h)

noncomputable def tests (ifs : List Expr) (cenv : Env) (b : Bool) : Sem Bool := forIn ifs b fun c r => if r = true then do let ok ← isTrue c cenv (eval c cenv); pure (ForInStep.yield ok) else pure (ForInStep.yield r)

theorem turn_wp {prog : Program} {C : Cx} {A : Around} {s : Shared} {E : Value → Shared → Prop} {Q : Fin → Shared → Prop} {elt : Expr} {gens : List Comprehension} {scope : Scope} {pos : Pos} {j : Nat} {t itx : Expr} {ifs : List Expr} {itv acc : Value} {cenv : Env} (hg : gens[j]? = some ⟨t, itx, ifs, 0⟩) (hs : ∀ g', gens[j + 1]? = some g' → g'.is_async = 0 ∧ notSet g'.iter = true)
    (h : wpAny (model prog C.w) A (pyNext itv) (fun r s₁ => match r with
      | none => Q (.done .next) s₁
      | some v => wpAny (model prog C.w) A (letOwnedTupleGo t itv v) (fun _ s₂ => wpAny (model prog C.w) A (assign t cenv v) (fun _ s₃ => wpAny (model prog C.w) A (tests ifs cenv true) (fun ok s₄ =>
        if ok = true then innerW prog C.w A (.ListComp elt gens scope pos) elt gens acc cenv (j + 1) (fun s₅ => Q (.again (.compLoop (.ListComp elt gens scope pos) j itv acc cenv)) s₅) E s₄
        else Q (.again (.compLoop (.ListComp elt gens scope pos) j itv acc cenv)) s₄) E s₃) E s₂) E s₁) E s) :
    wpAny (model prog C.w) A (compTurn (.ListComp elt gens scope pos) j itv acc cenv) Q E s := by
  unfold compTurn
  dsimp only
  rw [hg]
  dsimp only
  rw [if_neg (show ¬ ((0 : Int) != 0) = true by decide), if_neg (show ¬ ((0 : Int) != 0) = true by decide)]
  refine wpAny_bind (wpAny_standAt (wpAny_bind (wpAny_mono h (fun r s₁ h₁ => ?_) fun _ _ e => e)))
  cases r with
  | none => exact wpAny_pure h₁
  | some v =>
    dsimp only at h₁ ⊢
    refine wpAny_bind (wpAny_mono h₁ (fun _ s₂ h₂ => wpAny_bind (wpAny_mono h₂ (fun _ s₃ h₃ => wpAny_bind (wpAny_mono h₃ (fun ok s₄ h₄ => ?_) fun _ _ e => e)) fun _ _ e => e)) fun _ _ e => e)
    cases ok with
    | false => rw [if_neg (by decide)] at h₄ ⊢; exact wpAny_pure h₄
    | true =>
      rw [if_pos rfl] at h₄ ⊢
      unfold innerW at h₄
      cases q : gens[j + 1]? with
      | none =>
        rw [q] at h₄
        exact wpAny_bind (wpAny_bind (wpAny_mono h₄ (fun v s₅ h₅ => wpAny_bind (wpAny_mono h₅ (fun _ s₆ h₆ => wpAny_pure (wpAny_pure h₆)) fun _ _ e => e)) fun _ _ e => e))
      | some g' =>
        rw [q] at h₄
        dsimp only at h₄ ⊢
        rw [(hs g' q).1]
        simp only [bne_self_eq_false, Bool.false_eq_true, if_false]
        refine wpAny_bind (wpAny_mono h₄ (fun x s₅ h₅ => wpAny_bind (wpAny_standAt (wpAny_bind (wpAny_of_eq (folded_ok (hs g' q).2) (wpAny_bind (wpAny_holding (wpAny_mono h₅ (fun it s₆ h₆ => wpAny_bind (wpAny_runOwn (codeAny_mono h₆ fun r s' z => ?_))) fun _ _ e => e))))))) fun _ _ e => e)
        cases r with
        | ok f => exact wpAny_pure z
        | error e => exact z.elim

section
variable {prog : Program} {hb : Heap} {C : Cx} {n : Nat} {env cenv : Env} {ρ ρ' : Rho} {σ σ₁ σ₂ σ₃ : Store} {A : Around} {s : Shared} {φ φ' : List Addr} {g : Part} {E : Value → Shared → Prop} {X : Addr → Prop} {D : Addr}

noncomputable def X0 (cenv : Env) (D : Addr) (a : Addr) : Prop := a = cenv.locals ∨ a = D

theorem ER.growX {φ₁ : List Addr} {g₁ : Part} {h h₁ : Heap} (R : ER hb φ g h env ρ) (G : GrowX X φ g h φ₁ g₁ h₁) (h1 : ¬ X env.locals) (h2 : ∀ n c, env.cells.lookup n = some c → ¬ X c) : ER hb φ₁ g₁ h₁ env ρ where
  kind := R.kind
  glob := R.glob
  bl := R.bl
  ns := let ⟨m, hm⟩ := R.ns; ⟨m, Nsm.at hm fun o e => G.keep _ o e R.offL.1 h1⟩
  offL := by
    obtain ⟨m, hm⟩ := R.ns
    obtain ⟨o, ho⟩ := Nsm.has hm
    exact G.off ho R.offL.1 R.offL.2
  cells := fun n c e => by
    obtain ⟨⟨v, hv⟩, h3, h4, h5⟩ := R.cells n c e
    obtain ⟨o, ho, hd⟩ := id hv
    obtain ⟨h6, h7⟩ := G.off ho h3 h4
    exact ⟨⟨v, Cellm.at hv fun o e' => G.keep _ o e' h3 (h2 n c e)⟩, h6, h7, h5⟩
  has := R.has
  sees := fun x d e v => by
    obtain ⟨y, hy, hr⟩ := R.sees x d e v
    refine ⟨y, ?_, hr.mono G.mono G.pre⟩
    rcases hy with ⟨e1, m, hm, hv⟩ | ⟨e1, c, hc, hv⟩
    · exact .inl ⟨e1, m, Nsm.at hm fun o e => G.keep _ o e R.offL.1 h1, hv⟩
    · exact .inr ⟨e1, c, hc, Cellm.at hv fun o e' => G.keep _ o e' (R.cells _ c hc).2.1 (h2 _ c hc)⟩
  inj := R.inj

theorem CS.grow {φ₁ : List Addr} {g₁ : Part} {h h₁ : Heap} {acc : List V} (Z : CS hb C φ g h cenv ρ σ D acc) (G : Grow φ g h φ₁ g₁ h₁) (S : Sim hb C φ₁ σ₁ g₁ h₁) : CS hb C φ₁ g₁ h₁ cenv ρ σ₁ D acc := by
  obtain ⟨vs, ⟨m, ho⟩, hr⟩ := Z.acc
  exact ⟨S, Z.er.grow G, ⟨vs, ⟨m, G.keep _ _ ho Z.offD.1⟩, hr.mono G.mono G.pre⟩, GrowX.off (X := fun _ => False) G.toX ho Z.offD.1 Z.offD.2, Z.neL, Z.neC⟩

noncomputable def CPost (hb : Heap) (C : Cx) (X : Addr → Prop) (φ : List Addr) (g : Part) (s : Shared) (cenv : Env) (ρ' : Rho) (σ' : Store) (D : Addr) (acc' : List V) (s' : Shared) : Prop :=
  ∃ φ' g', GrowX X φ g s.heap φ' g' s'.heap ∧ CS hb C φ' g' s'.heap cenv ρ' σ' D acc' ∧ Rest s s'
theorem CPost.trans {φ₁ : List Addr} {g₁ : Part} {s₁ s' : Shared} {acc' : List V} {σ' : Store} (G : GrowX X φ g s.heap φ₁ g₁ s₁.heap) (T : Rest s s₁) (p : CPost hb C X φ₁ g₁ s₁ cenv ρ' σ' D acc' s') : CPost hb C X φ g s cenv ρ' σ' D acc' s' :=
  let ⟨φ', g', a, b, c⟩ := p; ⟨φ', g', G.trans a, b, T.trans c⟩
theorem CPost.wider {Y : Addr → Prop} {s' : Shared} {acc' : List V} {σ' : Store} (p : CPost hb C X φ g s cenv ρ' σ' D acc' s') (h : ∀ a, X a → Y a) : CPost hb C Y φ g s cenv ρ' σ' D acc' s' :=
  let ⟨φ', g', a, b, c⟩ := p; ⟨φ', g', a.wider h, b, c⟩

noncomputable def IfsOK (prog : Program) (hb : Heap) (C : Cx) (n : Nat) (env : Env) (ρ : Rho) (σ : Store) (ifs : List Expr) (t : Bool) (σ' : Store) : Prop :=
  ∀ A s φ g E, Rm n A s.toks → Sim hb C φ σ g s.heap → ER hb φ g s.heap env ρ → wpAny (model prog C.w) A (tests ifs env true) (fun b s' => b = t ∧ Step hb C φ g s σ' s') E s
theorem tests_false {ifs : List Expr} {Q : Bool → Shared → Prop} (q : Q false s) : wpAny (model prog C.w) A (tests ifs env false) Q E s := by
  induction ifs with
  | nil => exact wpAny_pure q
  | cons c r ih =>
    unfold tests at ih ⊢
    rw [List.forIn_cons]
    exact wpAny_bind (wpAny_pure ih)
theorem ifs_nil : IfsOK prog hb C n env ρ σ [] true σ := fun A s φ g E hA S R => wpAny_pure ⟨rfl, Step.here S s.toks⟩
theorem ifs_stop {c : Expr} {r : List Expr} (a : TestOK prog hb C n env ρ σ c false σ₁) : IfsOK prog hb C n env ρ σ (c :: r) false σ₁ := by
  intro A s φ g E hA S R
  unfold tests
  rw [List.forIn_cons]
  refine wpAny_bind ?_
  rw [if_pos rfl]
  refine wpAny_bind (go hA (a A s φ g E hA S R) (fun b s₁ hA h₁ => wpAny_pure ?_))
  obtain ⟨rfl, h₁⟩ := h₁
  exact tests_false ⟨rfl, h₁⟩
theorem ifs_go {c : Expr} {r : List Expr} {t : Bool} (a : TestOK prog hb C n env ρ σ c true σ₁) (b : IfsOK prog hb C n env ρ σ₁ r t σ₂) : IfsOK prog hb C n env ρ σ (c :: r) t σ₂ := by
  intro A s φ g E hA S R
  unfold tests
  rw [List.forIn_cons]
  refine wpAny_bind ?_
  rw [if_pos rfl]
  refine wpAny_bind (go hA (a A s φ g E hA S R) (fun b' s₁ hA h₁ => wpAny_pure ?_))
  obtain ⟨rfl, φ₁, g₁, G₁, S₁, T₁⟩ := h₁
  exact go hA (b A s₁ φ₁ g₁ E hA S₁ (R.grow G₁)) (fun b' s' hA h => ⟨h.1, Step.trans G₁ T₁ h.2⟩)

noncomputable def InnerOK (prog : Program) (hb : Heap) (C : Cx) (n : Nat) (cenv : Env) (D : Addr) (e elt : Expr) (gens : List Comprehension) (j : Nat) (m : Rho → List V → Store → Option (Rho × List V × Store)) : Prop :=
  ∀ ρ acc σ ρ' acc' σ', m ρ acc σ = some (ρ', acc', σ') → ∀ A s φ g E, Rm n A s.toks → CS hb C φ g s.heap cenv ρ σ D acc → innerW prog C.w A e elt gens (.ref D) cenv j (CPost hb C (X0 cenv D) φ g s cenv ρ' σ' D acc') E s

theorem inner_end {e elt : Expr} {gens : List Comprehension} {j : Nat} {el : Rho → Store → Option (V × Store)} (hg : gens[j]? = none) (hel : ∀ ρ σ d σ', el ρ σ = some (d, σ') → EvOK prog hb C n cenv ρ σ elt d σ') :
    InnerOK prog hb C n cenv D e elt gens j fun ρ acc σ => (el ρ σ).bind fun (v, σ) => if acc.length ≤ 1000 then some (ρ, acc ++ [v], σ) else none := by
  intro ρ acc σ ρ' acc' σ' h A s φ g E hA Z
  obtain ⟨⟨d, σ₁⟩, h1, h2⟩ := Option.bind_eq_some_iff.mp h
  obtain ⟨hl, h2⟩ := ite_some h2
  · cases h2
    unfold innerW
    rw [hg]
    refine go hA (hel _ _ _ _ h1 A s φ g E hA Z.sim Z.er) (fun v s₁ hA h₁ => ?_)
    obtain ⟨φ₁, g₁, G₁, S₁, V₁, T₁⟩ := h₁
    have Z₁ := Z.grow G₁ S₁
    obtain ⟨vs, hp, hr⟩ := Z₁.acc
    refine wpAny_list_append_plain hp (fun h' hp' hs' => ?_) (by rw [List.size_toArray, hr.length]; exact Nat.le_trans hl (by decide))
    have G₂ : GrowX (X0 cenv D) φ₁ g₁ s₁.heap φ₁ g₁ h' := GrowX.but (.inr rfl) hp'.choose_spec hs'.extBut
    refine CPost.trans G₁.toX T₁ ⟨φ₁, g₁, G₂, ⟨S₁.but Z₁.offD.1 Z₁.offD.2 hs'.extBut, ?_, ⟨vs ++ [v], by simpa using hp', hr.append (.cons V₁ .nil)⟩, Z₁.offD, Z.neL, Z.neC⟩, ⟨_, s₁.toks, rfl⟩⟩
    have G₃ : GrowX (fun a => a = D) φ₁ g₁ s₁.heap φ₁ g₁ h' := GrowX.but rfl hp'.choose_spec hs'.extBut
    exact Z₁.er.growX G₃ (Ne.symm Z.neL) fun n c hc q => Z.neC n c hc q.symm

theorem innerW_mono {e elt : Expr} {gens : List Comprehension} {acc : Value} {j : Nat} {Q Q' : Shared → Prop} (h : innerW prog C.w A e elt gens acc cenv j Q E s) (hq : ∀ s', Q s' → Q' s') : innerW prog C.w A e elt gens acc cenv j Q' E s := by
  unfold innerW at h ⊢
  split
  · rename_i g' q
    rw [q] at h
    exact wpAny_mono h (fun _ _ h₁ => wpAny_mono h₁ (fun _ _ h₂ => codeAny_mono h₂ fun r s' z => by cases r with | ok f => exact hq _ z | error e => exact z.elim) fun _ _ e => e) fun _ _ e => e
  · rename_i q
    rw [q] at h
    exact wpAny_mono h (fun _ _ h₁ => wpAny_mono h₁ (fun _ _ h₂ => hq _ h₂) fun _ _ e => e) fun _ _ e => e

theorem innerW_go {e elt : Expr} {gens : List Comprehension} {acc : Value} {j : Nat} {Q Q' : Shared → Prop} (hA : Rm n A s.toks) (h : innerW prog C.w A e elt gens acc cenv j Q E s) (hq : ∀ s', Rm n A s'.toks → Q s' → Q' s') : innerW prog C.w A e elt gens acc cenv j Q' E s := by
  unfold innerW at h ⊢
  split
  · rename_i g' q
    rw [q] at h
    exact go hA h fun _ _ hA h₁ => go hA h₁ fun _ _ hA h₂ => codeAny_mono (codeAny_toks_of (Nat.le_refl _) h₂) fun r s' z => by cases r with | ok f => exact hq _ (hA.up z.1) z.2 | error e => exact z.2.elim
  · rename_i q
    rw [q] at h
    exact go hA h fun _ _ hA h₁ => go hA h₁ fun _ _ hA h₂ => hq _ hA h₂
theorem ER.buts {W : Addr → Prop} {h h' : Heap} (R : ER hb φ g h env ρ) (he : ∀ b o, ¬ W b → h.get? b = some o → h'.get? b = some o) (h1 : ¬ W env.locals) (h2 : ∀ n c, env.cells.lookup n = some c → ¬ W c) : ER hb φ g h' env ρ where
  kind := R.kind
  glob := R.glob
  bl := R.bl
  ns := let ⟨m, hm⟩ := R.ns; ⟨m, Nsm.at hm fun o e => he _ o h1 e⟩
  offL := R.offL
  cells := fun n c e => by
    obtain ⟨⟨v, hv⟩, h3⟩ := R.cells n c e
    exact ⟨⟨v, Cellm.at hv fun o e' => he _ o (h2 n c e) e'⟩, h3⟩
  has := R.has
  sees := fun x d e v => by
    obtain ⟨y, hy, hr⟩ := R.sees x d e v
    refine ⟨y, ?_, hr⟩
    rcases hy with ⟨e1, m, hm, hv⟩ | ⟨e1, c, hc, hv⟩
    · exact .inl ⟨e1, m, Nsm.at hm fun o e => he _ o h1 e, hv⟩
    · exact .inr ⟨e1, c, hc, Cellm.at hv fun o e' => he _ o (h2 _ c hc) e'⟩
  inj := R.inj
theorem ER.but {h h' : Heap} {it : Addr} (R : ER hb φ g h env ρ) (he : Heap.ExtBut it h h') (h1 : it ≠ env.locals) (h2 : ∀ n c, env.cells.lookup n = some c → it ≠ c) : ER hb φ g h' env ρ :=
  R.buts (W := fun a => a = it) he (Ne.symm h1) fun n c e => Ne.symm (h2 n c e)
theorem CS.buts {W : Addr → Prop} {h h' : Heap} {acc : List V} (Z : CS hb C φ g h cenv ρ σ D acc) (he : ∀ b o, ¬ W b → h.get? b = some o → h'.get? b = some o) (h1 : ∀ a, W a → a ∉ φ ∧ g a = none) (h3 : ¬ W D) (h4 : ¬ W cenv.locals) (h5 : ∀ n c, cenv.cells.lookup n = some c → ¬ W c) : CS hb C φ g h' cenv ρ σ D acc :=
  let ⟨us, ⟨m', ho⟩, hrs⟩ := Z.acc
  ⟨Z.sim.keeps fun b o e m => he b o (fun w => by rcases m with m | m; exact (h1 b w).1 m; rw [(h1 b w).2] at m; cases m) e, Z.er.buts he h4 h5, ⟨us, ⟨m', he _ _ h3 ho⟩, hrs⟩, Z.offD, Z.neL, Z.neC⟩
theorem CS.but {h h' : Heap} {it : Addr} {acc : List V} (Z : CS hb C φ g h cenv ρ σ D acc) (he : Heap.ExtBut it h h') (h1 : it ∉ φ) (h2 : g it = none) (h3 : it ≠ D) (h4 : it ≠ cenv.locals) (h5 : ∀ n c, cenv.cells.lookup n = some c → it ≠ c) : CS hb C φ g h' cenv ρ σ D acc :=
  Z.buts (W := fun a => a = it) he (fun a e => e ▸ ⟨h1, h2⟩) (Ne.symm h3) (Ne.symm h4) fun n c e => Ne.symm (h5 n c e)

theorem GrowX.ends {X W : Addr → Prop} {φ₀ φ : List Addr} {g₀ g : Part} {h₀ h h' : Heap} (G : GrowX X φ₀ g₀ h₀ φ g h) (hn : ∀ a, W a → h₀.get? a = none) (he : ∀ b o, ¬ W b → h.get? b = some o → h'.get? b = some o) : GrowX X φ₀ g₀ h₀ φ g h' where
  pre := G.pre
  mono := G.mono
  newg := G.newg
  newf := G.newf
  keep := fun a o e n m => he a o (fun w => by rw [hn a w] at e; cases e) (G.keep a o e n m)
  dom := fun a o e => let ⟨o', e'⟩ := G.dom a o e; ⟨o', he a o' (fun w => by rw [hn a w] at e; cases e) e'⟩
theorem GrowX.end_ {X : Addr → Prop} {φ₀ φ : List Addr} {g₀ g : Part} {h₀ h h' : Heap} {it : Addr} (G : GrowX X φ₀ g₀ h₀ φ g h) (hn : h₀.get? it = none) (he : Heap.ExtBut it h h') : GrowX X φ₀ g₀ h₀ φ g h' :=
  G.ends (W := fun a => a = it) (fun a e => e ▸ hn) he

theorem loop_ok {elt : Expr} {gens : List Comprehension} {scope : Scope} {pos : Pos} {j : Nat} {t itx : Expr} {ifs : List Expr} {mt : MT} {x : V} {v : Value} {vs : List V} {it : Addr} {fi : Rho → Store → Option (Bool × Store)} {mm : Rho → List V → Store → Option (Rho × List V × Store)} {σ₀ : Store} {s₀ : Shared} {φ₀ : List Addr} {g₀ : Part} {ρ' : Rho} {acc' : List V} {σ' : Store}
    (hg : gens[j]? = some ⟨t, itx, ifs, 0⟩) (hs' : ∀ g', gens[j + 1]? = some g' → g'.is_async = 0 ∧ notSet g'.iter = true) (ht : tgtIs t mt = true) (hloc : ∀ y ∈ mt.names, cenv.kindOf (Str.ofString y) = some .local) (hvs : iterOf σ₀ x = some vs) (hxn : ∀ k, x ≠ .items k)
    (hfi : ∀ ρ σ b σ', fi ρ σ = some (b, σ') → IfsOK prog hb C n cenv ρ σ ifs b σ') (hin : InnerOK prog hb C n cenv D (.ListComp elt gens scope pos) elt gens (j + 1) mm) (hn0 : s₀.heap.get? it = none) :
    ∀ (rest : List V) (i : Nat) (ρ : Rho) (acc : List V) (σ : Store) (s : Shared) (φ : List Addr) (g : Part), Rm n A s.toks → rest = vs.drop i → i ≤ vs.length →
      compM (fun v ρ acc σ => (setT ρ mt v).bind fun ρ => (fi ρ σ).bind fun (b, σ) => if b then mm ρ acc σ else some (ρ, acc, σ)) (still x vs) rest ρ acc σ = some (ρ', acc', σ') →
      GrowX (X0 cenv D) φ₀ g₀ s₀.heap φ g s.heap → Rest s₀ s → CS hb C φ g s.heap cenv ρ σ D acc → VR g φ v x → ItAt φ s.heap it v vs.length i x → it ∉ φ → g it = none → it ≠ D → it ≠ cenv.locals → (∀ n c, cenv.cells.lookup n = some c → it ≠ c) →
      codeAny (model prog C.w) A (.compLoop (.ListComp elt gens scope pos) j (.ref it) (.ref D) cenv) (fun r s' => match r with | .ok _ => CPost hb C (X0 cenv D) φ₀ g₀ s₀ cenv ρ' σ' D acc' s' | .error _ => False) s := by
  intro rest
  induction rest with
  | nil =>
    intro i ρ acc σ s φ g hA hr hi h G0 T0 Z hv hit h1 h2 h3 h4 h5
    unfold compM at h
    split at h
    · rename_i hs
      cases h
      refine codeAny_of_tree ?_
      show wpAny _ A ((compTurn (.ListComp elt gens scope pos) j (.ref it) (.ref D) cenv).onRaise (fun x => do noteFrame x cenv; theTreesLotGoes x)) _ _ s
      refine wpAny_noted (turn_wp hg hs' ?_)
      refine next_op hA.handled (still_iter hvs hs) Z.sim hv hxn hit hi (fun d u h' tk hd => ?_) fun h' hd he => ?_
      · have : vs.length ≤ i := by
          have := congrArg List.length hr
          rw [List.length_drop, List.length_nil] at this; omega
        rw [List.getElem?_eq_none_iff.mpr this] at hd; cases hd
      · exact ⟨φ, g, G0.end_ hn0 he, Z.but he h1 h2 h3 h4 h5, T0.trans ⟨_, s.toks, rfl⟩⟩
    · cases h
  | cons d rest ih =>
    intro i ρ acc σ s φ g hA hr hi h G0 T0 Z hv hit h1 h2 h3 h4 h5
    have hlt : i < vs.length := by
      have := congrArg List.length hr
      rw [List.length_drop, List.length_cons] at this; omega
    rw [List.drop_eq_getElem_cons hlt] at hr
    obtain ⟨hd0, hr0⟩ := List.cons.inj hr
    have hdi : vs[i]? = some d := by rw [List.getElem?_eq_getElem hlt, ← hd0]
    unfold compM at h
    split at h
    · rename_i hs
      obtain ⟨⟨ρ₂, acc₂, σ₂⟩, k1, k2⟩ := Option.bind_eq_some_iff.mp h
      obtain ⟨ρ₁, k3, k4⟩ := Option.bind_eq_some_iff.mp k1
      obtain ⟨⟨b, σ₁⟩, k5, k6⟩ := Option.bind_eq_some_iff.mp k4
      have hvs' := still_iter hvs hs
      dsimp only at k2 k6
      refine codeAny_of_tree ?_
      show wpAny _ A ((compTurn (.ListComp elt gens scope pos) j (.ref it) (.ref D) cenv).onRaise (fun x => do noteFrame x cenv; theTreesLotGoes x)) _ _ s
      refine wpAny_noted (turn_wp hg hs' ?_)
      refine wpAny_with_toks (Nat.le_refl _) (next_op hA.handled hvs' Z.sim hv hxn hit hi (fun d' u h' tk hd' hu he hit' => fun le => ?_) fun h' hd' => by rw [hdi] at hd'; cases hd')
      rw [hdi] at hd'; cases hd'
      have hA : Rm n A ({ s with heap := h', toks := tk } : Shared).toks := hA.up le
      refine go_ok (s := { s with heap := h', toks := tk }) hit' ?_ hxn
      have Z₁ := Z.but he h1 h2 h3 h4 h5
      obtain ⟨oi, hoi⟩ := hit'.obj
      have GA : GrowX (fun a => X0 cenv D a ∨ a = it) φ g s.heap φ g h' := GrowX.but (.inr rfl) hoi he
      refine wpAny_with_toks (Nat.le_refl _) (assign_ok (s := { s with heap := h', toks := tk }) (X := fun a => a = cenv.locals) ht k3 (fun y hy => .inl (hloc y hy)) ⟨rfl, fun y hy q => by rw [hloc y hy] at q; cases q⟩ hA.handled Z₁.sim Z₁.er hu fun h₂ tk₂ G₂ S₂ R₂ => fun le₂ => ?_)
      have hA : Rm n A ({ s with heap := h₂, toks := tk₂ } : Shared).toks := hA.up le₂
      have Z₂ : CS hb C φ g h₂ cenv ρ₁ σ D acc := by
        obtain ⟨us, ⟨m', ho⟩, hrs⟩ := Z₁.acc
        exact ⟨S₂, R₂, ⟨us, ⟨m', G₂.keep _ _ ho Z.offD.1 Z.neL⟩, hrs⟩, Z.offD, Z.neL, Z.neC⟩
      have hit₂ : ItAt φ h₂ it v vs.length (i + 1) x := hit'.keep (List.prefix_refl _) fun o e => G₂.keep _ o e h1 h4
      refine go hA (hfi _ _ _ _ k5 A { s with heap := h₂, toks := tk₂ } φ g _ hA S₂ R₂) (fun ok s₃ hA h₃ => ?_)
      obtain ⟨rfl, φ₃, g₃, G₃, S₃, T₃⟩ := h₃
      have Z₃ := Z₂.grow G₃ S₃
      have hit₃ : ItAt φ₃ s₃.heap it v vs.length (i + 1) x := hit₂.keep G₃.pre fun o e => G₃.keep _ o e h1
      obtain ⟨o₂, ho₂⟩ := hit₂.obj
      obtain ⟨h1', h2'⟩ := GrowX.off (X := fun _ => False) G₃.toX ho₂ h1 h2
      have GB : GrowX (fun a => X0 cenv D a ∨ a = it) φ g s.heap φ₃ g₃ s₃.heap := (GA.trans (G₂.wider fun a q => .inl (.inl q))).trans G₃.toX
      have TB : Rest s s₃ := (Rest.mk s h₂ tk₂).trans T₃
      have lessen : ∀ {φ₄ g₄ h₄}, GrowX (fun a => X0 cenv D a ∨ a = it) φ g s.heap φ₄ g₄ h₄ → GrowX (X0 cenv D) φ₀ g₀ s₀.heap φ₄ g₄ h₄ := fun G4 =>
        ((G0.wider fun a q => .inl q).trans G4).less fun a q => q.elim .inl fun e => .inr (by rw [e]; exact hn0)
      cases ok with
      | false =>
        rw [if_neg (by decide)]
        rw [if_neg (by decide)] at k6
        cases k6
        exact ⟨rfl, ih (i + 1) _ _ _ s₃ φ₃ g₃ hA hr0 hlt k2 (lessen GB) (T0.trans TB) Z₃ (hv.mono G₃.mono G₃.pre) hit₃ h1' h2' h3 h4 h5⟩
      | true =>
        rw [if_pos rfl]
        rw [if_pos rfl] at k6
        refine innerW_go hA (hin _ _ _ _ _ _ k6 A s₃ φ₃ g₃ _ hA Z₃) fun s₄ hA h₄ => ?_
        obtain ⟨φ₄, g₄, G₄, Z₄, T₄⟩ := h₄
        obtain ⟨o₃, ho₃⟩ := hit₃.obj
        obtain ⟨h1'', h2''⟩ := G₄.off ho₃ h1' h2'
        have nX : ¬ X0 cenv D it := fun q => q.elim h4 h3
        exact ⟨rfl, ih (i + 1) ρ₂ acc₂ σ₂ s₄ φ₄ g₄ hA hr0 hlt k2 (lessen (GB.trans (G₄.wider fun a q => .inl q))) ((T0.trans TB).trans T₄) Z₄ ((hv.mono G₃.mono G₃.pre).mono G₄.mono G₄.pre) (hit₃.keep G₄.pre fun o e => G₄.keep _ o e h1' nX) h1'' h2'' h3 h4 h5⟩
    · cases h

theorem start_ok {elt : Expr} {gens : List Comprehension} {scope : Scope} {pos : Pos} {j : Nat} {t itx : Expr} {ifs : List Expr} {R : Result → Shared → Prop} {x : V} {v : Value} {vs : List V} {it : Addr} {i : Nat} (hg : gens[j]? = some ⟨t, itx, ifs, 0⟩) (hit : ItAt φ s.heap it v vs.length i x) (hx : ∀ k, x ≠ .items k)
    (h : codeAny (model prog C.w) A (.compLoop (.ListComp elt gens scope pos) j (.ref it) (.ref D) cenv) R s) : codeAny (model prog C.w) A (.compStart (.ListComp elt gens scope pos) j (.ref it) (.ref D) cenv) R s := by
  refine codeAny_of_tree ?_
  show wpAny _ _ ((compStart (.ListComp elt gens scope pos) j (.ref it) (.ref D) cenv).onRaise (fun x => do noteFrame x cenv; standAt theWindowsPlace)) _ _ s
  refine wpAny_notedAt ?_
  have self : ∀ {A E} {Q : Value → Shared → Prop}, Q (.ref it) s → wpAny (model prog C.w) A (pyIter (.ref it)) Q E s := by
    intro A E Q q
    cases x <;> first | exact hit.elim | skip
    · obtain ⟨a, e, r⟩ := hit; exact wpAny_pyIter_tupleiter r q
    · obtain ⟨a, e, r⟩ := hit; exact wpAny_pyIter_listiter r q
    · obtain ⟨a, e, r⟩ := hit; exact wpAny_pyIter_listiter r q
    · exact wpAny_pyIter_rangeiter hit q
    · exact absurd rfl (hx _)
    · obtain ⟨a, e, r⟩ := hit; exact KBw.pyIter_self r q
  unfold compStart
  have hcl : (clausesOf (.ListComp elt gens scope pos))[j]? = some ⟨t, itx, ifs, 0⟩ := hg
  rw [hcl]
  simp only [Option.elim, bne_self_eq_false, Bool.false_eq_true, if_false]
  refine wpAny_bind (wpAny_askSetting (wpAny_ite ?_))
  split
  · exact wpAny_pure ⟨rfl, h⟩
  · exact wpAny_bind (wpAny_rule (wpAny_bind (wpAny_standAt (wpAny_bind (self (wpAny_pure ⟨rfl, h⟩))))))
end
end Mine

namespace Mine

section
variable {prog : Program} {hb : Heap} {C : Cx} {n : Nat} {env cenv : Env} {ρ ρ' : Rho} {σ σ₁ σ₂ σ₃ : Store} {A : Around} {s : Shared} {φ φ' : List Addr} {g : Part} {E : Value → Shared → Prop} {X : Addr → Prop} {D : Addr}

theorem iterC_iter {x : V} {vs : List V} (h : iterC σ x = some vs) : iterOf σ x = some vs ∧ ∀ k, x ≠ .items k := by
  obtain ⟨h1, h2⟩ := ite_none h
  exact ⟨h2, fun k e => h1 (e ▸ rfl)⟩

theorem Sim.adoptG {h : Heap} {a : Addr} {o : Obj} (S : Sim hb C φ σ g h) (h1 : a ∉ φ) (h2 : g a = none) (ho : h.get? a = some o) : Sim hb C φ σ (putG g a o) h := by
  have mono : ∀ b o', g b = some o' → putG g a o b = some o' := fun b o' e => by
    unfold putG
    rw [if_neg (by rintro rfl; rw [h2] at e; cases e)]; exact e
  refine ⟨fun b o' e => mono _ _ (S.base _ _ e), fun b o' e => ?_, S.len, fun b m => ?_, fun k b o' e1 e2 => (S.own k b o' e1 e2).grow mono (List.prefix_refl _) fun o' e => e, S.nodup⟩
  · unfold putG at e
    split at e
    · rename_i q; subst q; cases e; exact ho
    · exact S.keep _ _ e
  · unfold putG
    rw [if_neg (by rintro rfl; exact h1 m)]; exact S.off b m
theorem Grow.adoptG {φ₀ : List Addr} {g₀ : Part} {h₀ h : Heap} {a : Addr} {o : Obj} (G : Grow φ₀ g₀ h₀ φ g h) (h2 : g a = none) (hn : h₀.get? a = none) : Grow φ₀ g₀ h₀ φ (putG g a o) h :=
  ⟨G.pre, fun b o' e => by unfold putG; rw [if_neg (by rintro rfl; rw [G.mono _ _ e] at h2; cases h2)]; exact G.mono b o' e, fun b o' e => by
    unfold putG at e
    split at e
    · rename_i q; subst q; exact .inr hn
    · exact G.newg b o' e, G.newf, G.keep, G.dom⟩
theorem adopt_list {φ₀ : List Addr} {g₀ : Part} {h₀ h : Heap} {vs : List Value} {ds : List V} (S : Sim hb C φ σ g h) (G : Grow φ₀ g₀ h₀ φ g h) (h1 : D ∉ φ) (h2 : g D = none) (hn : h₀.get? D = none) (hp : h.PlainList D vs.toArray) (hr : VRs g φ vs ds) :
    ∃ g', Grow φ₀ g₀ h₀ φ g' h ∧ Sim hb C φ σ g' h ∧ VR g' φ (.ref D) (.list ds) ∧ ∀ a, a ≠ D → g a = none → g' a = none := by
  obtain ⟨m, ho⟩ := hp
  refine ⟨putG g D _, G.adoptG h2 hn, S.adoptG h1 h2 ho, .list (if_pos rfl) rfl rfl rfl (hr.mono (fun b o' e => ?_) (List.prefix_refl _)), fun a ha q => (if_neg ha).trans q⟩
  exact (if_neg (by rintro rfl; rw [h2] at e; cases e)).trans e

theorem Post.but {L : Addr} {d : V} {v : Value} {h' : Heap} {s' : Shared} {φ' : List Addr} {g' : Part} (G : Grow φ g s.heap φ' g' s'.heap) (S : Sim hb C φ' σ g' s'.heap) (hv : VR g' φ' v d) (T : Rest s s') (h1 : L ∉ φ') (h2 : g' L = none) (hn : s.heap.get? L = none) (hs : Heap.SameBut L s'.heap h') :
    Post hb C φ g s σ d v { s' with heap := h' } := by
  refine ⟨φ', g', ⟨G.pre, G.mono, G.newg, G.newf, fun a o e m => hs.extBut a o (by rintro rfl; rw [hn] at e; cases e) (G.keep a o e m), fun a o e => ?_⟩, S.but h1 h2 hs.extBut, hv, T.trans ⟨_, s'.toks, rfl⟩⟩
  obtain ⟨o', e'⟩ := G.dom a o e
  exact ⟨o', hs.extBut a o' (by rintro rfl; rw [hn] at e; cases e) e'⟩
theorem comp_ok {elt : Expr} {scope : Scope} {pos : Pos} {t itx : Expr} {ifs : List Expr} {mt : MT} {own : List String} {fi : Rho → Store → Option (Bool × Store)} {mm : Rho → List V → Store → Option (Rho × List V × Store)} {x : V} {vs acc' : List V}
    (Zs : CompScope env scope own) (ht : tgtIs t mt = true) (hset : notSet itx = true) (hloc : ∀ y ∈ mt.names, scope.names.lookup (Str.ofString y) = some .local)
    (hev : EvOK prog hb C n env ρ σ itx x σ₁) (hx : iterC σ₁ x = some vs)
    (hfi : ∀ L cl ρ σ b σ', fi ρ σ = some (b, σ') → IfsOK prog hb C n (compEnvC scope cl L env) ρ σ ifs b σ') (hin : ∀ L cl D, InnerOK prog hb C n (compEnvC scope cl L env) D (.ListComp elt [⟨t, itx, ifs, 0⟩] scope pos) elt [⟨t, itx, ifs, 0⟩] 1 mm)
    (hm : compM (fun v ρ acc σ => (setT ρ mt v).bind fun ρ => (fi ρ σ).bind fun (b, σ) => if b then mm ρ acc σ else some (ρ, acc, σ)) (still x vs) vs (own.map (fun y => (y, none)) ++ ρ) [] σ₁ = some (ρ', acc', σ₂)) :
    EvOK prog hb C n env ρ σ (.ListComp elt [⟨t, itx, ifs, 0⟩] scope pos) (.list acc') σ₂ := by
  intro A s φ g E hA S R
  rw [eval_ListComp]
  obtain ⟨cl, c1, c2, c3⟩ := closure_ok (env := env) (scope := scope) (fun y hy hk => R.has _ (Zs.free y hy hk))
  obtain ⟨hx, kx⟩ := iterC_iter hx
  refine wpAny_comprehension_free (g := ⟨t, itx, ifs, 0⟩) (gs := []) rfl (fun y => folded_ok hset) c1 Zs.kind (fun y hy hk => by rw [Zs.once y hy, hk]) ?_
  show wpAny _ A (eval itx env) _ _ s
  refine go hA (hev A s φ g E hA S R) (fun v s₁ hA h₁ => ?_)
  obtain ⟨φ₁, g₁, G₁, S₁, V₁, T₁⟩ := h₁
  have R₁ := R.grow G₁
  refine iter_op hx S₁ V₁ fun it h₂ hn hk hit => ?_
  refine wpAny_newObj_type (wpAny_newFunctionEnv Zs.noCell (by intro y hy; simp at hy) (fun h₄ hns hsb => ?_) Zs.kind)
  dsimp only at hns hsb ⊢
  generalize hH3 : h₂.push { cls := .type "list", dict := none, data := .seq ([] : List Value).toArray } = H3 at hns hsb ⊢
  have hL : H3.objs.size = h₂.objs.size + 1 := by rw [← hH3, Heap.size_push]
  have hk3 : ∀ b o, h₂.get? b = some o → H3.get? b = some o := fun b o e => by rw [← hH3]; exact Heap.get?_push_of_some _ e
  have hk4 : ∀ b o, H3.get? b = some o → h₄.get? b = some o := fun b o e => hsb.extBut b o (Nat.ne_of_lt (Heap.lt_size e)) (Heap.get?_push_of_some _ e)
  have hk24 : ∀ b o, h₂.get? b = some o → h₄.get? b = some o := fun b o e => hk4 b o (hk3 b o e)
  have hk14 : ∀ b o, s₁.heap.get? b = some o → h₄.get? b = some o := fun b o e => hk24 b o (hk b o e)
  have none2 : ∀ a, h₂.objs.size ≤ a → s₁.heap.get? a = none := fun a ha => by
    cases q : s₁.heap.get? a with
    | none => rfl
    | some o => exact absurd (Heap.lt_size (hk a o q)) (Nat.not_lt.mpr ha)
  have none0 : ∀ a, s₁.heap.get? a = none → s.heap.get? a = none := fun a ha => by
    cases q : s.heap.get? a with
    | none => rfl
    | some o => obtain ⟨o', q'⟩ := G₁.dom a o q; rw [ha] at q'; cases q'
  have nD := none2 h₂.objs.size (Nat.le_refl _)
  have nL := none2 H3.objs.size (by rw [hL]; exact Nat.le_succ _)
  obtain ⟨mE, hmE⟩ := R₁.ns
  obtain ⟨oE, hoE⟩ := Nsm.has hmE
  have R₄ : ER hb φ₁ g₁ h₄ (compEnvC scope cl H3.objs.size env) (own.map (fun y => (y, none)) ++ ρ) :=
    comp_er Zs S₁ R₁ c2 c3 nL hk14 hns
  have S₄ : Sim hb C φ₁ σ₁ g₁ h₄ := S₁.all hk14
  have hacc : h₄.PlainList h₂.objs.size #[] := ⟨_, hk4 _ _ (by rw [← hH3]; exact Heap.get?_push_size _ rfl)⟩
  have Z₄ : CS hb C φ₁ g₁ h₄ (compEnvC scope cl H3.objs.size env) (own.map (fun y => (y, none)) ++ ρ) σ₁ h₂.objs.size [] := by
    refine ⟨S₄, R₄, ⟨[], hacc, .nil⟩, ⟨S₁.fresh_f nD, S₁.fresh_g nD⟩, ?_, fun y c hc => ?_⟩
    · show h₂.objs.size ≠ H3.objs.size
      rw [hL]; exact Nat.ne_of_lt (Nat.lt_succ_self _)
    · rintro rfl
      obtain ⟨⟨u, o, ho, _⟩, _⟩ := R₁.cells y _ (c2 _ _ hc)
      rw [nD] at ho; cases ho
  have hit₄ : ItAt φ₁ h₄ it v vs.length 0 x := hit.keep (List.prefix_refl _) fun o e => hk24 _ o e
  obtain ⟨oi, hoi⟩ := hit.obj
  refine start_ok (s := { s₁ with heap := h₄, toks := s₁.toks + ([] : List (Str × Value)).length }) (cenv := compEnvC scope cl H3.objs.size env) (vs := vs) (j := 0) rfl hit₄ kx ?_
  have G4 : GrowX (X0 (compEnvC scope cl H3.objs.size env) h₂.objs.size) φ₁ g₁ s₁.heap φ₁ g₁ h₄ := (Grow.same hk14).toX
  refine codeAny_mono (loop_ok (s₀ := s₁) (φ₀ := φ₁) (g₀ := g₁) (cenv := compEnvC scope cl H3.objs.size env) (D := h₂.objs.size) (j := 0) rfl (fun g' h => nomatch (show none = some g' from h)) ht (fun y hy => lookup_relabel_local (hloc y hy)) hx kx (fun ρ σ b σ' h => hfi _ _ ρ σ b σ' h) (hin _ _ _) hn vs 0 _ [] σ₁
    { s₁ with heap := h₄, toks := s₁.toks + ([] : List (Str × Value)).length } φ₁ g₁ hA rfl (Nat.zero_le _) hm G4 ⟨_, _, rfl⟩ Z₄ V₁ hit₄ (S₁.fresh_f hn) (S₁.fresh_g hn) (Nat.ne_of_lt (Heap.lt_size hoi))
    (by show it ≠ H3.objs.size; rw [hL]; exact Nat.ne_of_lt (Nat.lt_succ_of_lt (Heap.lt_size hoi))) (fun y c hc => by rintro rfl; obtain ⟨⟨u, o, ho, _⟩, _⟩ := R₁.cells y _ (c2 _ _ hc); rw [hn] at ho; cases ho)) fun r s' z => ?_
  cases r with
  | error e => exact z.elim
  | ok f =>
    obtain ⟨φ₅, g₅, G₅, Z₅, T₅⟩ := z
    have G5' : Grow φ₁ g₁ s₁.heap φ₅ g₅ s'.heap := G₅.plain fun a q => by rcases q with rfl | rfl; exact nL; exact nD
    obtain ⟨us, hp, hr⟩ := Z₅.acc
    obtain ⟨g₆, G₆, S₆, V₆, off⟩ := adopt_list Z₅.sim (G₁.trans G5') Z₅.offD.1 Z₅.offD.2 (none0 _ nD) hp hr
    obtain ⟨m5, hm5⟩ := Z₅.er.ns
    have hne : H3.objs.size ≠ h₂.objs.size := by rw [hL]; exact Ne.symm (Nat.ne_of_lt (Nat.lt_succ_self _))
    exact ⟨m5, hm5, fun h' hs => Post.but G₆ S₆ V₆ (T₁.trans T₅) Z₅.er.offL.1 (off _ hne Z₅.er.offL.2) (none0 _ nL) hs⟩
end
end Mine

namespace Mine

section
variable {prog : Program} {A : Around} {E : Value → Shared → Prop} {s : Shared}

theorem setattr_ok {K : Frag} {FA : String → Option Addr} {k dk : Nat} {v u : Value} {d : V} {Q : Unit → Shared → Prop} (hC : ClsOK K hb C.c FA) (S : Sim hb C φ σ g s.heap) (hv : VR g φ v (.own k)) (h1 : σ[k]? = some (.inst dk)) (h2 : σ[dk]? = some (.attrs none)) (hu : VR g φ u d)
    (q : ∀ h' tk, Grow φ g s.heap φ g h' → Sim hb C φ (σ.set dk (.attrs (some d))) g h' → Q () { s with heap := h', toks := tk }) : wpAny (model prog C.w) A (setAttr v "_headers" u) Q E s := by
  obtain ⟨a, rfl, ha⟩ := hv.ofOwn
  obtain ⟨dx, h3, h4⟩ := S.own _ _ _ ha h1
  have h5 : s.heap.get? dx = some (dictOf [] 0) := S.own _ _ _ h3 h2
  have X := hC.kin.keeps S.hbk
  have I : InstAt s.heap a (instObj C.c dx) C.c (some (dictOf [] 0)) := ⟨h4, rfl, rfl, h5⟩
  have ht : takerIn K C.c "_headers" = some none := by unfold takerIn; rw [hC.hdr]; rfl
  refine set_plain X I hC.sattr (osa_open (s := { s with toks := s.toks + 1 }) X I hC.over ht fun b => ?_)
  obtain ⟨cd, hc, hd'⟩ := any_some hC.hasD
  dsimp only
  refine wpAny_bind (wpAny_pure (wpAny_bind (wpAny_bind (wpAny_loadPart h4 (wpAny_bind (Looks.here (s := { s with toks := s.toks + 1 }) (looks_clsIn X hc) ?_))))))
  rw [hd']
  refine wpAny_pure (a := some dx) (wpAny_bind (wpAny_pure (wpAny_bind ?_)))
  unfold nsSet
  refine wpAny_bind (wpAny_bind (wpAny_askSetting (wpAny_pure (wpAny_bind (wpAny_mkText (wpAny_bind (wpAny_loadPart h5 ?_)))))))
  dsimp only
  rw [aRefKeyMayBeTheName_at]
  have hput := putName_dict ("_headers" : Str) (PyData.keyHash C.w.params "_headers") (.str "_headers" (s.toks + 1)) u [] 0
  have hget : (s.heap.update dx (Obj.putName ("_headers" : Str) (PyData.keyHash C.w.params "_headers") (.str "_headers" (s.toks + 1)) u)).get? dx = some (dictOf [⟨PyData.keyHash C.w.params "_headers", .str "_headers" (s.toks + 1), u⟩] (putN "_headers" [] 0)) := by
    rw [Heap.get?_update_self _ h5 (by rw [hput]; rfl), hput]; rfl
  rw [if_neg (by simp)]
  refine wpAny_updatePart (s := { s with toks := s.toks + 1 + 1 }) h5 ?_
  refine wpAny_bind (wpAny_lookBehind hget (by exact pastItsLine_dict (by simp [sizeLine_eq])) ?_)
  obtain ⟨S', G'⟩ := S.turn (x := .attrs (some d)) h3 (Heap.SameBut.update s.heap dx (Obj.putName ("_headers" : Str) (PyData.keyHash C.w.params "_headers") (.str "_headers" (s.toks + 1)) u)) ⟨_, _, _, _, hget, hu⟩
  exact wpAny_pure (q _ _ G' S')
end
end Mine

namespace Mine

noncomputable def XF (env : Env) (a : Addr) : Prop := a = env.locals ∨ ∃ n, env.cells.lookup n = some a
noncomputable def FlR (g : Part) (φ : List Addr) : Flow → Fl → Prop
  | .next, .next => True
  | .ret v, .ret d => VR g φ v d
  | _, _ => False
noncomputable def ExPost (hb : Heap) (C : Cx) (env : Env) (φ : List Addr) (g : Part) (s : Shared) (fl : Fl) (ρ' : Rho) (σ' : Store) (f : Flow) (s' : Shared) : Prop :=
  ∃ φ' g', GrowX (XF env) φ g s.heap φ' g' s'.heap ∧ Sim hb C φ' σ' g' s'.heap ∧ ER hb φ' g' s'.heap env ρ' ∧ Rest s s' ∧ FlR g' φ' f fl

section
variable {prog : Program} {hb : Heap} {C : Cx} {n : Nat} {env : Env} {ρ ρ' ρ₁ ρ₂ : Rho} {σ σ₁ σ₂ σ₃ : Store} {A : Around} {s : Shared} {φ : List Addr} {g : Part} {E : Value → Shared → Prop}

noncomputable def ExOK (prog : Program) (hb : Heap) (C : Cx) (n : Nat) (env : Env) (ρ : Rho) (σ : Store) (st : Stmt) (fl : Fl) (ρ' : Rho) (σ' : Store) : Prop :=
  ∀ A s φ g E, Rm n A s.toks → Sim hb C φ σ g s.heap → ER hb φ g s.heap env ρ → wpAny (model prog C.w) A (exec st env) (ExPost hb C env φ g s fl ρ' σ') E s
noncomputable def ExsOK (prog : Program) (hb : Heap) (C : Cx) (n : Nat) (env : Env) (ρ : Rho) (σ : Store) (st : List Stmt) (fl : Fl) (ρ' : Rho) (σ' : Store) : Prop :=
  ∀ A s φ g E, Rm n A s.toks → Sim hb C φ σ g s.heap → ER hb φ g s.heap env ρ → wpAny (model prog C.w) A (execs st env) (ExPost hb C env φ g s fl ρ' σ') E s

theorem ExPost.trans {φ₁ : List Addr} {g₁ : Part} {s₁ s' : Shared} {fl : Fl} {σ' : Store} {f : Flow} (G : GrowX (XF env) φ g s.heap φ₁ g₁ s₁.heap) (T : Rest s s₁) (p : ExPost hb C env φ₁ g₁ s₁ fl ρ' σ' f s') : ExPost hb C env φ g s fl ρ' σ' f s' :=
  let ⟨φ', g', a, b, c, d, e⟩ := p; ⟨φ', g', G.trans a, b, c, T.trans d, e⟩
theorem ExPost.here {h' : Heap} {tk : Nat} (G : GrowX (XF env) φ g s.heap φ g h') (S : Sim hb C φ σ g h') (R : ER hb φ g h' env ρ) : ExPost hb C env φ g s .next ρ σ .next { s with heap := h', toks := tk } := ⟨φ, g, G, S, R, ⟨_, _, rfl⟩, trivial⟩

theorem exs_nil : ExsOK prog hb C n env ρ σ [] .next ρ σ := fun A s φ g E hA S R => wpAny_execs_nil ⟨φ, g, GrowX.refl, S, R, Rest.refl s, trivial⟩
theorem exs_next {st : Stmt} {r : List Stmt} {fl : Fl} (a : ExOK prog hb C n env ρ σ st .next ρ₁ σ₁) (b : ExsOK prog hb C n env ρ₁ σ₁ r fl ρ₂ σ₂) : ExsOK prog hb C n env ρ σ (st :: r) fl ρ₂ σ₂ := by
  intro A s φ g E hA S R
  refine wpAny_execs_cons (go hA (a A s φ g E hA S R) (fun f s₁ hA h₁ => ?_))
  obtain ⟨φ₁, g₁, G₁, S₁, R₁, T₁, F₁⟩ := h₁
  cases f <;> first | exact F₁.elim | skip
  exact go hA (b A s₁ φ₁ g₁ E hA S₁ R₁) (fun f s' hA p => p.trans G₁ T₁)
theorem exs_ret {st : Stmt} {r : List Stmt} {v : V} (a : ExOK prog hb C n env ρ σ st (.ret v) ρ₁ σ₁) : ExsOK prog hb C n env ρ σ (st :: r) (.ret v) ρ₁ σ₁ := by
  intro A s φ g E hA S R
  refine wpAny_execs_cons (go hA (a A s φ g E hA S R) (fun f s₁ hA h₁ => ?_))
  obtain ⟨φ₁, g₁, G₁, S₁, R₁, T₁, F₁⟩ := h₁
  cases f <;> first | exact F₁.elim | skip
  exact ⟨φ₁, g₁, G₁, S₁, R₁, T₁, F₁⟩

theorem ret_ok {e : Expr} {pos : Pos} {d : V} (a : EvOK prog hb C n env ρ σ e d σ₁) : ExOK prog hb C n env ρ σ (.Return (some e) pos) (.ret d) ρ σ₁ := by
  intro A s φ g E hA S R
  refine wpAny_Return_some (go hA (a A s φ g E hA S R) (fun v s₁ hA h₁ => ?_))
  obtain ⟨φ₁, g₁, G₁, S₁, V₁, T₁⟩ := h₁
  exact ⟨φ₁, g₁, G₁.toX, S₁, R.grow G₁, T₁, V₁⟩
theorem ret0_ok {pos : Pos} : ExOK prog hb C n env ρ σ (.Return none pos) (.ret .none) ρ σ :=
  fun A s φ g E hA S R => wpAny_Return_none ⟨φ, g, GrowX.refl, S, R, Rest.refl s, VR.none (g := g) (φ := φ)⟩

noncomputable def notComp (e : Expr) : Bool := decide (e.ctorIdx ≠ 8) && decide (e.ctorIdx ≠ 9) && decide (e.ctorIdx ≠ 10)
theorem swaps_no {e : Expr} {t : Option Expr} {l : Nat} (h : notComp e = true) : swapsWith e t l env = pure false := by
  cases e <;> first | rfl | cases (show false = true from h)
theorem not_interactive (R : ER hb φ g s.heap env ρ) : interactive env = false := by unfold interactive; rw [R.kind]; rfl
theorem expr_ok {e : Expr} {pos : Pos} {d : V} (hc : notComp e = true) (a : EvOK prog hb C n env ρ σ e d σ₁) : ExOK prog hb C n env ρ σ (.Expr e pos) .next ρ σ₁ := by
  intro A s φ g E hA S R
  refine wpAny_Expr_any (go hA (a A s φ g E hA S R) (fun v s₁ hA h₁ => ?_)) (not_interactive R) (swaps_no hc)
  obtain ⟨φ₁, g₁, G₁, S₁, V₁, T₁⟩ := h₁
  exact ⟨φ₁, g₁, G₁.toX, S₁, R.grow G₁, T₁, trivial⟩
theorem if_ok {c : Expr} {a b : List Stmt} {pos : Pos} {t : Bool} {fl : Fl} (hc : TestOK prog hb C n env ρ σ c t σ₁) (h : ExsOK prog hb C n env ρ σ₁ (if t then a else b) fl ρ' σ₂) : ExOK prog hb C n env ρ σ (.If c a b pos) fl ρ' σ₂ := by
  intro A s φ g E hA S R
  refine wpAny_If (go hA (hc A s φ g E hA S R) (fun b' s₁ hA h₁ => ?_))
  obtain ⟨rfl, φ₁, g₁, G₁, S₁, T₁⟩ := h₁
  have := go hA (h A s₁ φ₁ g₁ E hA S₁ (R.grow G₁)) (fun f s' hA p => p.trans G₁.toX T₁)
  cases b' <;> exact this

theorem xf_bears (xs : List String) : Bears (XF env) env xs := ⟨.inl rfl, fun x _ _ c hc => .inr ⟨_, hc⟩⟩
noncomputable def notPair (t e : Expr) : Bool := !((decide (t.ctorIdx = 25) || decide (t.ctorIdx = 24)) && decide (e.ctorIdx = 25))
theorem stores_no {t e : Expr} (h : notPair t e = true) : swappedStores [t] e env = pure none := by
  unfold swappedStores
  cases t <;> first | rfl | (cases e <;> first | rfl | cases (show false = true from h))
theorem each_one {t : Expr} {m : MT} (h : tgtIs t m = true) : (assignEach [t] env).map (·.2) = [assign t env] := by
  cases m with
  | one x => obtain ⟨p, rfl⟩ := nmIs_inv (show nmIs t x = true from h); rfl
  | tup xs => exact onTuple_elim (P := fun t => (assignEach [t] env).map (·.2) = [assign t env]) (f := fun es _ _ => nmsAre es xs) h fun _ _ _ _ => rfl

theorem assign_plain {t e : Expr} {m : MT} {pos : Pos} {d : V} (ht : tgtIs t m = true) (hsw : swapsWith e (some t) pos.line env = pure false) (hp : notPair t e = true) (hst : storable env m.names) (a : EvOK prog hb C n env ρ σ e d σ₁) (hr : setT ρ m d = some ρ') : ExOK prog hb C n env ρ σ (.Assign [t] e pos) .next ρ' σ₁ := by
  intro A s φ g E hA S R
  refine wpAny_Assign_stores (go hA (a A s φ g E hA S R) (fun v s₁ hA h₁ => ?_)) hsw (stores_no hp)
  obtain ⟨φ₁, g₁, G₁, S₁, V₁, T₁⟩ := h₁
  rw [each_one ht]
  exact assign_ok ht hr hst (xf_bears _) hA.handled S₁ (R.grow G₁) V₁ fun h' tk G' S' R' => ExPost.trans G₁.toX T₁ (ExPost.here G' S' R')

end
end Mine

namespace Mine

section
variable {prog : Program} {hb : Heap} {C : Cx} {n : Nat} {env : Env} {ρ ρ' ρ₁ ρ₂ : Rho} {σ σ₁ σ₂ σ₃ σ₄ : Store} {A : Around} {s : Shared} {φ : List Addr} {g : Part} {E : Value → Shared → Prop}

theorem swaps_attr {e o : Expr} {a : Str} {p : Pos} {l : Nat} : swapsWith e (some (.Attribute o a p)) l env = pure false := by cases e <;> rfl

theorem ExPost.ofStep {s' : Shared} (R : ER hb φ g s.heap env ρ) (p : Step hb C φ g s σ s') : ExPost hb C env φ g s .next ρ σ .next s' :=
  let ⟨φ', g', G, S, T⟩ := p; ⟨φ', g', G.toX, S, R.grow G, T, trivial⟩

theorem set_attr_ok {K : Frag} {FA : String → Option Addr} {e o : Expr} {p pos : Pos} {k dk : Nat} {z : V} (hC : ClsOK K hb C.c FA)
    (a : EvOK prog hb C n env ρ σ e z σ₁) (b : EvOK prog hb C n env ρ σ₁ o (.own k) σ₂) (h1 : σ₂[k]? = some (.inst dk)) (h2 : σ₂[dk]? = some (.attrs none)) :
    ExOK prog hb C n env ρ σ (.Assign [.Attribute o "_headers" p] e pos) .next ρ (σ₂.set dk (.attrs (some z))) := by
  intro A s φ g E hA S R
  refine wpAny_Assign_stores (go hA (two_ok (Q := fun v u s' => ∃ φ' g', Grow φ g s.heap φ' g' s'.heap ∧ Sim hb C φ' σ₂ g' s'.heap ∧ ER hb φ' g' s'.heap env ρ ∧ Rest s s' ∧ VR g' φ' v z ∧ VR g' φ' u (.own k)) a b hA S R fun v u s' φ' g' _ G' S' R' T' V' U' => ⟨φ', g', G', S', R', T', V', U'⟩) (fun v s₁ hA h₁ => ?_)) (show swapsWithSole [.Attribute o "_headers" p] e pos.line env = pure false from swaps_attr (env := env) (e := e) (o := o) (a := "_headers") (p := p) (l := pos.line)) (stores_no (by cases e <;> rfl))
  show wpAny _ A (holding [v] (eval o env) >>= fun ov => standAt p.atName >>= fun _ => holding [v, ov] (setAttr ov "_headers" v) >>= fun _ => release [v, ov] []) _ _ s₁
  refine wpAny_bind (wpAny_holding (wpAny_mono h₁ (fun u s₂ h₂ => ?_) fun _ _ e => e))
  obtain ⟨φ₂, g₂, G₂, S₂, R₂, T₂, V₂, U₂⟩ := h₂
  refine wpAny_bind (wpAny_standAt (wpAny_bind (wpAny_holding (setattr_ok hC S₂ U₂ h1 h2 V₂ fun h' tk G₃ S₃ => wpAny_release ?_))))
  exact ExPost.trans G₂.toX T₂ (ExPost.ofStep R₂ ⟨φ₂, g₂, G₃, S₃, ⟨_, tk, rfl⟩⟩)
theorem for_loop {t : Expr} {body : List Stmt} {mt : MT} {x : V} {v : Value} {vs : List V} {it : Addr} {bd : Rho → Store → Option (Fl × Rho × Store)} {σ₀ : Store} {s₀ : Shared} {φ₀ : List Addr} {g₀ : Part} {fl : Fl} {σ' : Store}
    (ht : tgtIs t mt = true) (hst : storable env mt.names) (hvs : iterOf σ₀ x = some vs) (htu : (∃ k, x = .items k) → isTupT t = true) (hbd : ∀ ρ σ fl ρ' σ', bd ρ σ = some (fl, ρ', σ') → ExsOK prog hb C n env ρ σ body fl ρ' σ') (hn0 : s₀.heap.get? it = none) :
    ∀ (rest : List V) (i : Nat) (ρ : Rho) (σ : Store) (s : Shared) (φ : List Addr) (g : Part), Rm n A s.toks → rest = vs.drop i → i ≤ vs.length →
      loopM (fun v ρ σ => (setT ρ mt v).bind fun ρ => bd ρ σ) (still x vs) rest ρ σ = some (fl, ρ', σ') →
      GrowX (XF env) φ₀ g₀ s₀.heap φ g s.heap → Rest s₀ s → Sim hb C φ σ g s.heap → ER hb φ g s.heap env ρ → VR g φ v x → ItAt φ s.heap it v vs.length i x → it ∉ φ → g it = none → it ≠ env.locals → (∀ n c, env.cells.lookup n = some c → it ≠ c) →
      codeAny (model prog C.w) A (.forLoop t (.ref it) body [] env) (fun r s' => match r with | .ok f => ExPost hb C env φ₀ g₀ s₀ fl ρ' σ' f s' | .error _ => False) s := by
  intro rest
  induction rest with
  | nil =>
    intro i ρ σ s φ g hA hr hi h G0 T0 S R hv hit h1 h2 h4 h5
    unfold loopM at h
    split at h
    · rename_i hs
      cases h
      refine codeAny_of_tree ?_
      show wpAny _ _ ((forTurn t (.ref it) body [] env).onRaise (fun x => do noteFrame x env; theTreesLotGoes x)) _ _ s
      refine wpAny_noted ?_
      simp only [forTurn]
      refine wpAny_bind (wpAny_standAt (wpAny_bind (wpAny_onRaise ?_)))
      refine next_any (t := t) hA.handled (still_iter hvs hs) S hv hit h1 h2 hi htu (fun d u hv' g' h' tk hd => ?_) fun h' hd he => ?_
      · have : vs.length ≤ i := by
          have := congrArg List.length hr
          rw [List.length_drop, List.length_nil] at this; omega
        rw [List.getElem?_eq_none_iff.mpr this] at hd; cases hd
      · refine wpAny_pure ⟨rfl, codeAny_block (wpAny_execs_nil ?_)⟩
        exact ⟨φ, g, G0.end_ hn0 he, S.but h1 h2 he, R.but he h4 h5, T0.trans ⟨_, s.toks, rfl⟩, trivial⟩
    · cases h
  | cons d rest ih =>
    intro i ρ σ s φ g hA hr hi h G0 T0 S R hv hit h1 h2 h4 h5
    have hlt : i < vs.length := by
      have := congrArg List.length hr
      rw [List.length_drop, List.length_cons] at this; omega
    rw [List.drop_eq_getElem_cons hlt] at hr
    obtain ⟨hd0, hr0⟩ := List.cons.inj hr
    have hdi : vs[i]? = some d := by rw [List.getElem?_eq_getElem hlt, ← hd0]
    unfold loopM at h
    split at h
    · rename_i hs
      obtain ⟨⟨fl₁, ρ₂, σ₂⟩, k1, k2⟩ := Option.bind_eq_some_iff.mp h
      obtain ⟨ρ₁, k3, k4⟩ := Option.bind_eq_some_iff.mp k1
      have hvs' := still_iter hvs hs
      dsimp only at k2
      refine codeAny_of_tree ?_
      show wpAny _ _ ((forTurn t (.ref it) body [] env).onRaise (fun x => do noteFrame x env; theTreesLotGoes x)) _ _ s
      refine wpAny_noted ?_
      simp only [forTurn]
      refine wpAny_bind (wpAny_standAt (wpAny_bind (wpAny_onRaise ?_)))
      refine wpAny_with_toks (Nat.le_refl _) (next_any (t := t) hA.handled hvs' S hv hit h1 h2 hi htu (fun d' u hv' gx h' tk hd' Gx Sx hgx hu he hgo => fun le => ?_) fun h' hd' => by rw [hdi] at hd'; cases hd')
      rw [hdi] at hd'; cases hd'
      have hA : Rm n A ({ s with heap := h', toks := tk } : Shared).toks := hA.up le
      refine wpAny_bind (hgo fun h' hit' he => ?_)
      have S₁ : Sim hb C φ σ gx h' := Sim.but (s := { s with heap := hv' }) Sx h1 hgx he
      have R₁ := (R.grow Gx).but he h4 h5
      have hv := hv.mono Gx.mono Gx.pre
      obtain ⟨oi, hoi⟩ := hit'.obj
      have GA : GrowX (fun a => XF env a ∨ a = it) φ g s.heap φ gx h' := Gx.toX.trans (GrowX.but (.inr rfl) hoi he)
      have nX : ¬ XF env it := by
        rintro (q | ⟨y, q⟩)
        · exact h4 q
        · exact h5 y _ q rfl
      refine wpAny_bind (wpAny_with_toks (Nat.le_refl _) (assign_ok (s := { s with heap := h', toks := tk }) (X := XF env) ht k3 hst (xf_bears _) hA.handled S₁ R₁ hu fun h₂ tk₂ G₂ S₂ R₂ => fun le₂ => ?_))
      have hA : Rm n A ({ s with heap := h₂, toks := tk₂ } : Shared).toks := hA.up le₂
      have hit₂ : ItAt φ h₂ it v vs.length (i + 1) x := hit'.keep (List.prefix_refl _) fun o e => G₂.keep _ o e h1 nX
      refine wpAny_bind (go hA (hbd _ _ _ _ _ k4 A { s with heap := h₂, toks := tk₂ } φ gx _ hA S₂ R₂) (fun f s₃ hA h₃ => ?_))
      obtain ⟨φ₃, g₃, G₃, S₃, R₃, T₃, F₃⟩ := h₃
      have GB : GrowX (fun a => XF env a ∨ a = it) φ g s.heap φ₃ g₃ s₃.heap := (GA.trans (G₂.wider fun a q => .inl q)).trans (G₃.wider fun a q => .inl q)
      have TB : Rest s s₃ := (Rest.mk s h₂ tk₂).trans T₃
      have GC : GrowX (XF env) φ₀ g₀ s₀.heap φ₃ g₃ s₃.heap := ((G0.wider fun a q => .inl q).trans GB).less fun a q => q.elim .inl fun e => .inr (by rw [e]; exact hn0)
      obtain ⟨o₂, ho₂⟩ := hit₂.obj
      obtain ⟨h1', h2'⟩ := G₃.off ho₂ h1 hgx
      cases fl₁ with
      | next =>
        cases f <;> first | exact F₃.elim | skip
        exact wpAny_pure ⟨rfl, ih (i + 1) ρ₂ σ₂ s₃ φ₃ g₃ hA hr0 hlt k2 GC (T0.trans TB) S₃ R₃ (hv.mono G₃.mono G₃.pre) (hit₂.keep G₃.pre fun o e => G₃.keep _ o e h1 nX) h1' h2' h4 h5⟩
      | ret r =>
        cases f <;> first | exact F₃.elim | skip
        cases k2
        exact wpAny_pure ⟨φ₃, g₃, GC, S₃, R₃, T0.trans TB, F₃⟩
    · cases h

theorem for_ok {t e : Expr} {body : List Stmt} {pos : Pos} {mt : MT} {x : V} {vs : List V} {bd : Rho → Store → Option (Fl × Rho × Store)} {fl : Fl} {σ' : Store} (hset : notSet e = true) (ht : tgtIs t mt = true) (hst : storable env mt.names)
    (hev : EvOK prog hb C n env ρ σ e x σ₁) (hvs : iterOf σ₁ x = some vs) (htu : (∃ k, x = .items k) → isTupT t = true) (hbd : ∀ ρ σ fl ρ' σ', bd ρ σ = some (fl, ρ', σ') → ExsOK prog hb C n env ρ σ body fl ρ' σ')
    (h : loopM (fun v ρ σ => (setT ρ mt v).bind fun ρ => bd ρ σ) (still x vs) vs ρ σ₁ = some (fl, ρ', σ')) : ExOK prog hb C n env ρ σ (.For t e body [] pos) fl ρ' σ' := by
  intro A s φ g E hA S R
  refine wpAny_For (go hA (hev A s φ g E hA S R) (fun v s₁ hA h₁ => ?_)) fun y => folded_ok hset
  obtain ⟨φ₁, g₁, G₁, S₁, V₁, T₁⟩ := h₁
  have R₁ := R.grow G₁
  refine iter_op hvs S₁ V₁ fun it h' hn hk hit => ?_
  have G₂ : Grow φ₁ g₁ s₁.heap φ₁ g₁ h' := Grow.same hk
  obtain ⟨m, hm⟩ := R₁.ns
  obtain ⟨oL, hoL⟩ := Nsm.has hm
  refine codeAny_mono (for_loop (s₀ := s₁) (φ₀ := φ₁) (g₀ := g₁) ht hst hvs htu hbd hn vs 0 ρ σ₁ { s₁ with heap := h' } φ₁ g₁ hA rfl (Nat.zero_le _) h G₂.toX ⟨_, s₁.toks, rfl⟩ (S₁.all hk) (R₁.grow G₂) V₁ hit (S₁.fresh_f hn) (S₁.fresh_g hn)
    (by rintro rfl; rw [hn] at hoL; cases hoL) (fun y c hc => by rintro rfl; obtain ⟨⟨u, o, ho, _⟩, _⟩ := R₁.cells y _ hc; rw [hn] at ho; cases ho)) fun r s' z => ?_
  cases r with
  | ok f => exact ExPost.trans G₁.toX T₁ z
  | error e => exact z.elim
end
end Mine

namespace Mine

section
variable {prog : Program} {hb : Heap} {C : Cx} {n : Nat} {env : Env} {ρ ρ' ρ₁ ρ₂ : Rho} {σ σ₁ σ₂ σ₃ : Store} {A : Around} {s : Shared} {φ : List Addr} {g : Part} {E : Value → Shared → Prop}

theorem aug_op {op : Operator} {x y d : V} {v u : Value} (e : augV op x y = some d) (S : Sim hb C φ σ g s.heap) (hv : VR g φ v x) (hu : VR g φ u y) : wpAny (model prog C.w) A (inplaceOp op v u) (Post hb C φ g s σ d) E s := by
  cases op with
  | Add =>
    rcases Option.or_eq_some_iff.mp e with e | ⟨-, e⟩
    · obtain ⟨a, b, t, t', rfl, rfl, e⟩ := twoI hv hu e
      cases e
      exact P.iadd_int (Post.here S (.int _ _) _)
    · obtain ⟨a, b, t, t', rfl, rfl, e⟩ := twoS hv hu e
      obtain ⟨hl, e⟩ := ite_some e
      cases e
      refine SB.iadd (fun t' k => ?_) (len_add hl)
      rw [strV_append]; exact Post.here S (.str _ _) _
  | _ => cases e
theorem aug_ok {x : String} {p pos : Pos} {op : Operator} {e : Expr} {a b d : V} (hl : look ρ x = some a) (hv : vis (env.kindOf (Str.ofString x)) = true) (hst : storable env [x]) (h : EvOK prog hb C n env ρ σ e b σ₁) (ha : augV op a b = some d) (hr : setv ρ x d = some ρ') :
    ExOK prog hb C n env ρ σ (.AugAssign (.Name (Str.ofString x) p) op e pos) .next ρ' σ₁ := by
  intro A s φ g E hA S R
  obtain ⟨v, hs, hvr⟩ := R.sees x a hl hv
  refine wpAny_AugAssign_Name (loadSees R.kind hs (go hA (h A s φ g E hA S R) (fun u s₁ hA h₁ => ?_)))
  obtain ⟨φ₁, g₁, G₁, S₁, V₁, T₁⟩ := h₁
  refine go hA (aug_op ha S₁ (hvr.mono G₁.mono G₁.pre) V₁) (fun r s₂ hA h₂ => ?_)
  obtain ⟨φ₂, g₂, G₂, S₂, V₂, T₂⟩ := h₂
  exact store_ok hr (hst x (.head _)) S₂ ((R.grow G₁).grow G₂) V₂ ⟨.inl rfl, fun _ c hc => .inr ⟨_, hc⟩⟩ fun h' tk G' S' R' => ExPost.trans (G₁.toX.trans G₂.toX) (T₁.trans T₂) (ExPost.here G' S' R')

theorem while_ok {c : Expr} {body : List Stmt} {pos : Pos} {ct : Rho → Store → Option (Bool × Store)} {bd : Rho → Store → Option (Fl × Rho × Store)} {fl : Fl} {k : Nat} {σ' : Store}
    (hc : ∀ ρ σ b σ', ct ρ σ = some (b, σ') → TestOK prog hb C n env ρ σ c b σ') (hbd : ∀ ρ σ fl ρ' σ', bd ρ σ = some (fl, ρ', σ') → ExsOK prog hb C n env ρ σ body fl ρ' σ')
    (h : whileM ct bd k ρ σ = some (fl, ρ', σ')) : ExOK prog hb C n env ρ σ (.While c body [] pos) fl ρ' σ' := by
  intro A s₀ φ₀ g₀ E hA S R
  refine wpAny_While ?_
  refine codeAny_mono (codeAny_whileLoop (R := fun r s' => match r with | .ok f => ExPost hb C env φ₀ g₀ s₀ fl ρ' σ' f s' | .error _ => False)
    (fun k s => ∃ ρ σ φ g, Rm n A s.toks ∧ whileM ct bd k ρ σ = some (fl, ρ', σ') ∧ GrowX (XF env) φ₀ g₀ s₀.heap φ g s.heap ∧ Rest s₀ s ∧ Sim hb C φ σ g s.heap ∧ ER hb φ g s.heap env ρ) ?_ k ⟨ρ, σ, φ₀, g₀, hA, h, GrowX.refl, Rest.refl s₀, S, R⟩) fun r s' z => ?_
  · rintro k s ⟨ρ, σ, φ, g, hA, hk, G, T, S, R⟩
    cases k with
    | zero => cases hk
    | succ k =>
      obtain ⟨⟨b, σ₁⟩, h1, h2⟩ := Option.bind_eq_some_iff.mp (show ((ct ρ σ).bind _) = some (fl, ρ', σ') from hk)
      dsimp only at h2
      refine go hA (hc _ _ _ _ h1 A s φ g _ hA S R) (fun b' s₁ hA h₁ => ?_)
      obtain ⟨rfl, φ₁, g₁, G₁, S₁, T₁⟩ := h₁
      have G₂ := G.trans G₁.toX
      have T₂ := T.trans T₁
      cases b' with
      | true =>
        rw [if_pos rfl] at h2 ⊢
        obtain ⟨⟨fl₁, ρ₂, σ₂⟩, h3, h4⟩ := Option.bind_eq_some_iff.mp h2
        refine go hA (hbd _ _ _ _ _ h3 A s₁ φ₁ g₁ _ hA S₁ (R.grow G₁)) (fun f s₂ hA p => ?_)
        obtain ⟨φ₃, g₃, G₃, S₃, R₃, T₃, F₃⟩ := p
        cases fl₁ with
        | next =>
          cases f <;> first | exact F₃.elim | skip
          exact ⟨k, Nat.lt_succ_self k, ρ₂, σ₂, φ₃, g₃, hA, h4, G₂.trans G₃, T₂.trans T₃, S₃, R₃⟩
        | ret v =>
          cases f <;> first | exact F₃.elim | skip
          cases h4
          exact ⟨φ₃, g₃, G₂.trans G₃, S₃, R₃, T₂.trans T₃, F₃⟩
      | false =>
        rw [if_neg (by decide)] at h2 ⊢
        cases h2
        exact wpAny_execs_nil ⟨φ₁, g₁, G₂, S₁, R.grow G₁, T₂, trivial⟩
  · cases r with
    | ok f => exact z
    | error e => exact z.elim
end
end Mine

namespace Mine

section
variable {prog : Program} {w : World} {A : Around} {E : Value → Shared → Prop} {s : Shared}
theorem keys_miss {a : Addr} {o : Obj} {xs : Array Value} {k : Nat} {Q : Option Value → Shared → Prop} (hx : s.heap.get? a = some o) (hc : o.cls = .type "list") (hdat : o.data = .seq xs k) (hd : o.dict = none) (hA : A.handled = none)
    (h : ∀ h' tk, (∀ b o, s.heap.get? b = some o → h'.get? b = some o) → Q none { s with heap := h', toks := tk }) : wpAny (model prog w) A (getAttr? (.ref a) "keys") Q E s := by
  obtain ⟨c, dct, dat, sl⟩ := o
  simp only at hc hdat hd
  subst hc hdat hd
  obtain ⟨hp, g, d, tk, os⟩ := s
  have hT : ∀ tk', (⟨hp, g, d, tk', os⟩ : Shared).TypeIs (.ref a) "list" := fun _ => ⟨_, hx, rfl⟩
  have f1 := sub_AttributeError
  have f3 := F.slot_list_getattribute.lookup
  have f4 := F.slot_list_getattribute.bind (.ref a)
  have f5 := am_list_getattr_none
  unfold getAttr? getAttrBy? getAttrBy
  repeat (any_goals (first | assumption | exact hT _ | ((with_reducible show wpAny _ _ (call (Value.builtin "list.__getattribute__") _ _) _ _ _); refine call_meets F.slot_list_getattribute (hT _) am_entry_list_getattribute (F.args_list_getattribute_2 _ _) (meets_getattribute_miss_list a xs k sl "keys" _ (by rw [typeLookup_type, builtinLookup_eq_fast]; kernel_rfl) (by decide +kernel) (by decide)) ⟨hx, hA, fun h' tk' e hx' => ?_⟩) | wp_step))
  obtain ⟨t', u', he⟩ := hx'.there
  show wpAny _ _ (getattributeRaised _ _ _ _ _ _ _) _ _ _
  unfold getattributeRaised
  repeat (any_goals (first | assumption | wp_step))
  exact h h' tk' hx'.keeps

theorem loop_entry : entryFor table "dict.update.loop" = some Builtin.«dict.update.loop» := by first | exact entryFor_of_fast (by kernel_rfl) | exact entryFor_of_tree (by kernel_rfl)
theorem loop_plain : plainId "dict.update.loop" = true := by decide +kernel
inductive PairObjs (h : Heap) : List Value → List (Str × Value) → Prop
  | nil : PairObjs h [] []
  | cons {p : Addr} {o : Obj} {x : Str} {t : Tok} {v : Value} {n : Nat} {vs : List Value} {kvs : List (Str × Value)} : h.get? p = some o → o.cls = .type "tuple" → o.data = .seq #[.str x t, v] n → PairObjs h vs kvs → PairObjs h (.ref p :: vs) ((x, v) :: kvs)
theorem stored_new {kvs : List (Str × Value)} {k : Str} {v : Value} (h : k ∉ kvs.map (·.1)) : stored kvs k v = kvs ++ [(k, v)] := by
  unfold stored
  rw [if_neg]
  simp only [List.any_eq_true, decide_eq_true_eq]
  rintro ⟨p, hp, rfl⟩
  exact h (List.mem_map.mpr ⟨p, hp, rfl⟩)
theorem dict_loop {h₀ : Heap} {d it l : Addr} {vs : List Value} {R : Result → Shared → Prop} (hh : A.handled = none) (hl : h₀.IsList l vs.toArray) (hd0 : h₀.get? d = none) (hi0 : h₀.get? it = none) (hdi : d ≠ it) :
    ∀ (rest : List Value) (kvs : List (Str × Value)) (i : Nat) (done : List (Str × Value)) (s : Shared) (t : Tok), rest = vs.drop i → i ≤ vs.length → PairObjs h₀ rest kvs → ((done ++ kvs).map (·.1)).Nodup → (done ++ kvs).length ≤ 100000 →
      (∀ b o, h₀.get? b = some o → s.heap.get? b = some o) → s.heap.DictOf (PySem.strKind prog w) d done → s.heap.IsListIter it l i →
      (∀ h' tk, (∀ b o, h₀.get? b = some o → h'.get? b = some o) → h'.DictOf (PySem.strKind prog w) d (done ++ kvs) → R (.ok (.ret .none)) { s with heap := h', toks := tk }) →
      codeAny (model prog w) A (.builtin "dict.update.loop" ⟨[.ref d, .ref it, .int i t, .none], []⟩) R s := by
  have ne0 : ∀ {b : Addr} {o : Obj}, h₀.get? b = some o → b ≠ d ∧ b ≠ it := fun e => ⟨(by rintro rfl; rw [hd0] at e; cases e), (by rintro rfl; rw [hi0] at e; cases e)⟩
  have hlk : ∀ {h' : Heap}, (∀ b o, h₀.get? b = some o → h'.get? b = some o) → h'.IsList l vs.toArray := fun k => let ⟨o, ho, r⟩ := hl; ⟨o, k _ _ ho, r⟩
  intro rest
  induction rest with
  | nil =>
    intro kvs i done s t hr hi hp hn hz hk hd hit hR
    cases hp
    have hv : vs.toArray[i]? = none := by
      have := congrArg List.length hr
      rw [List.length_drop, List.length_nil] at this
      rw [List.getElem?_toArray, List.getElem?_eq_none_iff]; omega
    refine codeAny_builtin loop_entry ?_
    rw [Around.under_plainId loop_plain _]
    show wpAny _ A.in1 (pyNext (.ref it) >>= _) _ _ s
    refine wpAny_bind (wpAny_pyNext_list_end hh hit (hlk hk) hv fun h' he => ?_)
    show wpAny _ _ (Builtin.Dict.addKeywords d [] >>= _) _ _ _
    refine wpAny_bind (wpAny_pure ?_)
    rw [List.append_nil] at hR
    exact wpAny_pure (hR h' s.toks (fun b o e => he b o (ne0 e).2 (hk b o e)) (hd.extBut he hdi))
  | cons v rest ih =>
    intro kvs i done s t hr hi hp hn hz hk hd hit hR
    cases hp with
    | cons h1 h2 h3 hp =>
    rename_i p o x tx y n kvs
    have hlt : i < vs.length := by
      have := congrArg List.length hr
      rw [List.length_drop, List.length_cons] at this; omega
    rw [List.drop_eq_getElem_cons hlt] at hr
    obtain ⟨hv0, hr0⟩ := List.cons.inj hr
    refine codeAny_builtin loop_entry ?_
    rw [Around.under_plainId loop_plain _]
    show wpAny _ A.in1 (pyNext (.ref it) >>= _) _ _ s
    refine wpAny_bind (wpAny_pyNext_list_item (x := .ref p) hit (hlk hk) (by rw [List.getElem?_toArray, List.getElem?_eq_getElem hlt, ← hv0]) fun h' hit' hs => ?_)
    have hk' : ∀ b o, h₀.get? b = some o → h'.get? b = some o := fun b o e => hs.extBut b o (ne0 e).2 (hk b o e)
    have hd' := hd.extBut hs.extBut hdi
    refine wpAny_bind (wpAny_holding ?_)
    refine wpAny_bind (wpAny_tryCatch ?_)
    unfold Builtin.Dict.pairItems
    refine wpAny_bind (wpAny_typeOf (s := { s with heap := h' }) (T := "tuple") ⟨o, hk' _ _ h1, h2⟩ ?_)
    refine bm_if_true (by decide) ?_
    refine wpAny_bind (wpAny_seqItems (s := { s with heap := h' }) (hk' _ _ h1) h3 (wpAny_pure ?_))
    show wpAny _ _ (holding [.str x tx, y] (dictSet d (.str x tx) y)) _ _ _
    refine wpAny_holding (wpAny_dictSet_pairs (knd := PySem.strKind prog w) (k := x) (by simp [PySem.strKind, Value.isStrOf]) hd' (fun h'' hd'' hs'' => ?_) (by
      rw [List.length_append] at hz
      exact Nat.le_trans (by omega : done.length ≤ 100000) (by decide)))
    have hx : x ∉ done.map (·.1) := fun m => by
      rw [List.map_append, List.nodup_append] at hn
      exact hn.2.2 x m x (.head _) rfl
    rw [stored_new hx] at hd''
    refine wpAny_pure ⟨plainId_quiet loop_plain _, ih kvs (i + 1) (done ++ [(x, y)]) { s with heap := h'', toks := s.toks + 1 } 0 hr0 hlt hp (by simpa using hn) (by simpa using hz) (fun b o e => hs''.extBut b o (ne0 e).1 (hk' b o e)) hd'' ?_ fun h3 tk hk3 hd3 => ?_⟩
    · obtain ⟨oi, hoi, r⟩ := hit'
      exact ⟨oi, hs''.extBut it oi (Ne.symm hdi) hoi, r⟩
    · exact hR h3 tk hk3 (by simpa using hd3)
theorem PairObjs.keep {h h' : Heap} (hk : ∀ b o, h.get? b = some o → h'.get? b = some o) : ∀ {vs : List Value} {kvs : List (Str × Value)}, PairObjs h vs kvs → PairObjs h' vs kvs
  | _, _, .nil => .nil
  | _, _, .cons a b c r => .cons (hk _ _ a) b c (r.keep hk)
theorem dict_pairs {l : Addr} {o : Obj} {vs : List Value} {n : Nat} {kvs : List (Str × Value)} {Q : Value → Shared → Prop} (hh : A.handled = none) (ho : s.heap.get? l = some o) (hc : o.cls = .type "list") (hdat : o.data = .seq vs.toArray n) (hdd : o.dict = none)
    (hp : PairObjs s.heap vs kvs) (hn : (kvs.map (·.1)).Nodup) (hz : kvs.length ≤ 100000)
    (h : ∀ h' tk, (∀ b o, s.heap.get? b = some o → h'.get? b = some o) → h'.DictOf (PySem.strKind prog w) s.heap.objs.size kvs → Q (.ref s.heap.objs.size) { s with heap := h', toks := tk }) :
    wpAny (model prog w) A (call (.type "dict") [.ref l]) Q E s := by
  refine callType_codes (Q₁ := fun obj s₁ => obj = .ref s.heap.objs.size ∧ s₁ = { s with heap := s.heap.push { cls := .type "dict", data := .dict #[] } }) PySem.F.kt_called_dict (PySem.F.kt_typeCall_dict_1 _) PySem.F.entry_dict_init (kt_code_dict_new _ ⟨rfl, rfl⟩) ?_
  rintro obj s₁ ⟨rfl, rfl⟩
  have hk1 : ∀ b o, s.heap.get? b = some o → (s.heap.push { cls := .type "dict", data := .dict #[] }).get? b = some o := fun b o e => Heap.get?_push_of_some _ e
  have hnew : (s.heap.push { cls := .type "dict", data := .dict #[] }).DictOf (PySem.strKind prog w) s.heap.objs.size [] := Heap.DictOf.new s.heap
  have hd0 : s.heap.get? s.heap.objs.size = none := fresh_none _
  refine ⟨hnew.typeIs, PySem.F.args_dict_init_2 _ _, ?_⟩
  unfold Builtin.«dict.__init__»
  refine wpAny_bind ?_
  unfold Builtin.Dict.selfAndRest
  refine wpAny_bind (wpAny_notOrdered_dict hnew.typeIs ?_)
  show wpAny _ _ (pure (s.heap.objs.size, [Value.ref l])) _ _ _
  refine wpAny_pure ?_
  show wpAny _ _ (Builtin.Dict.updateFrom "dict.__init__" s.heap.objs.size (.ref l) [] .none) _ _ _
  unfold Builtin.Dict.updateFrom
  refine wpAny_bind (wpAny_typeOf (T := "list") ⟨o, hk1 _ _ ho, hc⟩ ?_)
  refine bm_if_true (by decide) ?_
  refine wpAny_bind (keys_miss (s := { s with heap := s.heap.push { cls := .type "dict", data := .dict #[] } }) (hk1 _ _ ho) hc hdat hdd hh fun h' tk hk2 => ?_)
  refine bm_if_true rfl ?_
  refine wpAny_bind (wpAny_rule ?_)
  have hk12 : ∀ b o, s.heap.get? b = some o → h'.get? b = some o := fun b o e => hk2 b o (hk1 b o e)
  have hi0 : h'.get? h'.objs.size = none := fresh_none _
  have hit0 : s.heap.get? h'.objs.size = none := by
    cases q : s.heap.get? h'.objs.size with
    | none => rfl
    | some o => rw [hk12 _ _ q] at hi0; cases hi0
  have hlt : s.heap.objs.size < h'.objs.size := Heap.lt_size (hk2 _ _ (Heap.get?_push_size s.heap (o := { cls := .type "dict", data := .dict #[] }) rfl))
  refine wpAny_bind (wpAny_pyIter_list (s := { s with heap := h', toks := tk }) ⟨o, hk12 _ _ ho, hc, n, hdat⟩ ?_)
  have hkp : ∀ b o, h'.get? b = some o → (h'.push { cls := .type "list_iterator", data := .fields #[.ref l, .int 0 0] }).get? b = some o := fun b o e => Heap.get?_push_of_some _ e
  obtain ⟨od, es, ep, hod, hr⟩ := hnew
  refine wpAny_pure ⟨plainId_quiet loop_plain _, dict_loop (A := A.in1) (h₀ := s.heap) (l := l) (vs := vs) (it := h'.objs.size) hh ⟨o, ho, hc, n, hdat⟩ hd0 hit0 (Nat.ne_of_lt hlt) vs kvs 0 [] _ 0 rfl (Nat.zero_le _) hp (by simpa using hn) (by simpa using hz)
    (fun b o e => hkp _ _ (hk12 b o e)) ⟨od, es, ep, hkp _ _ (hk2 _ _ hod), hr⟩ ⟨{ cls := .type "list_iterator", data := .fields #[.ref l, .int 0 0] }, Heap.get?_push_size _ rfl, rfl, rfl⟩ fun h3 tk3 hk3 hd3 => ?_⟩
  exact ⟨rfl, h h3 tk3 hk3 hd3⟩
theorem find_new {d : Addr} {kvs : List (Str × Value)} {k : Str} {key : Value} {Q : Option Nat → Shared → Prop} (hkey : (PySem.strKind prog w).is k key = true) (hm : s.heap.DictOf (PySem.strKind prog w) d kvs) (hnot : k ∉ kvs.map (·.1)) (h : Q none s) :
    wpAny (model prog w) A (dictFind d key ((PySem.strKind prog w).hash k)) Q E s := by
  obtain ⟨o, es, ep, ho, hc, hd, hk, hp, hn⟩ := hm
  refine wpAny_dictFind_of hkey ho hd hk ?_
  have hidx : (es.findIdx? fun e => (PySem.strKind prog w).is k e.key) = kvs.findIdx? fun kv => decide (kv.1 = k) := by
    rw [← hp.findIdx k]; obtain ⟨l⟩ := es; simp
  have : (kvs.findIdx? fun kv => decide (kv.1 = k)) = none := by
    rw [List.findIdx?_eq_none_iff]
    intro x hx
    exact decide_eq_false fun q => hnot (List.mem_map.mpr ⟨x, hx, q⟩)
  rw [hidx, this]; exact h
theorem put_new {d : Addr} {kvs : List (Str × Value)} {k : Str} {key v : Value} {Q : Unit → Shared → Prop} (hkey : (PySem.strKind prog w).is k key = true) (hm : s.heap.DictOf (PySem.strKind prog w) d kvs) (hnot : k ∉ kvs.map (·.1)) (hz : kvs.length ≤ 100000)
    (h : ∀ h', h'.DictOf (PySem.strKind prog w) d (kvs ++ [(k, v)]) → Heap.SameBut d s.heap h' → Q () { s with heap := h' }) :
    wpAny (model prog w) A (dictPut d ((PySem.strKind prog w).hash k) key v) Q E s := by
  unfold dictPut
  refine wpAny_bind (find_new hkey hm hnot ?_)
  obtain ⟨o, es, ep, ho, hc, hd, hk, hp, hn⟩ := hm
  have hes : es.size ≤ sizeLine := by
    have e1 := hp.length
    have e2 : es.toList.length = es.size := by simp
    exact Nat.le_trans (by omega : es.size ≤ 100000) (by decide)
  refine wpAny_updateDictKeys (hz := hes) ho hd (h _ ⟨_, _, ep + 1, Heap.get?_update_self _ ho (Obj.isFreed_of_dict (Obj.data_mapDictKeys hd _)), hc.mapDictKeys _, Obj.data_mapDictKeys hd _, hk.push hkey _, ?_, ?_⟩ (Heap.SameBut.update ..))
  · have := hp.append hkey ((PySem.strKind prog w).hash k) v
    obtain ⟨l⟩ := es
    simpa using this
  · rw [List.map_append, List.nodup_append]
    refine ⟨hn, by simp, fun a ha b hb => ?_⟩
    simp only [List.map_cons, List.map_nil, List.mem_singleton] at hb
    subst hb
    exact fun e => hnot (e ▸ ha)
theorem forIn_idle {α : Type} {body : α → PUnit → Sem (ForInStep PUnit)} : ∀ {l : List α}, (∀ x ∈ l, body x ⟨⟩ = pure (.yield ⟨⟩)) → forIn l PUnit.unit body = (pure PUnit.unit : Sem PUnit)
  | [], _ => rfl
  | x :: r, h => by
    rw [List.forIn_cons, h x (.head _)]
    exact forIn_idle fun y hy => h y (.tail _ hy)
theorem range_loop {M : Model} {body : Nat → PUnit → Sem (ForInStep PUnit)} {N : Nat} {Q : PUnit → Shared → Prop} (I : Nat → Shared → Prop) (step : ∀ i s, i < N → I i s → ∀ (Q : ForInStep PUnit → Shared → Prop), (∀ s', I (i + 1) s' → Q (.yield ⟨⟩) s') → wpAny M A (body i ⟨⟩) Q E s) :
    ∀ (k i : Nat) (s : Shared), i + k = N → I i s → (∀ s', I N s' → Q ⟨⟩ s') → wpAny M A (forIn (List.range' i k) PUnit.unit body) Q E s
  | 0, i, s, e, hI, q => by
    obtain rfl : i = N := by omega
    exact wpAny_pure (q s hI)
  | k + 1, i, s, e, hI, q => by
    rw [List.range'_succ, List.forIn_cons]
    refine wpAny_bind (step i s (by omega) hI _ fun s' hs => ?_)
    exact range_loop I step k (i + 1) s' (by omega) hs q
theorem merge_new {d m : Addr} {kvs : List (Str × Value)} {Q : Unit → Shared → Prop} (hm : s.heap.DictOf (PySem.strKind prog w) m kvs) (hms : (m == sysModules) = false) (hd : s.heap.DictOf (PySem.strKind prog w) d []) (hdm : d ≠ m) (hz : kvs.length ≤ 100000)
    (h : ∀ h', h'.DictOf (PySem.strKind prog w) d kvs → Heap.ExtBut d s.heap h' → Q () { s with heap := h' }) : wpAny (model prog w) A (mergeMapping d (.ref m) true) Q E s := by
  have hT := hm.typeIs
  obtain ⟨o, es, ep, ho, hc, hdat, hk, hp, hn⟩ := id hm
  obtain ⟨o2, es2, ep2, ho2, hc2, hdat2, hk2, hp2, hn2⟩ := id hd
  have he2 : es2 = #[] := by
    have := hp2.length
    obtain ⟨l⟩ := es2
    have : l = [] := by simpa using this
    rw [this]
  have hsz : es.size = kvs.length := by rw [← hp.length]; simp
  unfold mergeMapping
  refine wpAny_bind (wpAny_isInstance hT isSubtype_dict_dict ?_)
  dsimp only
  refine bm_if_true rfl ?_
  refine wpAny_bind (wpAny_specialOf hT PySem.F.slot_dict_iter.lookup ?_)
  refine wpAny_bind (wpAny_pure ?_)
  simp only [beq_self_eq_true]
  rw [hms]
  simp only [Bool.false_eq_true, if_false]
  refine wpAny_bind (wpAny_dictEntries ho2 hdat2 ?_)
  rw [he2]
  refine bm_if_true (by rfl) ?_
  refine wpAny_bind (wpAny_dictEntries ho hdat ?_)
  have keyStr : ∀ e ∈ es, ∃ k t, e.key = .str k t ∧ e.hash = (PySem.strKind prog w).hash k := fun e he => by
    obtain ⟨k, q1, q2⟩ := hk e he
    obtain ⟨t, q3⟩ := Value.isStrOf_shape (show Value.isStrOf k e.key = true by simpa [PySem.strKind] using q1)
    exact ⟨k, t, q3, q2⟩
  refine wpAny_bind (wpAny_of_eq (a := PUnit.unit) ?_ ?_)
  · obtain ⟨l⟩ := es
    rw [List.forIn_toArray]
    refine forIn_idle fun e he => ?_
    obtain ⟨k, t, q, -⟩ := keyStr e (by simpa using he)
    rw [q]
  refine wpAny_bind (wpAny_dictEntries ho hdat ?_)
  refine wpAny_bind (wpAny_dictEpoch ho hdat ?_)
  refine wpAny_bind ?_
  rw [List.range_eq_range']
  refine range_loop (fun i s' => ∃ h', s' = { s with heap := h' } ∧ h'.DictOf (PySem.strKind prog w) d (kvs.take i) ∧ Heap.ExtBut d s.heap h') (N := es.size) ?_ _ 0 s (by omega) ⟨s.heap, rfl, by simpa using hd, fun _ _ _ e => e⟩ ?_
  · rintro i s' hi ⟨h', rfl, hd', he'⟩ Q' q
    have ho' := he' m o (Ne.symm hdm) ho
    refine wpAny_bind (wpAny_dictEntries (s := { s with heap := h' }) ho' hdat ?_)
    rw [Array.getElem?_eq_getElem hi]
    dsimp only
    obtain ⟨x, hx⟩ : ∃ x, kvs[i]? = some x := ⟨_, List.getElem?_eq_getElem (hsz ▸ hi)⟩
    obtain ⟨k, v⟩ := x
    obtain ⟨hkey, hval⟩ := hp.get? (e := es[i]) (by simp [hi]) hx
    obtain ⟨k', t, q1, q2⟩ := keyStr es[i] (Array.getElem_mem hi)
    have hkk : k' = k := (PySem.strKind prog w).inj es[i].key k' k (by rw [q1]; simp [PySem.strKind, Value.isStrOf]) hkey
    subst hkk
    have htake : kvs.take (i + 1) = kvs.take i ++ [(k', v)] := by rw [List.take_add_one, hx]; rfl
    have hnot : k' ∉ (kvs.take i).map (·.1) := fun mm => by
      have hn' : ((kvs.take (i + 1)).map (·.1)).Nodup := by
        rw [List.map_take]; exact List.Nodup.sublist (List.take_sublist _ _) hn
      rw [htake, List.map_append, List.nodup_append] at hn'
      exact hn'.2.2 k' mm k' (.head _) rfl
    have hlen : (kvs.take i).length ≤ 100000 := Nat.le_trans (List.length_take_le' ..) hz
    refine wpAny_bind (wpAny_holding ?_)
    rw [if_pos trivial, q2]
    refine wpAny_bind (find_new (s := { s with heap := h' }) hkey hd' hnot ?_)
    refine bm_if_false rfl ?_
    refine put_new (s := { s with heap := h' }) hkey hd' hnot hlen fun h'' hd'' hs'' => ?_
    have he'' : Heap.ExtBut d s.heap h'' := fun b o hb e => hs''.extBut b o hb (he' b o hb e)
    refine wpAny_bind (wpAny_dictEpoch (s := { s with heap := h'' }) (he'' m o (Ne.symm hdm) ho) hdat ?_)
    refine bm_if_false (by simp) ?_
    exact wpAny_pure (q _ ⟨h'', rfl, by rw [htake, ← hval]; exact hd'', he''⟩)
  · rintro s' ⟨h', rfl, hd', he'⟩
    rw [hsz, List.take_length] at hd'
    exact wpAny_pure (h h' hd' he')
theorem forIn_pairs {body : DictEntry → List (Str × Value) → Sem (ForInStep (List (Str × Value)))} (hb : ∀ e k v acc, (PySem.strKind prog w).is k e.key = true → e.val = v → body e acc = pure (.yield (acc ++ [(k, v)]))) :
    ∀ {l : List DictEntry} {kvs : List (Str × Value)} {acc : List (Str × Value)}, Pairs (PySem.strKind prog w) l kvs → forIn l acc body = pure (acc ++ kvs)
  | _, _, acc, .nil => by rw [List.append_nil]; rfl
  | _, _, acc, .cons (e := e) (kv := kv) h1 h2 r => by
    rw [List.forIn_cons, hb e kv.1 kv.2 acc h1 h2]
    have := forIn_pairs hb (acc := acc ++ [(kv.1, kv.2)]) r
    rw [List.append_assoc] at this
    exact this
theorem keywords_in {f : Value} {d : Addr} {kvs : List (Str × Value)} {Q : List (Str × Value) → Shared → Prop} (hd : s.heap.DictOf (PySem.strKind prog w) d kvs) (h : Q kvs s) : wpAny (model prog w) A (keywordsIn f d) Q E s := by
  obtain ⟨o, es, ep, ho, hc, hdat, hk, hp, hn⟩ := hd
  unfold keywordsIn
  refine wpAny_bind (wpAny_dictEntries ho hdat ?_)
  refine wpAny_bind (wpAny_of_eq (a := kvs) ?_ (wpAny_pure h))
  obtain ⟨l⟩ := es
  rw [List.forIn_toArray]
  refine forIn_pairs (prog := prog) (w := w) (acc := []) (fun e k v acc h1 h2 => ?_) hp
  obtain ⟨t, q⟩ := Value.isStrOf_shape (show Value.isStrOf k e.key = true by simpa [PySem.strKind] using h1)
  rw [q, h2]
theorem merged_one {f : Value} {x : Sem Value} {Q : Addr → Shared → Prop}
    (h : wpAny (model prog w) A x (fun v s₁ => ∃ m kvs, v = .ref m ∧ s₁.heap.DictOf (PySem.strKind prog w) m kvs ∧ (m == sysModules) = false ∧ s.heap.objs.size ≠ m ∧ s₁.heap.DictOf (PySem.strKind prog w) s.heap.objs.size [] ∧ kvs.length ≤ 100000 ∧
      ∀ h', h'.DictOf (PySem.strKind prog w) s.heap.objs.size kvs → Heap.ExtBut s.heap.objs.size s₁.heap h' → Q s.heap.objs.size { s₁ with heap := h' }) (fun _ _ => False) { s with heap := s.heap.push { cls := .type "dict", data := .dict #[] } }) :
    wpAny (model prog w) A (mergedKeywords f [(none, x)]) Q E s := by
  unfold mergedKeywords
  refine wpAny_bind (wpAny_alloc ?_)
  refine wpAny_bind (wpAny_holding ?_)
  extract_lets merge group g
  refine wpAny_bind ?_
  rw [List.forIn_cons]
  refine wpAny_bind ?_
  refine wpAny_bind (wpAny_of_eq (t := group g) (a := PUnit.unit) rfl ?_)
  refine wpAny_bind (wpAny_mono h (fun v s₁ hv => ?_) fun _ _ e => e.elim)
  obtain ⟨m, kvs, rfl, hm, hms, hdm, hd, hz, hq⟩ := hv
  refine wpAny_bind (wpAny_onRaise ?_)
  refine wpAny_holding (wpAny_tryCatch (wpAny_onRaise (merge_new hm hms hd hdm hz fun h' hd' he' => ?_)))
  refine wpAny_pure ?_
  refine wpAny_of_eq (a := g) rfl ?_
  refine wpAny_of_eq (t := group g) (a := PUnit.unit) rfl ?_
  exact wpAny_pure (hq h' hd' he')
theorem evalArgs_map {f : Value} {y : Sem Value} {rest : List (Bool × Sem Value)} {x : Sem Value} {Q : Args → Shared → Prop}
    (h : wpAny (model prog w) A (spliced ((false, y) :: rest)) (fun vs s₁ => wpAny (model prog w) A (mergedKeywords f [(none, x)]) (fun d s₂ => wpAny (model prog w) A (keywordsIn f d) (fun kv s₃ => Q ⟨vs, kv⟩ s₃) E s₂) E s₁) E s) :
    wpAny (model prog w) A (evalArgs f true ((false, y) :: rest) [(none, x)]) Q E s := by
  unfold evalArgs
  show wpAny _ A (spliced ((false, y) :: rest) >>= _) Q E s
  refine wpAny_bind (wpAny_mono h (fun vs s₁ h₁ => ?_) fun _ _ x => x)
  refine wpAny_bind (wpAny_pure ?_)
  refine wpAny_holding ?_
  refine bm_if_false rfl ?_
  refine wpAny_bind (wpAny_mono h₁ (fun d s₂ h₂ => ?_) fun _ _ x => x)
  refine wpAny_bind (wpAny_pure ?_)
  exact wpAny_bind (wpAny_holding (wpAny_mono h₂ (fun kv s₃ h₃ => wpAny_pure h₃) fun _ _ x => x))
theorem callWith_star {M : Model} {f : Value} {first : List Value} {pos : Pos} {P : Heap → Prop} {args : List (Bool × Sem Value)} {kws : List (Option Str × Sem Value)} {Q : Value → Shared → Prop} (hst : (args.any (·.1) || kws.any (·.1.isNone)) = true)
    (hk : ∀ h, P h → ∃ k, (k = Keeper.frame ∨ k = Keeper.machine ∨ k = Keeper.boundFrame) ∧ Looks M h (keeperOf f) k)
    (h : wpAny M A (evalArgs f true args kws) (fun a s₁ => P s₁.heap ∧ wpAny M A (call f (first ++ a.pos) a.kw) Q E s₁) E s) : wpAny M A (callWith pos f first args kws) Q E s := by
  unfold callWith
  refine wpAny_bind (wpAny_holding (wpAny_mono h (fun a s₁ h₁ => wpAny_bind (wpAny_standAt ?_)) fun _ _ x => x))
  obtain ⟨k, hk', L⟩ := hk _ h₁.1
  simp only [hst]
  refine wpAny_bind (L.here ?_)
  have tail : ∀ {t : Sem Value}, wpAny M A t Q E s₁ → wpAny M A (t >>= fun r => holding [r] point >>= fun _ => pure r) Q E s₁ :=
    fun ht => wpAny_bind (wpAny_mono ht (fun r s₂ hr => wpAny_bind (wpAny_holding (wpAny_point (wpAny_pure hr)))) fun _ _ x => x)
  rcases hk' with rfl | rfl | rfl <;> dsimp only <;> first | exact tail (wpAny_operating h₁.2) | (refine tail ?_; unfold callMarked; exact Calls.wpAny_keep h₁.2)
end
section
variable {prog : Program} {hb : Heap} {C : Cx} {n : Nat} {env : Env} {ρ : Rho} {σ σ₁ σ₂ σ₃ : Store}
theorem bound_get {K : Frag} {FA : String → Option Addr} {A : Around} {s : Shared} {φ : List Addr} {g : Part} {E : Value → Shared → Prop} {k : Nat} {v : Value} {m : String} {fa : Addr} {expr : Bool} {Q : Value → Shared → Prop} (hC : ClsOK K hb C.c FA) (hf : FA ("Headers." ++ m) = some fa)
    (S : Sim hb C φ σ g s.heap) (hv : VR g φ v (.own k)) (hi : isInst σ k = true) (q : Q (.ref s.heap.objs.size) { s with heap := s.heap.push (methodObj (.ref fa) v), toks := s.toks + 1 }) : wpAny (model prog C.w) A (getAttr v (Str.ofString m) expr) Q E s := by
  obtain ⟨x, dx, es, n, rfl, I, hn⟩ := inst_at S hv hi
  obtain ⟨m1, m2, m3⟩ := hC.meth m fa hf
  obtain ⟨b1, b2, b3, b4⟩ := hC.bnd m fa hf
  exact get_bind (hC.kin.keeps S.hbk) I hC.ga (findObj_fn hC.hasD m1 b1 b2 b3 (by show lookIn _ (dictOf es n) = _; rw [lookIn_dict, hn _ m3])) hC.gattr
    (wpAny_call (fn_get (s := { s with toks := s.toks + 1 }) (hC.kin.keeps S.hbk) m2 (handed_on rfl q)))
theorem pair_objs {h : Heap} {φ : List Addr} {g : Part} (hk : ∀ a o, g a = some o → h.get? a = some o) : ∀ {ps : List V} {vs : List Value} {kv : List (List Nat × V)}, VRs g φ vs ps → pairsOf ps = some kv → ∃ kvs, PairObjs h vs kvs ∧ KRs g φ kvs kv
  | [], vs, kv, hv, e => by cases hv.inv0; cases e; exact ⟨[], .nil, KRs.nil⟩
  | p :: r, vs, kv, hv, e => by
    obtain ⟨v, ws, rfl, h1, h2⟩ := hv.inv
    obtain ⟨us, rfl, e1⟩ := tupK_inv (show tupK p _ = some kv from e)
    obtain ⟨x, y, rfl, e2⟩ := two2_inv e1
    obtain ⟨z, rfl, e3⟩ := strK_inv e2
    obtain ⟨kv', e4, rfl⟩ := Option.map_eq_some_iff.mp e3
    obtain ⟨a, o, ts, n, rfl, g1, g2, g3, g4⟩ := h1.ofTup
    obtain ⟨u1, u2, rfl, q1, q2⟩ := g4.inv2
    obtain ⟨t, rfl⟩ := q1.ofStr
    obtain ⟨kvs, i1, i2, i3⟩ := pair_objs hk h2 e4
    exact ⟨(strV z, u2) :: kvs, .cons (hk _ _ g1) g2 g3 i1, by rw [List.map_cons, List.map_cons, i2], .cons q2 i3⟩
theorem dict_run {A : Around} {s : Shared} {φ : List Addr} {g : Part} {E : Value → Shared → Prop} {mg mb : Str → Option Value} {pn pd : Pos} {es : List Expr} {y : V} {ps : List V} {kv : List (List Nat × V)} {Q : Value → Shared → Prop}
    (hg : hb.Ns mainGlobals mg) (hbl : hb.Ns builtinsNs mb) (hx : env.kindOf (Str.ofString "dict") = some .globalImplicit) (hm : mg (Str.ofString "dict") = none) (hb' : mb (Str.ofString "dict") = some (.type "dict")) (hdb : (Str.ofString "dict" == ("__debug__" : Str)) = false)
    (c : EvsOK prog hb C n env ρ σ es [y] σ₁) (hst : es.all notStar = true) (hl : lstOf σ₁ y = some ps) (hp : pairsOf ps = some kv) (hz : kv.length ≤ 1000) (hn : (kv.map (·.1)).Nodup) (hA : Rm n A s.toks) (S : Sim hb C φ σ g s.heap) (R : ER hb φ g s.heap env ρ)
    (q : ∀ s' φ' g' h' tk kvs, Rm n A s'.toks → Grow φ g s.heap φ' g' s'.heap → Sim hb C φ' σ₁ g' s'.heap → Rest s s' → KRs g' φ' kvs kv → (∀ b o, s'.heap.get? b = some o → h'.get? b = some o) → h'.DictOf (PySem.strKind prog C.w) s'.heap.objs.size kvs →
      Q (.ref s'.heap.objs.size) { s' with heap := h', toks := tk }) :
    wpAny (model prog C.w) A (eval (.Call (.Name (Str.ofString "dict") pn) es [] pd) env) Q E s := by
  refine wpAny_Call_Name_kw (name_blt hg hbl hx hm hb' hdb S R ?_)
  refine callWith_mach rfl hst (args_run c evk_nil (show kwIs [] [] from rfl) (stars_head hst) hA S R fun x s₂ φ₂ g₂ hA G₂ S₂ T₂ V₂ K₂ => ?_)
  have hk : x.kw = [] := by have := K₂.1; simpa using this
  rw [hk, List.nil_append]
  obtain ⟨v, hv, V₃⟩ := V₂.inv1
  rw [hv]
  obtain ⟨a, o, vs, m, rfl, ho, hc, hd, hdn, hr⟩ := lst_plain S₂ V₃ hl
  obtain ⟨kvs, hpo, hkr⟩ := pair_objs S₂.keep hr hp
  have hlen : kvs.length = kv.length := by have := congrArg List.length hkr.1; rwa [List.length_map, List.length_map] at this
  refine dict_pairs hA.handled ho hc hd hdn hpo ?_ (by omega) fun h' tk hk hdo => q s₂ φ₂ g₂ h' tk kvs hA G₂ S₂ T₂ hkr hk hdo
  rw [hkr.1]
  have : (kv.map fun p => strV p.1) = (kv.map (·.1)).map strV := by rw [List.map_map]; rfl
  rw [this]
  exact List.pairwise_map.mpr (hn.imp fun h q => h (strV_inj' q))
theorem methD_form {A : Around} {s : Shared} {E : Value → Shared → Prop} {o e0 de : Expr} {name : Str} {apos pos kp : Pos} {es : List Expr} {Q : Value → Shared → Prop} (hbase : baseOk o = true) (hst : (e0 :: es).all notStar = true)
    (h : wpAny (model prog C.w) A (eval o env) (fun ov s₁ => wpAny (model prog C.w) A (getAttr ov name true) (fun f s₂ => wpAny (model prog C.w) A (callWith pos f [] (backTo pos (starEach (e0 :: es) env)) [(none, (do let v ← eval de env; standAt pos; pure v))]) Q E s₂) E s₁) E s) :
    wpAny (model prog C.w) A (eval (.Call (.Attribute o name apos) (e0 :: es) [⟨none, de, kp⟩] pos) env) Q E s := by
  rw [arm_eval_Call, base_eq hbase]
  refine wpAny_bind (wpAny_mono h (fun ov s₁ h₁ => wpAny_bind (wpAny_standAt ?_)) fun _ _ x => x)
  have hform : methodCallForm ((e0 :: es).length + [(⟨none, de, kp⟩ : Keyword)].length) (backTo pos (starEach (e0 :: es) env)) (backToKw pos (keywordEach [⟨none, de, kp⟩] env)) = false := by
    unfold methodCallForm
    show (_ && false && _) = false
    rw [Bool.and_false, Bool.false_and]
  unfold methodCall
  rw [hform]
  unfold calleeOf methodCallPos
  simp only [Bool.false_eq_true, if_false, Bool.not_false, Bool.true_or, if_true]
  exact wpAny_bind (wpAny_holding (wpAny_bind (wpAny_mono h₁ (fun fx s₂ h₂ => wpAny_pure (wpAny_bind (wpAny_pure h₂))) fun _ _ x => x)))
end
end Mine

namespace Mine

section
variable {prog : Program} {hb : Heap} {C : Cx} {n : Nat} {env : Env} {ρ : Rho} {σ σ₁ σ₂ σ₃ σ₄ : Store}
theorem fresh_mods {φ : List Addr} {g : Part} {h : Heap} (S : Sim hb C φ σ g h) (hbig : ∃ a o, hb.get? a = some o ∧ sysModules < a) : sysModules < h.objs.size := by
  obtain ⟨a, o, ha, hl⟩ := hbig
  exact Nat.lt_trans hl (Heap.lt_size (S.hbk a o ha))
theorem Grow.out {φ φ' : List Addr} {g g' : Part} {h h' h'' : Heap} {d : Addr} (G : Grow φ g h φ' g' h') (hn : h.get? d = none) (hk : ∀ b o, b ≠ d → h'.get? b = some o → h''.get? b = some o) : Grow φ g h φ' g' h'' :=
  have ne : ∀ {a o}, h.get? a = some o → a ≠ d := fun e w => by rw [w, hn] at e; cases e
  ⟨G.pre, G.mono, G.newg, G.newf, fun a o e m => hk a o (ne e) (G.keep a o e m), fun a o e => let ⟨o', e'⟩ := G.dom a o e; ⟨o', hk a o' (ne e) e'⟩⟩
theorem Grow.new {φ φ' : List Addr} {g g' : Part} {h h' : Heap} {d : Addr} {o : Obj} (G : Grow φ g h φ' g' h') (e : h.get? d = some o) (h1 : d ∉ φ) (h2 : g d = none) : d ∉ φ' ∧ g' d = none := by
  refine ⟨fun m => ?_, ?_⟩
  · rcases G.newf d m with q | q
    · exact h1 q
    · rw [e] at q; cases q
  · cases q : g' d with
    | none => rfl
    | some x =>
      rcases G.newg d x q with q | q
      · rw [h2] at q; cases q
      · rw [e] at q; cases q
theorem argsD_run {A : Around} {s : Shared} {φ : List Addr} {g : Part} {E : Value → Shared → Prop} {f : Value} {e0 : Expr} {pos pn pd : Pos} {es des : List Expr} {y : V} {ds ps : List V} {kv : List (List Nat × V)} {mg mb : Str → Option Value} {Q : Args → Shared → Prop}
    (hg : hb.Ns mainGlobals mg) (hbl : hb.Ns builtinsNs mb) (hx : env.kindOf (Str.ofString "dict") = some .globalImplicit) (hm : mg (Str.ofString "dict") = none) (hb' : mb (Str.ofString "dict") = some (.type "dict")) (hbig : ∃ a o, hb.get? a = some o ∧ sysModules < a)
    (hst : notStar e0 = true) (hdst : des.all notStar = true) (b : EvsOK prog hb C n env ρ σ (e0 :: es) ds σ₁) (c : EvsOK prog hb C n env ρ σ₁ des [y] σ₂)
    (hl : lstOf σ₂ y = some ps) (hp : pairsOf ps = some kv) (hz : kv.length ≤ 1000) (hn : (kv.map (·.1)).Nodup) (hA : Rm n A s.toks) (S : Sim hb C φ σ g s.heap) (R : ER hb φ g s.heap env ρ)
    (q : ∀ x s' φ' g', Rm n A s'.toks → Grow φ g s.heap φ' g' s'.heap → Sim hb C φ' σ₂ g' s'.heap → Rest s s' → VRs g' φ' x.pos ds → KRs g' φ' x.kw kv → Q x s') :
    wpAny (model prog C.w) A (evalArgs f true (backTo pos (starEach (e0 :: es) env)) [(none, (do let v ← eval (.Call (.Name (Str.ofString "dict") pn) des [] pd) env; standAt pos; pure v))]) Q E s := by
  have b' := b A s φ g E pos hA S R
  rw [star_cons (notStar_ne hst)] at b' ⊢
  refine go hA (Q := fun x s' => ∃ φ' g', Grow φ g s.heap φ' g' s'.heap ∧ Sim hb C φ' σ₂ g' s'.heap ∧ Rest s s' ∧ VRs g' φ' x.pos ds ∧ KRs g' φ' x.kw kv) (evalArgs_map (go hA b' (fun vs s₃ hA h₃ => ?_))) fun x s' hA ⟨φ', g', h1, h2, h3, h4, h5⟩ => q x s' φ' g' hA h1 h2 h3 h4 h5
  obtain ⟨φ₃, g₃, G₃, S₃, V₃, T₃⟩ := h₃
  refine merged_one ?_
  have k₄ : ∀ b o, s₃.heap.get? b = some o → (s₃.heap.push { cls := .type "dict", data := .dict #[] }).get? b = some o := fun b o e => Heap.get?_push_of_some _ e
  have D₄ : (s₃.heap.push { cls := .type "dict", data := .dict #[] }).DictOf (PySem.strKind prog C.w) s₃.heap.objs.size [] := Heap.DictOf.new s₃.heap
  have nf₃ := fresh_none s₃.heap
  generalize s₃.heap.objs.size = dq at D₄ nf₃ ⊢
  generalize s₃.heap.push { cls := .type "dict", data := .dict #[] } = h₄ at k₄ D₄ ⊢
  have G₄ := G₃.trans (Grow.same k₄)
  refine wpAny_bind (dict_run (s := { s₃ with heap := h₄ }) hg hbl hx hm hb' (by decide +kernel) c hdst hl hp hz hn hA (S₃.all k₄) (R.grow G₄) fun s₅ φ₅ g₅ h₅ tk kvs hA G₅ S₅ T₅ K₅ k₅ D₅ => wpAny_bind (wpAny_standAt (wpAny_pure ?_)))
  obtain ⟨od, es', ep, hod, r⟩ := D₄
  obtain ⟨n1, n2⟩ := G₅.new hod (S₃.fresh_f nf₃) (S₃.fresh_g nf₃)
  have hod₅ := G₅.keep _ _ hod (S₃.fresh_f nf₃)
  refine ⟨_, kvs, rfl, D₅, beq_eq_false_iff_ne.mpr (Nat.ne_of_gt (fresh_mods S₅ hbig)), Nat.ne_of_lt (Heap.lt_size hod₅), ⟨od, es', ep, k₅ _ _ hod₅, r⟩, ?_, fun h₆ D₆ he₆ => ?_⟩
  · have := congrArg List.length K₅.1
    rw [List.length_map, List.length_map] at this
    omega
  · refine keywords_in D₆ ⟨φ₅, g₅, ((Grow.same k₄).trans G₅).out nf₃ (fun b o hb e => he₆ b o hb (k₅ b o e)) |> G₃.trans, S₅.keeps fun b o e m => he₆ b o ?_ (k₅ b o e), T₃.trans ?_, V₃.mono G₅.mono G₅.pre, K₅⟩
    · rintro rfl
      rcases m with m | m
      · exact n1 m
      · rw [n2] at m; cases m
    · obtain ⟨h', t', rfl⟩ := T₅
      exact ⟨_, _, rfl⟩
theorem methD_ok {K : Frag} {O : Orc} {FA : String → Option Addr} {m : String} {fa : Addr} {o e0 : Expr} {apos pos kp pn pd : Pos} {es des : List Expr} {k : Nat} {d y : V} {ds ps : List V} {kv : List (List Nat × V)} {mg mb : Str → Option Value} (hC : ClsOK K hb C.c FA) (hO : CallOK prog hb C FA n O) (hf : FA ("Headers." ++ m) = some fa)
    (hg : hb.Ns mainGlobals mg) (hbl : hb.Ns builtinsNs mb) (hx : env.kindOf (Str.ofString "dict") = some .globalImplicit) (hm : mg (Str.ofString "dict") = none) (hb' : mb (Str.ofString "dict") = some (.type "dict")) (hbig : ∃ a o, hb.get? a = some o ∧ sysModules < a)
    (hbase : baseOk o = true) (hst : (e0 :: es).all notStar = true) (hdst : des.all notStar = true)
    (a : EvOK prog hb C n env ρ σ o (.own k) σ₁) (hi : isInst σ₁ k = true) (b : EvsOK prog hb C n env ρ σ₁ (e0 :: es) ds σ₂) (c : EvsOK prog hb C n env ρ σ₂ des [y] σ₃)
    (hl : lstOf σ₃ y = some ps) (hp : pairsOf ps = some kv) (hz : kv.length ≤ 1000) (hn : (kv.map (·.1)).Nodup) (e : O ("Headers." ++ m) (.own k :: ds) kv σ₃ = some (d, σ₄)) :
    EvOK prog hb C n env ρ σ (.Call (.Attribute o (Str.ofString m) apos) (e0 :: es) [⟨none, .Call (.Name (Str.ofString "dict") pn) des [] pd, kp⟩] pos) d σ₄ := by
  intro A s φ g E hA S R
  obtain ⟨-, -, -, hfn⟩ := hC.bnd m fa hf
  refine methD_form hbase hst (go hA (a A s φ g E hA S R) (fun v s₁ hA h₁ => ?_))
  obtain ⟨φ₁, g₁, G₁, S₁, V₁, T₁⟩ := h₁
  refine bound_get hC hf S₁ V₁ hi ?_
  have k₂ : ∀ b o, s₁.heap.get? b = some o → (s₁.heap.push (methodObj (.ref fa) v)).get? b = some o := fun b o e => Heap.get?_push_of_some _ e
  have N : (s₁.heap.push (methodObj (.ref fa) v)).get? s₁.heap.objs.size = some (methodObj (.ref fa) v) := Heap.get?_push_size _ rfl
  have nq := S₁.fresh_f (fresh_none s₁.heap)
  generalize s₁.heap.objs.size = q at N nq
  generalize s₁.heap.push (methodObj (.ref fa) v) = h₂ at k₂ N
  have G₂ : Grow φ g s.heap φ₁ g₁ h₂ := G₁.trans (Grow.same k₂)
  refine callWith_star (P := MethP K q fa v) (by rw [List.any_cons]; exact Bool.or_true _) (keeps_M hfn) ?_
  refine argsD_run (s := { s₁ with heap := h₂, toks := s₁.toks + 1 }) hg hbl hx hm hb' hbig (by rw [List.all_cons, Bool.and_eq_true] at hst; exact hst.1) hdst b c hl hp hz hn (hA.up (Nat.le_succ _)) (S₁.all k₂) (R.grow G₂) fun x s₃ φ₃ g₃ hA G₃ S₃ T₃ V₃ K₃ => ?_
  have N₃ := G₃.keep _ _ N nq
  refine ⟨⟨N₃, hC.kin.keeps S₃.hbk⟩, wpAny_call (method_call N₃ (codeAny_mono (hO _ fa _ _ _ d σ₄ hf e A s₃ φ₃ g₃ (v :: x.pos) x.kw hA.rc S₃ (.cons (V₁.mono G₃.mono G₃.pre) V₃) K₃) fun r s' z => ?_))⟩
  rcases r with e | (v | _ | _ | _) <;> first | exact z.elim | skip
  obtain ⟨h', t', rfl⟩ := T₁
  exact Post.trans (G₂.trans G₃) (Rest.trans ⟨_, _, rfl⟩ T₃) z
end
end Mine

namespace Mine

theorem pre_cut {φ φ' : List Addr} (hp : φ <+: φ') {k : Nat} {a : Addr} (h : φ'[k]? = some a) (u : decide (k < φ.length) = true) : φ[k]? = some a := by
  obtain ⟨t, rfl⟩ := hp
  rwa [List.getElem?_append_left (of_decide_eq_true u)] at h
section
variable {prog : Program} {hb : Heap} {C : Cx} {n : Nat} {φ φ' : List Addr} {g : Part}

mutual
theorem VR.cut {φ φ' : List Addr} {g : Part} (hp : φ <+: φ') : ∀ {d : V} {v : Value}, VR g φ' v d → d.under φ.length = true → VR g φ v d
  | .none, _, h, _ => h
  | .bool _, _, h, _ => h
  | .int _, _, h, _ => h
  | .str _, _, h, _ => h
  | .tuple _, _, h, u => let ⟨a, o, vs, n, e, h1, h2, h3, h4⟩ := h; ⟨a, o, vs, n, e, h1, h2, h3, VRs.cut hp h4 u⟩
  | .list _, _, h, u => let ⟨a, o, vs, n, e, h1, h2, h3, h5, h4⟩ := h; ⟨a, o, vs, n, e, h1, h2, h3, h5, VRs.cut hp h4 u⟩
  | .own _, _, h, u => let ⟨a, e, h⟩ := h; ⟨a, e, pre_cut hp h u⟩
  | .gl _, _, h, _ => h
  | .ty _, _, h, _ => h
  | .rng _, _, h, _ => h
  | .items _, _, h, u => let ⟨a, r, e, h, h2⟩ := h; ⟨a, r, e, pre_cut hp h u, h2⟩
  | .bytes _, _, h, _ => h
theorem VRs.cut {φ φ' : List Addr} {g : Part} (hp : φ <+: φ') : ∀ {ds : List V} {vs : List Value}, VRs g φ' vs ds → V.unders φ.length ds = true → VRs g φ vs ds
  | [], _, h, _ => h
  | d :: ds, _, h, u => let ⟨v, ws, e, h1, h2⟩ := h; let ⟨u1, u2⟩ := and2 (show (d.under φ.length && V.unders φ.length ds) = true from u); ⟨v, ws, e, VR.cut hp h1 u1, VRs.cut hp h2 u2⟩
end
theorem unders_of {n : Nat} : ∀ {es : List (List Nat × V)}, (es.all fun p => p.2.under n) = true → V.unders n (es.map (·.2)) = true
  | [], _ => rfl
  | p :: r, h => by
    rw [List.all_cons, Bool.and_eq_true] at h
    show (p.2.under n && V.unders n (r.map (·.2))) = true
    rw [h.1, unders_of h.2]; rfl
theorem OR.cut {h : Heap} {a : Addr} (hp : φ <+: φ') {o : OObj} (r : OR C g φ' h a o) (u : o.under φ.length = true) : OR C g φ h a o := by
  cases o with
  | lst _ => obtain ⟨vs, h1, h2⟩ := r; exact ⟨vs, h1, h2.cut hp u⟩
  | inst d => obtain ⟨dx, h1, h2⟩ := r; exact ⟨dx, pre_cut hp h1 u, h2⟩
  | attrs x => cases x with
    | none => exact r
    | some _ => obtain ⟨x, t, v, k, h1, h2⟩ := r; exact ⟨x, t, v, k, h1, h2.cut hp u⟩
  | dct _ => obtain ⟨h1, h2, l, h3, h4, h5⟩ := r; exact ⟨h1, h2, l, h3, h4, h5.cut hp (unders_of u)⟩

theorem Sim.cut {h : Heap} {τ : Store} (S : Sim hb C φ' τ g h) (hp : φ <+: φ') (hu : (τ.take φ.length).all (OObj.under φ.length) = true) : Sim hb C φ (τ.take φ.length) g h := by
  have hl : φ.length ≤ φ'.length := hp.length_le
  refine ⟨S.base, S.keep, by rw [List.length_take, ← S.len, Nat.min_eq_left hl], fun a m => S.off a (hp.subset m), fun k a o e1 e2 => ?_, ?_⟩
  · have hk : k < φ.length := (List.getElem?_eq_some_iff.mp e1).1
    have e2' : τ[k]? = some o := by rwa [List.getElem?_take_of_lt hk] at e2
    exact (S.own k a o (pre_get hp e1) e2').cut hp (List.all_eq_true.mp hu o (List.mem_of_getElem? e2))
  · exact List.Nodup.sublist hp.sublist S.nodup

noncomputable def adG (g : Part) (l : List Addr) (h : Heap) : Part := fun b => if b ∈ l then h.get? b else g b
theorem adG_mono {h : Heap} {l : List Addr} (hl : ∀ a ∈ l, g a = none) (a : Addr) (o : Obj) (e : g a = some o) : adG g l h a = some o := by
  unfold adG
  rw [if_neg fun m => by rw [hl a m] at e; cases e]
  exact e
theorem mapM_vrs {f : V → Option V} {g' : Part} {φ₂ : List Addr} (ih : ∀ v d d', VR g φ v d → f d = some d' → VR g' φ₂ v d') : ∀ {ds : List V} {vs : List Value} {es : List V}, VRs g φ vs ds → ds.mapM f = some es → VRs g' φ₂ vs es
  | [], vs, es, h, e => by cases h.inv0; cases e; exact .nil
  | d :: r, vs, es, h, e => by
    obtain ⟨v, ws, rfl, h1, h2⟩ := h.inv
    rw [List.mapM_cons] at e
    obtain ⟨d', e1, e2⟩ := Option.bind_eq_some_iff.mp e
    obtain ⟨es', e3, e4⟩ := Option.bind_eq_some_iff.mp e2
    cases e4
    exact .cons (ih _ _ _ h1 e1) (mapM_vrs ih h2 e3)
theorem frz_vr {h' : Heap} {τ : Store} {l : List Addr} (S : Sim hb C φ' τ g h') (hp : φ <+: φ') (hl : ∀ a ∈ l, g a = none) (hd : ∀ k a, φ'[k]? = some a → ¬ k < φ.length → a ∈ l) : ∀ (f : Nat) (v : Value) (d d' : V), VR g φ' v d → frz φ.length τ f d = some d' → VR (adG g l h') φ v d'
  | 0, _, _, _, _, e => by cases e
  | f + 1, v, d, d', hv, e => by
    have ih := fun {ds vs es} => mapM_vrs (ds := ds) (vs := vs) (es := es) (frz_vr S hp hl hd f)
    have leaf : d.under φ.length = true → some d = some d' → VR (adG g l h') φ v d' := fun u q => by
      cases q; exact (hv.cut hp u).mono (adG_mono hl) (List.prefix_refl _)
    cases d with
    | own k =>
      have e : (if k < φ.length then some (V.own k) else lstK τ k fun vs => (vs.mapM (frz φ.length τ f)).map .list) = some d' := e
      split at e
      · rename_i hk; exact leaf (decide_eq_true hk) e
      · rename_i hk
        obtain ⟨vs, q, e1⟩ := lstK_inv e
        obtain ⟨es, e2, rfl⟩ := Option.map_eq_some_iff.mp e1
        obtain ⟨a, rfl, ha⟩ := hv.ofOwn
        obtain ⟨us, ⟨m, ho⟩, hr⟩ := S.own _ _ _ ha q
        exact .list (by unfold adG; rw [if_pos (hd _ _ ha hk)]; exact ho) rfl rfl rfl (ih hr e2)
    | tuple vs =>
      obtain ⟨es, e2, rfl⟩ := Option.map_eq_some_iff.mp (show (vs.mapM (frz φ.length τ f)).map V.tuple = some d' from e)
      obtain ⟨a, o, ws, n, rfl, h1, h2, h3, h4⟩ := hv.ofTup
      exact .tuple (adG_mono hl _ _ h1) h2 h3 (ih h4 e2)
    | list vs =>
      obtain ⟨es, e2, rfl⟩ := Option.map_eq_some_iff.mp (show (vs.mapM (frz φ.length τ f)).map V.list = some d' from e)
      obtain ⟨a, o, ws, n, rfl, h1, h2, h3, h4, h5⟩ := hv.ofList
      exact .list (adG_mono hl _ _ h1) h2 h3 h4 (ih h5 e2)
    | items k =>
      have e : (if k < φ.length then some (V.items k) else none) = some d' := e
      split at e
      · rename_i hk; exact leaf (decide_eq_true hk) e
      · cases e
    | _ => exact leaf rfl e
theorem fin_sound {h₀ h' : Heap} {g' : Part} {τ τ' : Store} {d d' : V} {v : Value} (G : Grow φ g h₀ φ' g' h') (S : Sim hb C φ' τ g' h') (hv : VR g' φ' v d) (e : fin φ.length d τ = (d', τ')) :
    ∃ φ'' g'', Grow φ g h₀ φ'' g'' h' ∧ Sim hb C φ'' τ' g'' h' ∧ VR g'' φ'' v d' := by
  have stay : (d, τ) = (d', τ') → ∃ φ'' g'', Grow φ g h₀ φ'' g'' h' ∧ Sim hb C φ'' τ' g'' h' ∧ VR g'' φ'' v d' := fun q => by cases q; exact ⟨φ', g', G, S, hv⟩
  unfold fin at e
  split at e
  · rename_i hu
    split at e
    · rename_i x q
      cases e
      obtain ⟨t, rfl⟩ := G.pre
      have hn := List.nodup_append.mp S.nodup
      have hg : ∀ a ∈ t, g' a = none := fun a m => S.off a (List.mem_append_right _ m)
      have hof : ∀ a ∈ t, a ∉ φ := fun a m m' => hn.2.2 a m' a m rfl
      have S0 := S.cut (List.prefix_append φ t) hu
      refine ⟨φ, adG g' t h', ⟨List.prefix_refl _, fun a o e => adG_mono hg a o (G.mono a o e), fun a o e => ?_, fun _ m => .inl m, G.keep, G.dom⟩,
        ⟨fun a o e => adG_mono hg a o (S.base a o e), fun a o e => ?_, S0.len, fun a m => ?_, fun k a o e1 e2 => (S0.own k a o e1 e2).grow (adG_mono hg) (List.prefix_refl _) fun _ e => e, hn.1⟩,
        frz_vr S (List.prefix_append φ t) hg (fun k a e hk => ?_) 6 v d _ hv q⟩
      · unfold adG at e
        split at e
        · rename_i m
          exact (G.newf a (List.mem_append_right _ m)).elim (fun m' => absurd m' (hof a m)) .inr
        · exact G.newg a o e
      · unfold adG at e
        split at e
        · exact e
        · exact S.keep a o e
      · unfold adG
        rw [if_neg fun m' => hof a m' m]
        exact S0.off a m
      · rw [List.getElem?_append_right (Nat.le_of_not_lt hk)] at e
        exact List.mem_of_getElem? e
    · exact stay e
  · exact stay e

noncomputable def BR (g : Part) (φ : List Addr) (binds : List (Str × Value)) (ρ : Rho) : Prop :=
  ∃ (ps : List (String × V)) (rest : List String), binds.map (·.1) = ps.map (fun p => Str.ofString p.1) ∧ VRs g φ (binds.map (·.2)) (ps.map (·.2)) ∧ ρ = ps.map (fun p => (p.1, some p.2)) ++ rest.map (fun x => (x, none)) ∧ (ps.map (·.1)).Nodup

theorem bindL_miss {kf : Str → Option NameKind} {x : Str} : ∀ {binds : List (Str × Value)} {m : Str → Option Value}, x ∉ binds.map (·.1) → bindL kf binds m x = m x
  | [], _, _ => rfl
  | (k, v) :: r, m, h => by
    simp only [List.map_cons, List.mem_cons, not_or] at h
    unfold bindL
    rw [bindL_miss h.2]
    split
    · exact if_neg h.1
    · rfl
theorem bindC_miss {kf : Str → Option NameKind} {x : Str} : ∀ {binds : List (Str × Value)} {m : Str → Option Value}, x ∉ binds.map (·.1) → bindC kf binds m x = m x
  | [], _, _ => rfl
  | (k, v) :: r, m, h => by
    simp only [List.map_cons, List.mem_cons, not_or] at h
    unfold bindC
    rw [bindC_miss h.2]
    split
    · rfl
    · exact if_neg h.1

theorem bound_at {kf : Str → Option NameKind} : ∀ {binds : List (Str × Value)} {ps : List (String × V)} {x : String} {d : V} {m cm : Str → Option Value}, binds.map (·.1) = ps.map (fun p => Str.ofString p.1) → VRs g φ (binds.map (·.2)) (ps.map (·.2)) → (ps.map (·.1)).Nodup → ps.lookup x = some d →
    ∃ v, VR g φ v d ∧ (kf (Str.ofString x) = some .local → bindL kf binds m (Str.ofString x) = some v) ∧ (kf (Str.ofString x) ≠ some .local → bindC kf binds cm (Str.ofString x) = some v)
  | [], [], _, _, _, _, _, _, _, h => by cases h
  | [], _ :: _, _, _, _, _, h, _, _, _ => by cases h
  | _ :: _, [], _, _, _, _, h, _, _, _ => by cases h
  | (k, v) :: r, (y, d') :: ps, x, d, m, cm, h1, h2, h3, h4 => by
    simp only [List.map_cons, List.cons.injEq] at h1
    obtain ⟨v', ws, hw, hv, hr⟩ := h2.inv
    simp only [List.map_cons, List.cons.injEq] at hw
    obtain ⟨rfl, rfl⟩ := hw
    rw [List.map_cons, List.nodup_cons] at h3
    rw [List.lookup_cons] at h4
    by_cases hxy : (x == y) = true
    · rw [hxy] at h4; cases h4
      have hx := beq_iff_eq.mp hxy
      subst hx
      have miss : Str.ofString x ∉ r.map (·.1) := by
        rw [h1.2]
        intro q
        obtain ⟨p, hp, e⟩ := List.mem_map.mp q
        exact h3.1 (List.mem_map.mpr ⟨p, hp, ofString_inj e⟩)
      refine ⟨v, hv, fun hk => ?_, fun hk => ?_⟩
      · unfold bindL
        rw [bindL_miss miss, h1.1, if_pos hk, if_pos rfl]
      · unfold bindC
        rw [bindC_miss miss, h1.1, if_neg hk, if_pos rfl]
    · rw [Bool.not_eq_true] at hxy
      rw [hxy] at h4
      unfold bindL bindC
      exact bound_at h1.2 hr h3.2 h4
end
end Mine

namespace Mine

section
variable {prog : Program} {hb : Heap} {C : Cx} {n : Nat} {φ φ' : List Addr} {g : Part}

theorem look_ps {ps : List (String × V)} {rest : List String} {x : String} {d : V} (h : look (ps.map (fun p => (p.1, some p.2)) ++ rest.map (fun x => (x, none))) x = some d) : ps.lookup x = some d := by
  induction ps with
  | nil =>
    exfalso
    rw [List.map_nil, List.nil_append] at h
    induction rest with
    | nil => cases h
    | cons y r ih =>
      unfold look at h ih
      rw [List.map_cons, List.lookup_cons] at h
      cases hxy : (x == y) with
      | true => rw [hxy] at h; cases h
      | false => rw [hxy] at h; exact ih h
  | cons p r ih =>
    unfold look at h ih
    rw [List.map_cons, List.cons_append, List.lookup_cons] at h
    rw [List.lookup_cons]
    cases hxy : (x == p.1) with
    | true => rw [hxy] at h; exact h
    | false => rw [hxy] at h; exact ih h

theorem frame_er {s₁ s₂ : Shared} {env : Env} {ρ : Rho} {τ : Store} {binds : List (Str × Value)} (hk : env.scope.kind = .function) (hg : env.globals = mainGlobals) (hbl : env.builtins = builtinsNs) (hL : env.locals = s₁.heap.objs.size)
    (hcs : env.cells = cellsFrom (s₁.heap.objs.size + 1) env.scope.names []) (hnf : ∀ x ∈ env.scope.names, x.2 ≠ .free) (x : InCallC s₁ env.locals (bindL env.kindOf binds fun _ => none) env.cells (bindC env.kindOf binds fun _ => none) s₂)
    (S : Sim hb C φ τ g s₁.heap) (B : BR g φ binds ρ) : ER hb φ g s₂.heap env ρ := by
  have hfresh : ∀ a, s₁.heap.objs.size ≤ a → s₁.heap.get? a = none := fun a ha => Heap.get?_none_of_le ha
  have nofree : ∀ m, env.kindOf m ≠ some .free := fun m q => hnf _ (mem_of_lookup q) rfl
  have hascell : ∀ m, env.kindOf m = some .cell → ∃ c, env.cells.lookup m = some c := fun m q => by
    rw [hcs]; exact Option.isSome_iff_exists.mp (cellsFrom_some _ _ _ (.inl q))
  refine ⟨hk, hg, hbl, ⟨_, x.toInCall.ns⟩, ⟨S.fresh_f (hfresh _ (by rw [hL]; exact Nat.le_refl _)), S.fresh_g (hfresh _ (by rw [hL]; exact Nat.le_refl _))⟩, fun m c e => ?_, fun m q => ?_, fun y d hy hv => ?_, fun m m' c e1 e2 => name_of_addr x.apart (mem_of_lookup e1) (mem_of_lookup e2)⟩
  · have hc := x.above m c (mem_of_lookup e)
    have hn := hfresh c (by rw [hL] at hc; exact Nat.le_of_lt hc)
    exact ⟨⟨_, x.cell m c e⟩, S.fresh_f hn, S.fresh_g hn, Nat.ne_of_gt hc⟩
  · rcases q with q | q
    · exact hascell m q
    · exact absurd q (nofree m)
  · obtain ⟨ps, rest, b1, b2, rfl, b4⟩ := B
    obtain ⟨v, hr, h1, h2⟩ := bound_at (kf := env.kindOf) (m := fun _ => none) (cm := fun _ => none) b1 b2 b4 (look_ps hy)
    refine ⟨v, ?_, hr⟩
    cases q : env.kindOf (Str.ofString y) with
    | none => rw [q] at hv; cases hv
    | some k =>
      rw [q] at hv
      cases k <;> first | (cases hv; done) | skip
      · exact .inl ⟨q, _, x.toInCall.ns, h1 q⟩
      · obtain ⟨c, hc⟩ := hascell _ q
        have := x.cell _ c hc
        rw [h2 (by rw [q]; decide)] at this
        exact .inr ⟨.inl q, c, hc, this⟩
      · exact absurd q (nofree _)

structure FnS (hb : Heap) (a : Addr) (fd : FuncData) (body : List Stmt) : Prop where
  obj : ∃ o, hb.get? a = some o ∧ o.data = .func fd
  co : fd.scope.isCoroutine = false
  gen : fd.scope.isGenerator = false
  body : fd.body = .stmts body
  code : hb.CodeRec fd.code fd.qualname
  clo : fd.closure = []
  glob : fd.globals = mainGlobals
  bl : fd.builtins = builtinsNs
  kind : fd.scope.kind = .function
  noFree : ∀ x ∈ fd.scope.names, x.2 ≠ .free

noncomputable def Fn.pad (fn : Fn) (args : List V) : List V := if args.length < fn.pos.length then args ++ fn.dfl.drop (fn.dfl.length - (fn.pos.length - args.length)) else args

noncomputable def BindOK (prog : Program) (hb : Heap) (C : Cx) (fd : FuncData) (fn : Fn) : Prop :=
  ∀ args kws σ ρ τ, fn.binds (fn.pad args) kws σ = some (ρ, τ) → ∀ A s φ g E vals kvs, Sim hb C φ σ g s.heap → VRs g φ vals args → KRs g φ kvs kws →
    wpAny (model prog C.w) A (bindArgs fd ⟨vals, kvs⟩) (fun binds s' => ∃ φ', Grow φ g s.heap φ' g s'.heap ∧ Sim hb C φ' τ g s'.heap ∧ BR g φ' binds ρ ∧ (∀ b ∈ binds, fd.scope.names.lookup b.1 = some .local ∨ fd.scope.names.lookup b.1 = some .cell) ∧ Rest s s') E s

theorem call_step {K : Cfg} {T : List (String × Fn)} {f : String} {fn : Fn} {a : Addr} {fd : FuncData} {body : List Stmt} (hlim : hb.NoLimit) (F : FnS hb a fd body) (B : BindOK prog hb C fd fn) (hT : T.lookup f = some fn)
    (hbody : ∀ ρ τ fl ρ' τ', execsM K (callM K T n) ρ τ fn.body = some (fl, ρ', τ') → ∀ env : Env, env.scope = fd.scope → ExsOK prog hb C n env ρ τ body fl ρ' τ') :
    ∀ args kws σ d σ', callM K T (n + 1) f args kws σ = some (d, σ') → ∀ A s φ g vals kvs, Rc (n + 1) A s.toks → Sim hb C φ σ g s.heap → VRs g φ vals args → KRs g φ kvs kws →
      codeAny (model prog C.w) A (.call (.ref a) ⟨vals, kvs⟩) (fun r s' => match r with | .ok (.ret v) => Post hb C φ g s σ' d v s' | _ => False) s := by
  intro args kws σ d σ' h A s φ g vals kvs hA S VV KV
  unfold callM at h
  rw [hT, Option.bind_some] at h
  obtain ⟨⟨ρ, τ⟩, k1, k2⟩ := Option.bind_eq_some_iff.mp h
  obtain ⟨⟨fl, ρ', τ'⟩, k3, k4⟩ := Option.bind_eq_some_iff.mp k2
  dsimp only at k3 k4
  obtain ⟨o, ho, hd⟩ := F.obj
  refine codeAny_call_function (by have := hA.depth; omega) (S.hbk a o ho) hd F.co F.gen F.body (F.code.keeps S.hbk) (wpAny_mono (wpAny_toks (B args kws σ ρ τ k1 A.in1 s φ g (fun _ _ => False) vals kvs S VV KV)) (fun binds s₁ q => ?_) fun _ _ e => e.2.elim)
  obtain ⟨le₁, φ₁, G₁, S₁, B₁, hkinds, T₁⟩ := q
  rw [F.clo]
  refine wpAny_with_toks le₁ (wpAny_newFunctionEnv_cells F.kind (fun x hx => (hkinds x hx).imp id fun e => ⟨e, cellsFrom_some _ _ _ (.inl e)⟩) fun env he s₂ X => fun le => ?_)
  have hA : Rc (n + 1) A s₂.toks := hA.up le
  have hk2 := X.toInCall.keep
  refine ⟨(hlim.keeps S₁.hbk).keeps hk2, codeAny_func ?_⟩
  have R₂ : ER hb φ₁ g s₂.heap env ρ := frame_er (by rw [he]; exact F.kind) (by rw [he]; exact F.glob) (by rw [he]; exact F.bl) (by rw [he]; rfl) (by rw [he]; rfl) (by rw [he]; exact F.noFree) X S₁ B₁
  have G₂ : Grow φ₁ g s₁.heap φ₁ g s₂.heap := Grow.same hk2
  refine go (hA.deeper env) (hbody ρ τ fl ρ' τ' k3 env (by rw [he]; rfl) (A.deeper env) s₂ φ₁ g _ (hA.deeper env) (S₁.all hk2) R₂) (fun fl' s₃ hA h₃ => ?_)
  obtain ⟨φ₃, g₃, G₃, S₃, R₃, T₃, F₃⟩ := h₃
  have nX : ∀ x, XF env x → s₁.heap.get? x = none := fun x hx => by
    have hl : env.locals = s₁.heap.objs.size := by rw [he]; rfl
    rcases hx with rfl | ⟨m, hm⟩
    · exact Heap.get?_none_of_le (by rw [hl]; exact Nat.le_refl _)
    · have := X.above m x (mem_of_lookup hm)
      exact Heap.get?_none_of_le (by rw [hl] at this; exact Nat.le_of_lt this)
  have G₄ : Grow φ₁ g s₁.heap φ₃ g₃ s₃.heap := (G₂.toX.trans G₃).plain nX
  have G₅ : Grow φ g s.heap φ₃ g₃ s₃.heap := G₁.trans G₄
  have T₅ : Rest s s₃ := by
    obtain ⟨h₂, tk, hs⟩ := X.toInCall.same
    exact T₁.trans (Rest.trans ⟨h₂, tk, rfl⟩ (by rw [hs] at T₃; exact T₃))
  have hlen : φ.length = σ.length := S.len
  have ends : ∀ {v : Value} {x : V}, VR g₃ φ₃ v x → fin σ.length x τ' = (d, σ') → Post hb C φ g s σ' d v s₃ := fun {v x} hv hfin => by
    have hfin' : fin φ.length x τ' = (d, σ') := by rw [hlen]; exact hfin
    obtain ⟨φ₆, g₆, G₆, S₆, V₆⟩ := fin_sound G₅ S₃ hv hfin'
    exact ⟨φ₆, g₆, G₆, S₆, V₆, T₅⟩
  cases fl with
  | next =>
    cases fl' <;> first | exact F₃.elim | skip
    exact ends .none (Option.some.inj k4)
  | ret x =>
    cases fl' <;> first | exact F₃.elim | skip
    exact ends F₃ (Option.some.inj k4)
end
end Mine

namespace Mine

structure Ctx where
  gl : List (String × Addr)
  fa : List (String × Addr)
  bi : List String
  ty : List String
  C : Addr

abbrev Ctx.FA (Γ : Ctx) (f : String) : Option Addr := Γ.fa.lookup f
abbrev Names := List (Str × NameKind)
noncomputable def relN (ns inner : Names) : Names := inner.map fun (n, k) => if (k == .free && ns.lookup n == some .cell) then (n, .cell) else (n, k)
noncomputable def compStatic (ns : Names) (scope : Scope) (own : List String) : Bool :=
  scope.kind == .function && scope.names.all fun x => x.2 != .cell && scope.names.lookup x.1 == some x.2 && (x.2 != .local || own.any fun y => x.1 == Str.ofString y) && (x.2 != .free || ns.lookup x.1 == some .cell || ns.lookup x.1 == some .free)
noncomputable def gname (ns : Names) (id : Str) (x : String) : Bool := id == Str.ofString x && ns.lookup id == some .globalImplicit && !(id == ("__debug__" : Str))
noncomputable def storeN (ns : Names) (xs : List String) : Bool := xs.all fun x => ns.lookup (Str.ofString x) == some .local || ns.lookup (Str.ofString x) == some .cell
noncomputable def localN (ns : Names) (xs : List String) : Bool := xs.all fun x => ns.lookup (Str.ofString x) == some .local
noncomputable def lit (x : List Nat) (e : Expr) : Bool := onConstE e fun c _ _ => onCStrE c fun s => s == strV x
noncomputable def convT (b : Bool) : String := if b then "str" else "bytes"
noncomputable def convF (b : Bool) : String := if b then "Headers.__str__" else "Headers.__bytes__"

noncomputable def pair2 {α : Type} (l : List α) (f : α → α → Bool) : Bool := one (l.take 1) fun a => one (l.drop 1) fun b => f a b
noncomputable def ME.isN (e : ME) : Bool := decide (e.ctorIdx = 0)
theorem ME.isN_inv {m : ME} (h : m.isN = true) : m = .none := Mine.ME.none.elim (motive_1 := fun c => c = .none) m (of_decide_eq_true h) rfl
mutual
noncomputable def chkE (Γ : Ctx) (ns : Names) : ME → Expr → Bool
  | .none, e => onConstE e fun c _ _ => isCNone c
  | .bool b, e => onConstE e fun c _ _ => onCBoolE c fun x => b == x
  | .int i, e => onConstE e fun c _ _ => onCIntE c fun x => i == x
  | .str x, e => lit x e
  | .var x, e => onNameE e fun id _ => id == Str.ofString x && vis (ns.lookup id) && !(id == ("__debug__" : Str))
  | .glob x a, e => onNameE e fun id _ => gname ns id x && Γ.gl.lookup x == some a
  | .tyn x, e => onNameE e fun id _ => gname ns id x && Γ.ty.contains x
  | .fmt a x b y, e => onJoinE e fun vs _ => pair2 (vs.take 2) fun e1 e2 => pair2 (vs.drop 2) fun e3 e4 => (onFmtE e1 fun a' c s _ => c == 115 && s.isNone && chkE Γ ns a a') && lit x e2 && (onFmtE e3 fun b' c s _ => c == 115 && s.isNone && chkE Γ ns b b') && lit y e4
  | .tuple es, e => onTupleE e fun es' _ _ => chkEs Γ ns es es'
  | .list _ es, e => onListE e fun es' _ => chkEs Γ ns es es'
  | .bin op a b, e => onBinE e fun a' op' b' _ => decide (op = op') && chkE Γ ns a a' && chkE Γ ns b b'
  | .neg a, e => onUnE e fun op a' _ => decide (op = .USub) && chkE Γ ns a a'
  | .not a, e => onUnE e fun op a' _ => decide (op = .Not) && chkE Γ ns a a'
  | .and es, e => onBoolE e fun op es' _ => decide (op = .And) && chkEs Γ ns es es'
  | .or es, e => onBoolE e fun op es' _ => decide (op = .Or) && chkEs Γ ns es es'
  | .ife c a b, e => onIfE e fun c' a' b' _ => chkE Γ ns c c' && chkE Γ ns a a' && chkE Γ ns b b'
  | .cmp op a b, e => onCmpE e fun a' ops bs _ => one ops fun op' => one bs fun b' => decide (op = op') && !behindInMarks op b' && chkE Γ ns a a' && chkE Γ ns b b'
  | .idx a i, e => onSubE e fun a' i' _ => noSlice i' && chkE Γ ns a a' && chkE Γ ns i i'
  | .slice a lo hi, e => onSubE e fun a' i' _ => onSliceE i' fun lo' hi' st' _ => st'.isNone && chkE Γ ns a a' && chkO Γ ns lo lo' && chkO Γ ns hi hi'
  | .call f es, e => onCallE e fun fe es' ks _ => ks.isEmpty && onNameE fe fun id _ => gname ns id f && ((Γ.fa.lookup f).isSome && (Γ.gl.lookup f == Γ.fa.lookup f && chkEs Γ ns es es'))
  | .meth o m es ks, e => onCallE e fun fe es' ks' p => onAttrE fe fun o' at' ap => at' == Str.ofString m && (baseOk o' && (decide (es'.length + ks'.length < 29) && (ap.endLine == p.line && ((Γ.fa.lookup ("Headers." ++ m)).isSome && (chkE Γ ns o o' && (chkEs Γ ns es es' && chkKs Γ ns ks ks'))))))
  | .new es, e => onCallE e fun fe es' ks _ => ks.isEmpty && onNameE fe fun id _ => gname ns id "Headers" && (Γ.gl.lookup "Headers" == some Γ.C && ((Γ.fa.lookup "Headers.__init__").isSome && chkEs Γ ns es es'))
  | .bi f es, e => onCallE e fun fe es' ks _ => ks.isEmpty && onNameE fe fun id _ => gname ns id f && (Γ.bi.contains f && chkEs Γ ns es es')
  | .sm o m es, e => onCallE e fun fe es' ks p => ks.isEmpty && onAttrE fe fun o' at' ap => at' == Str.ofString m && (baseOk o' && (decide (es'.length < 29) && (ap.endLine == p.line && (chkE Γ ns o o' && chkEs Γ ns es es'))))
  | .repl o c z, e => onCallE e fun fe es' ks p => ks.isEmpty && onAttrE fe fun o' at' ap => at' == Str.ofString "replace" && (baseOk o' && (ap.endLine == p.line && (chkE Γ ns o o' && one (es'.take 1) fun e1 => one (es'.drop 1) fun e2 => lit [c] e1 && lit z e2)))
  | .conv b o, e => onCallE e fun fe es' ks _ => ks.isEmpty && onNameE fe fun id _ => gname ns id (convT b) && (Γ.ty.contains (convT b) && ((Γ.fa.lookup (convF b)).isSome && one es' fun o' => notStar o' && chkE Γ ns o o'))
  | .methD o m es d, e => onCallE e fun fe es' ks' p => onAttrE fe fun o' at' ap => at' == Str.ofString m && (baseOk o' && ((Γ.fa.lookup ("Headers." ++ m)).isSome && (chkE Γ ns o o' && (chkEs Γ ns es es' && (!es'.isEmpty && (Γ.ty.contains "dict" &&
      one ks' fun kw => kw.arg.isNone && onCallE kw.value fun fd ds kd _ => kd.isEmpty && onNameE fd fun id _ => gname ns id "dict" && one ds fun d' => notStar d' && chkE Γ ns d d'))))))
  | .attr o, e => onAttrE e fun o' at' _ => at' == Str.ofString "_headers" && isName o' && chkE Γ ns o o'
  | .comp elt t it ifs, e => onCompE e fun elt' gens scope _ => one gens fun g => compStatic ns scope (".0" :: t.names) && (g.is_async == 0 && (tgtIs g.target t && (localN (relN ns scope.names) t.names && (notSet g.iter && (chkE Γ ns it g.iter && (chkEs Γ (relN ns scope.names) ifs g.ifs && chkE Γ (relN ns scope.names) elt elt'))))))
noncomputable def chkO (Γ : Ctx) (ns : Names) : MO → Option Expr → Bool
  | .no, o => o.isNone
  | .yes e, o => o.elim false fun e' => chkE Γ ns e e'
noncomputable def chkEs (Γ : Ctx) (ns : Names) : MEs → List Expr → Bool
  | .nil, l => l.isEmpty
  | .cons e r, l => match l with
    | [] => false
    | e' :: r' => notStar e' && chkE Γ ns e e' && chkEs Γ ns r r'
noncomputable def chkKs (Γ : Ctx) (ns : Names) : MKs → List Keyword → Bool
  | .nil, l => l.isEmpty
  | .cons k e r, l => match l with
    | [] => false
    | kw :: r' => kw.arg == some (strV k) && chkE Γ ns e kw.value && chkKs Γ ns r r'
end

mutual
noncomputable def chkS (Γ : Ctx) (ns : Names) : MS → Stmt → Bool
  | .assign t e, s => onAssignE s fun ts e' _ => one ts fun t' => tgtIs t' t && (notPair t' e' && (storeN ns t.names && (chkE Γ ns e e' && notComp e')))
  | .setattr o e, s => onAssignE s fun ts e' _ => one ts fun t' => onAttrE t' fun o' at' _ => at' == Str.ofString "_headers" && chkE Γ ns o o' && chkE Γ ns e e'
  | .expr e, s => onExprSE s fun e' _ => notComp e' && chkE Γ ns e e'
  | .aug x op e, s => onAugE s fun t op' e' _ => nmIs t x && decide (op = op') && vis (ns.lookup (Str.ofString x)) && storeN ns [x] && chkE Γ ns e e'
  | .ite c a b, s => onIfSE s fun c' a' b' _ => chkE Γ ns c c' && chkSs Γ ns a a' && chkSs Γ ns b b'
  | .for t it body, s => onForE s fun t' it' body' el _ => el.isEmpty && (tgtIs t' t && (storeN ns t.names && (notSet it' && (chkE Γ ns it it' && chkSs Γ ns body body'))))
  | .while c body, s => onWhileE s fun c' body' el _ => el.isEmpty && chkE Γ ns c c' && chkSs Γ ns body body'
  | .ret e, s => onRetE s fun v _ => v.elim e.isN fun e' => chkE Γ ns e e'
  | .raise, _ => true
noncomputable def chkSs (Γ : Ctx) (ns : Names) : MSs → List Stmt → Bool
  | .nil, l => l.isEmpty
  | .cons s r, l => match l with
    | [] => false
    | s' :: r' => chkS Γ ns s s' && chkSs Γ ns r r'
end

noncomputable def SC (env : Env) (ns : Names) : Prop := env.scope.kind = .function ∧ env.scope.names = ns
theorem SC.kindOf {env : Env} {ns : Names} (h : SC env ns) (x : Str) : env.kindOf x = ns.lookup x := by unfold Env.kindOf; rw [h.2]
theorem SC.comp {env : Env} {ns : Names} (h : SC env ns) {scope : Scope} {cl : List (Str × Addr)} {L : Addr} (hk : scope.kind = .function) : SC (compEnvC scope cl L env) (relN ns scope.names) := by
  refine ⟨hk, ?_⟩
  show (relabel scope env).names = _
  unfold relabel relN
  dsimp only
  congr 1
  funext x
  obtain ⟨n, k⟩ := x
  dsimp only
  rw [h.kindOf, h.1]
  simp

structure Gnd (prog : Program) (hb : Heap) (C : Cx) (K : Frag) (mg mb : Str → Option Value) (Γ : Ctx) (cfg : Cfg) (n : Nat) (O : Orc) : Prop where
  cx : Γ.C = C.c
  cls : ClsOK K hb C.c Γ.FA
  orc : CallOK prog hb C Γ.FA n O
  fns : FnsOK hb Γ.FA
  pats : Pats hb cfg.nd cfg.vd
  g : hb.Ns mainGlobals mg
  b : hb.Ns builtinsNs mb
  gl : ∀ x a, Γ.gl.lookup x = some a → mg (Str.ofString x) = some (.ref a)
  bi : ∀ f, Γ.bi.contains f = true → mg (Str.ofString f) = none ∧ mb (Str.ofString f) = some (biVal f)
  ty : ∀ x, Γ.ty.contains x = true → mg (Str.ofString x) = none ∧ mb (Str.ofString x) = some (.type x)
  keep : keepIn K (.ref C.c) = true
  big : ∃ a o, hb.get? a = some o ∧ sysModules < a

theorem and3 {a b c : Bool} (h : (a && b && c) = true) : a = true ∧ b = true ∧ c = true := let ⟨h, h3⟩ := and2 h; let ⟨h1, h2⟩ := and2 h; ⟨h1, h2, h3⟩
theorem beq' {α : Type} [BEq α] [LawfulBEq α] {a b : α} (h : (a == b) = true) : a = b := beq_iff_eq.mp h
theorem comp_scope {env : Env} {ns : Names} {scope : Scope} {own : List String} (h : SC env ns) (c : compStatic ns scope own = true) : CompScope env scope own := by
  obtain ⟨c1, c2⟩ := and2 c
  have c2 := fun x hx => and4 (List.all_eq_true.mp c2 x hx)
  refine ⟨beq' c1, fun x hx => ?_, fun x hx => beq' (c2 x hx).2.1, fun x hx hl => ?_, fun x hx hf => ?_⟩
  · simpa using (c2 x hx).1
  · have := (c2 x hx).2.2.1
    rw [hl] at this
    obtain ⟨y, hy, e⟩ := List.any_eq_true.mp this
    exact ⟨y, hy, beq' e⟩
  · have := (c2 x hx).2.2.2
    rw [hf] at this
    rw [h.kindOf]
    rcases Bool.or_eq_true_iff.mp this with d | d
    · exact .inl (beq' d)
    · exact .inr (beq' d)
theorem relN_local {ns inner : Names} {x : Str} (h : (relN ns inner).lookup x = some .local) : inner.lookup x = some .local := by
  induction inner with
  | nil => cases h
  | cons p r ih =>
    obtain ⟨y, k⟩ := p
    unfold relN at h ih
    rw [List.map_cons] at h
    rw [List.lookup_cons]
    dsimp only at h
    split at h
    · rw [List.lookup_cons] at h
      cases hxy : (x == y) with
      | true => rw [hxy] at h; cases h
      | false => rw [hxy] at h; exact ih h
    · rw [List.lookup_cons] at h
      cases hxy : (x == y) with
      | true => rw [hxy] at h; exact h
      | false => rw [hxy] at h; exact ih h
theorem localN_of {ns : Names} {xs : List String} (h : localN ns xs = true) : ∀ y ∈ xs, ns.lookup (Str.ofString y) = some .local := fun y hy => beq' (List.all_eq_true.mp h y hy)
theorem storeN_of {env : Env} {ns : Names} {xs : List String} (hs : SC env ns) (h : storeN ns xs = true) : storable env xs := fun y hy => by
  rw [hs.kindOf]
  exact (Bool.or_eq_true_iff.mp (List.all_eq_true.mp h y hy)).imp beq' beq'
theorem gname_of {ns : Names} {id : Str} {x : String} {env : Env} (hs : SC env ns) (h : gname ns id x = true) : id = Str.ofString x ∧ env.kindOf (Str.ofString x) = some .globalImplicit ∧ (Str.ofString x == ("__debug__" : Str)) = false := by
  obtain ⟨h1, h2, h3⟩ := and3 h
  cases beq' h1
  exact ⟨rfl, by rw [hs.kindOf]; exact beq' h2, by simpa using h3⟩
theorem lit_of {P : Expr → Prop} {x : List Nat} {e : Expr} (h : lit x e = true) (k : ∀ n p, P (.Constant (.str (strV x)) n p)) : P e :=
  onConst_elim h fun c n p h => onCStr_elim (P := fun c => P (.Constant c n p)) h fun s h => by rw [show s = strV x from beq' h]; exact k n p
end Mine

namespace Mine

theorem bnd {α β : Type} {o : Option α} {f : α → Option β} {b : β} (h : o.bind f = some b) : ∃ a, o = some a ∧ f a = some b := Option.bind_eq_some_iff.mp h
theorem mapd {α β : Type} {o : Option α} {f : α → β} {b : β} (h : o.map f = some b) : ∃ a, o = some a ∧ f a = b := Option.map_eq_some_iff.mp h
theorem is_some {α : Type} {o : Option α} (h : o.isSome = true) : ∃ a, o = some a := Option.isSome_iff_exists.mp h
noncomputable def OpIs (isAnd : Bool) (op : BoolOp) : Prop := isAnd = (op == .And)
theorem opNot {isAnd t : Bool} {op : BoolOp} (h : OpIs isAnd op) (n : ¬ t = isAnd) : t = !(op == .And) := by
  rw [← show isAnd = (op == .And) from h]; cases t <;> cases isAnd <;> first | rfl | exact absurd rfl n
theorem one_of {α : Type} {P : List α → Prop} {l : List α} {f : α → Bool} (h : one l f = true) (k : ∀ x, f x = true → P [x]) : P l := one_elim h k
theorem two_of {α : Type} {P : List α → Prop} {l : List α} {f : α → α → Bool} (h : (one (l.take 1) fun a => one (l.drop 1) fun b => f a b) = true) (k : ∀ a b, f a b = true → P [a, b]) : P l := by
  rw [← List.take_append_drop 1 l]
  exact one_elim (P := fun t => P (t ++ l.drop 1)) h fun a h => one_elim (P := fun t => P ([a] ++ t)) h fun b h => k a b h

section
variable {prog : Program} {hb : Heap} {C : Cx} {K : Frag} {mg mb : Str → Option Value} {Γ : Ctx} {cfg : Cfg} {n : Nat} {O : Orc}
noncomputable def SndEv (prog : Program) (hb : Heap) (C : Cx) (Γ : Ctx) (cfg : Cfg) (n : Nat) (O : Orc) (m : ME) : Prop := ∀ ⦃env : Env⦄ ⦃ns : Names⦄ ⦃e : Expr⦄ ⦃ρ : Rho⦄ ⦃σ : Store⦄ ⦃d : V⦄ ⦃σ' : Store⦄, SC env ns → chkE Γ ns m e = true → evalM cfg O ρ σ m = some (d, σ') → EvOK prog hb C n env ρ σ e d σ'
noncomputable def SndOpt (prog : Program) (hb : Heap) (C : Cx) (Γ : Ctx) (cfg : Cfg) (n : Nat) (O : Orc) (m : MO) : Prop := ∀ ⦃env : Env⦄ ⦃ns : Names⦄ ⦃o : Option Expr⦄ ⦃ρ : Rho⦄ ⦃σ : Store⦄ ⦃d : Option V⦄ ⦃σ' : Store⦄, SC env ns → chkO Γ ns m o = true → optM cfg O ρ σ m = some (d, σ') → OptOK prog hb C n env ρ σ o d σ'
noncomputable def SndEvs (prog : Program) (hb : Heap) (C : Cx) (Γ : Ctx) (cfg : Cfg) (n : Nat) (O : Orc) (m : MEs) : Prop := ∀ ⦃env : Env⦄ ⦃ns : Names⦄ ⦃es : List Expr⦄ ⦃ρ : Rho⦄ ⦃σ : Store⦄ ⦃ds : List V⦄ ⦃σ' : Store⦄, SC env ns → chkEs Γ ns m es = true → evalsM cfg O ρ σ m = some (ds, σ') → EvsOK prog hb C n env ρ σ es ds σ'
noncomputable def SndEvk (prog : Program) (hb : Heap) (C : Cx) (Γ : Ctx) (cfg : Cfg) (n : Nat) (O : Orc) (m : MKs) : Prop := ∀ ⦃env : Env⦄ ⦃ns : Names⦄ ⦃ks : List Keyword⦄ ⦃ρ : Rho⦄ ⦃σ : Store⦄ ⦃ds : List (List Nat × V)⦄ ⦃σ' : Store⦄, SC env ns → chkKs Γ ns m ks = true → evalKM cfg O ρ σ m = some (ds, σ') → EvKOK prog hb C n env ρ σ ks ds σ' ∧ kwIs ks ds
noncomputable def SndIfs (prog : Program) (hb : Heap) (C : Cx) (Γ : Ctx) (cfg : Cfg) (n : Nat) (O : Orc) (m : MEs) : Prop := ∀ ⦃env : Env⦄ ⦃ns : Names⦄ ⦃es : List Expr⦄ ⦃ρ : Rho⦄ ⦃σ : Store⦄ ⦃b : Bool⦄ ⦃σ' : Store⦄, SC env ns → chkEs Γ ns m es = true → ifsM cfg O ρ σ m = some (b, σ') → IfsOK prog hb C n env ρ σ es b σ'
noncomputable def SndBool (prog : Program) (hb : Heap) (C : Cx) (Γ : Ctx) (cfg : Cfg) (n : Nat) (O : Orc) (m : MEs) : Prop := ∀ ⦃env : Env⦄ ⦃ns : Names⦄ ⦃es : List Expr⦄ ⦃ρ : Rho⦄ ⦃σ : Store⦄ ⦃d : V⦄ ⦃σ' : Store⦄ ⦃op : BoolOp⦄ ⦃isAnd : Bool⦄, OpIs isAnd op → SC env ns → chkEs Γ ns m es = true → boolM cfg O ρ σ isAnd m = some (d, σ') → BoolOK prog hb C n env ρ σ op es d σ'
noncomputable def SndTest (prog : Program) (hb : Heap) (C : Cx) (Γ : Ctx) (cfg : Cfg) (n : Nat) (O : Orc) (m : ME) : Prop := ∀ ⦃env : Env⦄ ⦃ns : Names⦄ ⦃e : Expr⦄ ⦃ρ : Rho⦄ ⦃σ : Store⦄ ⦃b : Bool⦄ ⦃σ' : Store⦄, SC env ns → chkE Γ ns m e = true → testM cfg O ρ σ m = some (b, σ') → TestOK prog hb C n env ρ σ e b σ'
noncomputable def SndAll (prog : Program) (hb : Heap) (C : Cx) (Γ : Ctx) (cfg : Cfg) (n : Nat) (O : Orc) (m : MEs) : Prop := ∀ ⦃env : Env⦄ ⦃ns : Names⦄ ⦃es : List Expr⦄ ⦃ρ : Rho⦄ ⦃σ : Store⦄ ⦃b : Bool⦄ ⦃σ' : Store⦄ ⦃op : BoolOp⦄ ⦃isAnd : Bool⦄, OpIs isAnd op → SC env ns → chkEs Γ ns m es = true → allM cfg O ρ σ isAnd m = some (b, σ') → AllOK prog hb C n env ρ σ op es b σ'

theorem es_nil_of {P : List Expr → Prop} {ns : Names} {l : List Expr} (h : chkEs Γ ns .nil l = true) (k : P []) : P l := by rw [List.isEmpty_iff.mp h]; exact k
theorem es_cons_of {P : List Expr → Prop} {ns : Names} {e : ME} {r : MEs} {l : List Expr} (h : chkEs Γ ns (.cons e r) l = true) (k : ∀ e' r', notStar e' = true → chkE Γ ns e e' = true → chkEs Γ ns r r' = true → P (e' :: r')) : P l := by
  cases l with
  | nil => cases h
  | cons e' r' => obtain ⟨h1, h2, h3⟩ := and3 h; exact k e' r' h1 h2 h3
theorem chk_stars {ns : Names} : ∀ {m : MEs} {es : List Expr}, chkEs Γ ns m es = true → es.all notStar = true
  | .nil, es, h => es_nil_of (P := fun es => es.all notStar = true) h rfl
  | .cons e r, es, h => es_cons_of (P := fun es => es.all notStar = true) h fun e' r' h1 _ h3 => by rw [List.all_cons, h1, chk_stars h3]; rfl

mutual
theorem ev_sound (H : Gnd prog hb C K mg mb Γ cfg n O) : ∀ (m : ME), SndEv prog hb C Γ cfg n O m
  | .none => by
    intro env ns e ρ σ d σ' hs hc he
    cases (show some _ = some _ from he)
    refine onConst_elim (P := fun e => EvOK prog hb C n env ρ σ e _ _) hc fun c k p h => ?_
    rw [isCNone_inv h]; exact none_ok k p
  | .bool b => by
    intro env ns e ρ σ d σ' hs hc he
    cases (show some _ = some _ from he)
    refine onConst_elim (P := fun e => EvOK prog hb C n env ρ σ e _ _) hc fun c k p h => onCBool_elim (P := fun c => EvOK prog hb C n env ρ σ (.Constant c k p) _ _) h fun x h => ?_
    rw [← beq' h]; exact bool_ok b k p
  | .int b => by
    intro env ns e ρ σ d σ' hs hc he
    cases (show some _ = some _ from he)
    refine onConst_elim (P := fun e => EvOK prog hb C n env ρ σ e _ _) hc fun c k p h => onCInt_elim (P := fun c => EvOK prog hb C n env ρ σ (.Constant c k p) _ _) h fun x h => ?_
    rw [← beq' h]; exact int_ok b k p
  | .str b => by
    intro env ns e ρ σ d σ' hs hc he
    cases (show some _ = some _ from he)
    exact lit_of (P := fun e => EvOK prog hb C n env ρ σ e _ _) hc fun k p => str_ok b k p
  | .var x => by
    intro env ns e ρ σ d σ' hs hc he
    obtain ⟨v, h3, h4⟩ := mapd he
    cases h4
    refine onName_elim (P := fun e => EvOK prog hb C n env ρ σ e _ _) hc fun id p h => ?_
    obtain ⟨h1, h2, h5⟩ := and3 h
    cases beq' h1
    exact var_ok h3 (by rw [hs.kindOf]; exact h2) (by simpa using h5)
  | .glob x a => by
    intro env ns e ρ σ d σ' hs hc he
    cases (show some _ = some _ from he)
    refine onName_elim (P := fun e => EvOK prog hb C n env ρ σ e _ _) hc fun id p h => ?_
    obtain ⟨h1, h2⟩ := and2 h
    obtain ⟨rfl, h3, h4⟩ := gname_of hs h1
    exact glob_ok H.g h3 (H.gl x a (beq' h2)) h4 fun g φ => .gl a
  | .tyn x => by
    intro env ns e ρ σ d σ' hs hc he
    cases (show some _ = some _ from he)
    refine onName_elim (P := fun e => EvOK prog hb C n env ρ σ e _ _) hc fun id p h => ?_
    obtain ⟨h1, h2⟩ := and2 h
    obtain ⟨rfl, h3, h4⟩ := gname_of hs h1
    exact blt_ok H.g H.b h3 (H.ty x h2).1 (H.ty x h2).2 h4 fun g φ => .ty x
  | .fmt a x b y => by
    intro env ns e ρ σ d σ' hs hc he
    obtain ⟨⟨u, σ₁⟩, k1, he⟩ := bnd he
    obtain ⟨u, rfl, he⟩ := strK_inv he
    obtain ⟨⟨w, σ₂⟩, k2, he⟩ := bnd he
    obtain ⟨w, rfl, he⟩ := strK_inv he
    obtain ⟨⟨z1, z2, z3, z4⟩, he⟩ := ite_some he
    cases he
    refine onJoin_elim (P := fun e => EvOK prog hb C n env ρ σ e _ _) hc fun vs p h => ?_
    rw [← List.take_append_drop 2 vs]
    refine two_of (P := fun l => EvOK prog hb C n env ρ σ (.JoinedStr (l ++ vs.drop 2) p) _ _) h fun e1 e2 h => two_of (P := fun l => EvOK prog hb C n env ρ σ (.JoinedStr ([e1, e2] ++ l) p) _ _) h fun e3 e4 h => ?_
    obtain ⟨h1, h2, h3, h4⟩ := and4 h
    refine onFmt_elim (P := fun e1 => EvOK prog hb C n env ρ σ (.JoinedStr [e1, e2, e3, e4] p) _ _) h1 fun a' c1 s1 p1 h1 => onFmt_elim (P := fun e3 => EvOK prog hb C n env ρ σ (.JoinedStr [_, e2, e3, e4] p) _ _) h3 fun b' c3 s3 p3 h3 => ?_
    obtain ⟨q1, q2, q3⟩ := and3 h1
    obtain ⟨q4, q5, q6⟩ := and3 h3
    cases beq' q1; cases beq' q4
    cases Option.isNone_iff_eq_none.mp q2; cases Option.isNone_iff_eq_none.mp q5
    exact lit_of (P := fun e2 => EvOK prog hb C n env ρ σ (.JoinedStr [_, e2, _, e4] p) _ _) h2 fun l1 p2 => lit_of (P := fun e4 => EvOK prog hb C n env ρ σ (.JoinedStr [_, _, _, e4] p) _ _) h4 fun l2 p4 => fmt_ok (ev_sound H a hs q3 k1) (ev_sound H b hs q6 k2) z1 z2 z3 z4
  | .tuple es => by
    intro env ns e ρ σ d σ' hs hc he
    refine onTuple_elim (P := fun e => EvOK prog hb C n env ρ σ e _ _) hc fun es' k p h1 => ?_
    obtain ⟨⟨vs, σ₁⟩, h2, h3⟩ := bnd he
    obtain ⟨hl, h3⟩ := ite_some h3
    cases h3; exact tuple_ok (evs_sound H es hs h1 h2) hl
  | .list own es => by
    intro env ns e ρ σ d σ' hs hc he
    refine onList_elim (P := fun e => EvOK prog hb C n env ρ σ e _ _) hc fun es' p h1 => ?_
    obtain ⟨⟨vs, σ₁⟩, h2, h3⟩ := bnd he
    exact list_ok (evs_sound H es hs h1 h2) h3
  | .bin op a b => by
    intro env ns e ρ σ d σ' hs hc he
    refine onBin_elim (P := fun e => EvOK prog hb C n env ρ σ e _ _) hc fun a' op' b' p h => ?_
    obtain ⟨h0, h1, h2⟩ := and3 h
    cases of_decide_eq_true h0
    obtain ⟨⟨x, σ₁⟩, h3, h4⟩ := bnd he
    obtain ⟨⟨y, σ₂⟩, h5, h6⟩ := bnd h4
    obtain ⟨v, h7, h8⟩ := mapd h6
    cases h8
    exact bin_ok (ev_sound H a hs h1 h3) (ev_sound H b hs h2 h5) fun A s φ g E v u hA S hv hu => bin_op h7 S hv hu
  | .neg a => by
    intro env ns e ρ σ d σ' hs hc he
    refine onUn_elim (P := fun e => EvOK prog hb C n env ρ σ e _ _) hc fun op' a' p h => ?_
    obtain ⟨h0, h1⟩ := and2 h
    cases of_decide_eq_true h0
    obtain ⟨⟨x, σ₁⟩, h3, h4⟩ := bnd he
    obtain ⟨i, rfl, h5⟩ := intK_inv h4
    cases h5; exact neg_ok (ev_sound H a hs h1 h3)
  | .not a => by
    intro env ns e ρ σ d σ' hs hc he
    refine onUn_elim (P := fun e => EvOK prog hb C n env ρ σ e _ _) hc fun op' a' p h => ?_
    obtain ⟨h0, h1⟩ := and2 h
    cases of_decide_eq_true h0
    obtain ⟨⟨x, σ₁⟩, h3, h4⟩ := bnd he
    obtain ⟨v, h7, h8⟩ := mapd h4
    cases h8
    exact not_ok (ev_sound H a hs h1 h3) h7
  | .and es => by
    intro env ns e ρ σ d σ' hs hc he
    refine onBool_elim (P := fun e => EvOK prog hb C n env ρ σ e _ _) hc fun op es' p h => ?_
    obtain ⟨h0, h1⟩ := and2 h
    cases of_decide_eq_true h0
    exact boolop_ok (bool_sound H es (op := .And) (isAnd := true) rfl hs h1 he)
  | .or es => by
    intro env ns e ρ σ d σ' hs hc he
    refine onBool_elim (P := fun e => EvOK prog hb C n env ρ σ e _ _) hc fun op es' p h => ?_
    obtain ⟨h0, h1⟩ := and2 h
    cases of_decide_eq_true h0
    exact boolop_ok (bool_sound H es (op := .Or) (isAnd := false) rfl hs h1 he)
  | .ife c a b => by
    intro env ns e ρ σ d σ' hs hc he
    refine onIf_elim (P := fun e => EvOK prog hb C n env ρ σ e _ _) hc fun c' a' b' p h => ?_
    obtain ⟨h1, h2, h3⟩ := and3 h
    obtain ⟨⟨t, σ₁⟩, h4, h5⟩ := bnd he
    refine ife_ok (test_sound H c hs h1 h4) ?_
    cases t with
    | true => exact ev_sound H a hs h2 h5
    | false => exact ev_sound H b hs h3 h5
  | .cmp op a b => by
    intro env ns e ρ σ d σ' hs hc he
    refine onCmp_elim (P := fun e => EvOK prog hb C n env ρ σ e _ _) hc fun a' ops bs p h => one_elim (P := fun ops => EvOK prog hb C n env ρ σ (.Compare a' ops bs p) _ _) h fun op' h => one_elim (P := fun bs => EvOK prog hb C n env ρ σ (.Compare a' [op'] bs p) _ _) h fun b' h => ?_
    obtain ⟨h9, h0, h1, h2⟩ := and4 h
    cases of_decide_eq_true h9
    obtain ⟨⟨x, σ₁⟩, h3, h4⟩ := bnd he
    obtain ⟨⟨y, σ₂⟩, h5, h6⟩ := bnd h4
    obtain ⟨v, h7, h8⟩ := mapd h6
    cases h8
    exact cmp_ok (ev_sound H a hs h1 h3) (ev_sound H b hs h2 h5) (Bool.not_eq_true' _ |>.mp h0) fun A s φ g E v u hA S hv hu => cmp_op h7 hA S hv hu
  | .idx a i => by
    intro env ns e ρ σ d σ' hs hc he
    refine onSub_elim (P := fun e => EvOK prog hb C n env ρ σ e _ _) hc fun a' i' p h => ?_
    obtain ⟨h0, h1, h2⟩ := and3 h
    obtain ⟨⟨x, σ₁⟩, h3, h4⟩ := bnd he
    obtain ⟨⟨y, σ₂⟩, h5, h6⟩ := bnd h4
    obtain ⟨v, h7, h8⟩ := mapd h6
    cases h8
    exact sub_ok (ev_sound H a hs h1 h3) (ev_sound H i hs h2 h5) fun A s φ g E v u hA S hv hu => idx_op h0 h7 S hv hu
  | .slice a lo hi => by
    intro env ns e ρ σ d σ' hs hc he
    refine onSub_elim (P := fun e => EvOK prog hb C n env ρ σ e _ _) hc fun a' i' p h => onSlice_elim (P := fun i' => EvOK prog hb C n env ρ σ (.Subscript a' i' p) _ _) h fun lo' hi' st' q h => ?_
    obtain ⟨h0, h1, h2, h3⟩ := and4 h
    cases Option.isNone_iff_eq_none.mp h0
    obtain ⟨⟨x, σ₁⟩, k1, he⟩ := bnd he
    obtain ⟨⟨l, σ₂⟩, k2, he⟩ := bnd he
    obtain ⟨⟨h, σ₃⟩, k3, he⟩ := bnd he
    obtain ⟨l', k5, he⟩ := bnd he
    obtain ⟨h', k6, he⟩ := bnd he
    obtain ⟨v, k7, he⟩ := mapd he
    cases he
    exact slice_ok (ev_sound H a hs h1 k1) (opt_sound H lo hs h2 k2) (opt_sound H hi hs h3 k3) k5 k6 k7
  | .call f es => by
    intro env ns e ρ σ d σ' hs hc he
    refine onCall_elim (P := fun e => EvOK prog hb C n env ρ σ e _ _) hc fun fe es' ks p h => ?_
    obtain ⟨h0, h⟩ := and2 h
    cases nil_inv h0
    refine onName_elim (P := fun fe => EvOK prog hb C n env ρ σ (.Call fe es' [] p) _ _) h fun id q h => ?_
    obtain ⟨h1, h⟩ := and2 h
    obtain ⟨h2, h⟩ := and2 h
    obtain ⟨h3, h6⟩ := and2 h
    obtain ⟨rfl, h4, h5⟩ := gname_of hs h1
    obtain ⟨a, ha⟩ := is_some h2
    obtain ⟨⟨vs, σ₁⟩, k1, k2⟩ := bnd he
    exact call_ok H.orc H.fns ha (glob_ok H.g h4 (H.gl f a ((beq' h3).trans ha)) h5 fun g φ => .gl a) (evs_sound H es hs h6 k1) (chk_stars h6) k2
  | .meth o m es ks => by
    intro env ns e ρ σ d σ' hs hc he
    refine onCall_elim (P := fun e => EvOK prog hb C n env ρ σ e _ _) hc fun fe es' ks' p h => onAttr_elim (P := fun fe => EvOK prog hb C n env ρ σ (.Call fe es' ks' p) _ _) h fun o' at' ap h => ?_
    obtain ⟨h0, h⟩ := and2 h
    obtain ⟨h1, h⟩ := and2 h
    obtain ⟨h2, h⟩ := and2 h
    obtain ⟨h3, h⟩ := and2 h
    obtain ⟨h4, h⟩ := and2 h
    obtain ⟨h5, h⟩ := and2 h
    obtain ⟨h6, h7⟩ := and2 h
    rw [beq' h0]
    obtain ⟨a, ha⟩ := is_some h4
    obtain ⟨⟨x, σ₁⟩, k1, he⟩ := bnd he
    obtain ⟨k, rfl, he⟩ := ownK_inv he
    obtain ⟨hi, he⟩ := ite_some he
    obtain ⟨⟨vs, σ₂⟩, k2, he⟩ := bnd he
    obtain ⟨⟨kv, σ₃⟩, k3, he⟩ := bnd he
    obtain ⟨z1, z2⟩ := evk_sound H ks hs h7 k3
    exact meth_ok H.cls H.orc H.fns ha h1 (chk_stars h6) (of_decide_eq_true h2) h3 (ev_sound H o hs h5 k1) hi (evs_sound H es hs h6 k2) z1 z2 he
  | .new es => by
    intro env ns e ρ σ d σ' hs hc he
    refine onCall_elim (P := fun e => EvOK prog hb C n env ρ σ e _ _) hc fun fe es' ks p h => ?_
    obtain ⟨h0, h⟩ := and2 h
    cases nil_inv h0
    refine onName_elim (P := fun fe => EvOK prog hb C n env ρ σ (.Call fe es' [] p) _ _) h fun id q h => ?_
    obtain ⟨h1, h⟩ := and2 h
    obtain ⟨h2, h⟩ := and2 h
    obtain ⟨h3, h6⟩ := and2 h
    obtain ⟨rfl, h4, h5⟩ := gname_of hs h1
    obtain ⟨a, ha⟩ := is_some h3
    obtain ⟨⟨vs, σ₁⟩, k1, he⟩ := bnd he
    obtain ⟨⟨r, τ⟩, k2, he⟩ := bnd he
    obtain ⟨hr, he⟩ := ite_some he
    cases vNone_inv hr
    cases he
    exact new_ok H.cls H.orc ha (glob_ok H.g h4 (H.gl _ _ ((beq' h2).trans (congrArg some H.cx))) h5 fun g φ => .gl _) (evs_sound H es hs h6 k1) (chk_stars h6) k2 H.keep
  | .bi f es => by
    intro env ns e ρ σ d σ' hs hc he
    refine onCall_elim (P := fun e => EvOK prog hb C n env ρ σ e _ _) hc fun fe es' ks p h => ?_
    obtain ⟨h0, h⟩ := and2 h
    cases nil_inv h0
    refine onName_elim (P := fun fe => EvOK prog hb C n env ρ σ (.Call fe es' [] p) _ _) h fun id q h => ?_
    obtain ⟨h1, h⟩ := and2 h
    obtain ⟨h2, h6⟩ := and2 h
    obtain ⟨rfl, h4, h5⟩ := gname_of hs h1
    obtain ⟨⟨vs, σ₁⟩, k1, he⟩ := bnd he
    exact bi_ok H.g H.b h4 (H.bi f h2).1 (H.bi f h2).2 h5 (evs_sound H es hs h6 k1) (chk_stars h6) he
  | .sm o m es => by
    intro env ns e ρ σ d σ' hs hc he
    refine onCall_elim (P := fun e => EvOK prog hb C n env ρ σ e _ _) hc fun fe es' ks p h => ?_
    obtain ⟨h0, h⟩ := and2 h
    cases nil_inv h0
    refine onAttr_elim (P := fun fe => EvOK prog hb C n env ρ σ (.Call fe es' [] p) _ _) h fun o' at' ap h => ?_
    obtain ⟨h0, h⟩ := and2 h
    obtain ⟨h1, h⟩ := and2 h
    obtain ⟨h2, h⟩ := and2 h
    obtain ⟨h3, h⟩ := and2 h
    obtain ⟨h5, h6⟩ := and2 h
    rw [beq' h0]
    obtain ⟨⟨x, σ₁⟩, k1, he⟩ := bnd he
    obtain ⟨id, k2, he⟩ := bnd he
    obtain ⟨⟨vs, σ₂⟩, k3, he⟩ := bnd he
    exact sm_ok H.pats h1 (chk_stars h6) (of_decide_eq_true h2) h3 (ev_sound H o hs h5 k1) (evs_sound H es hs h6 k3) k2 he
  | .repl o c z => by
    intro env ns e ρ σ d σ' hs hc he
    refine onCall_elim (P := fun e => EvOK prog hb C n env ρ σ e _ _) hc fun fe es' ks p h => ?_
    obtain ⟨h0, h⟩ := and2 h
    cases nil_inv h0
    refine onAttr_elim (P := fun fe => EvOK prog hb C n env ρ σ (.Call fe es' [] p) _ _) h fun o' at' ap h => ?_
    obtain ⟨h0, h⟩ := and2 h
    obtain ⟨h1, h⟩ := and2 h
    obtain ⟨h2, h⟩ := and2 h
    obtain ⟨h3, h⟩ := and2 h
    rw [beq' h0]
    obtain ⟨⟨x, σ₁⟩, k1, he⟩ := bnd he
    obtain ⟨y, rfl, he⟩ := strK_inv he
    obtain ⟨⟨z1, z2, z3⟩, he⟩ := ite_some he
    cases he
    refine two_of (P := fun es' => EvOK prog hb C n env ρ σ (.Call (.Attribute o' (Str.ofString "replace") ap) es' [] p) _ _) h fun e1 e2 h => ?_
    obtain ⟨h4, h5⟩ := and2 h
    exact lit_of (P := fun e1 => EvOK prog hb C n env ρ σ (.Call _ [e1, e2] [] p) _ _) h4 fun k1' p1 => lit_of (P := fun e2 => EvOK prog hb C n env ρ σ (.Call _ [_, e2] [] p) _ _) h5 fun k2' p2 => repl_ok h1 h2 (ev_sound H o hs h3 k1) z1 z2 z3
  | .conv b o => by
    intro env ns e ρ σ d σ' hs hc he
    refine onCall_elim (P := fun e => EvOK prog hb C n env ρ σ e _ _) hc fun fe es' ks p h => ?_
    obtain ⟨h0, h⟩ := and2 h
    cases nil_inv h0
    refine onName_elim (P := fun fe => EvOK prog hb C n env ρ σ (.Call fe es' [] p) _ _) h fun id q h => ?_
    obtain ⟨h1, h⟩ := and2 h
    obtain ⟨h2, h⟩ := and2 h
    obtain ⟨h3, h⟩ := and2 h
    refine one_elim (P := fun es' => EvOK prog hb C n env ρ σ (.Call (.Name id q) es' [] p) _ _) h fun o' h => ?_
    obtain ⟨h7, h6⟩ := and2 h
    obtain ⟨rfl, h4, h5⟩ := gname_of hs h1
    obtain ⟨a, ha⟩ := is_some h3
    obtain ⟨⟨x, σ₁⟩, k1, he⟩ := bnd he
    obtain ⟨k, rfl, he⟩ := ownK_inv he
    obtain ⟨hi, he⟩ := ite_some he
    obtain ⟨⟨v, σ₂⟩, k2, he⟩ := bnd he
    have hd : (v, σ₂) = (d, σ') ∧ if b then ∃ x, v = .str x else ∃ x, v = .bytes x := by
      cases b with
      | true => obtain ⟨x, rfl, he⟩ := strK_inv he; exact ⟨Option.some.inj he, x, rfl⟩
      | false => obtain ⟨x, rfl, he⟩ := bytK_inv he; exact ⟨Option.some.inj he, x, rfl⟩
    obtain ⟨q', hd⟩ := hd
    cases q'
    exact conv_ok (b := b) H.cls H.orc ha rfl H.g H.b h4 (H.ty _ h2).1 (H.ty _ h2).2 h5 (evs_cons (notStar_ne h7) (ev_sound H o hs h6 k1) evs_nil) (by rw [List.all_cons, h7]; rfl) hi k2 hd
  | .methD o m es d => by
    intro env ns e ρ σ r σ' hs hc he
    refine onCall_elim (P := fun e => EvOK prog hb C n env ρ σ e _ _) hc fun fe es' ks' p h => onAttr_elim (P := fun fe => EvOK prog hb C n env ρ σ (.Call fe es' ks' p) _ _) h fun o' at' ap h => ?_
    obtain ⟨h0, h⟩ := and2 h
    obtain ⟨h1, h⟩ := and2 h
    obtain ⟨h2, h⟩ := and2 h
    obtain ⟨h3, h⟩ := and2 h
    obtain ⟨h4, h⟩ := and2 h
    obtain ⟨h5, h⟩ := and2 h
    obtain ⟨h6, hz⟩ := and2 h
    clear h
    rw [beq' h0]
    obtain ⟨a, ha⟩ := is_some h2
    cases es' with
    | nil => cases h5
    | cons e0 er =>
    refine one_elim (P := fun ks' => EvOK prog hb C n env ρ σ (.Call (.Attribute o' (Str.ofString m) ap) (e0 :: er) ks' p) _ _) hz fun kw h => ?_
    obtain ⟨ka, kv, kp⟩ := kw
    obtain ⟨h7, h⟩ := and2 h
    cases Option.isNone_iff_eq_none.mp h7
    refine onCall_elim (P := fun kv => EvOK prog hb C n env ρ σ (.Call (.Attribute o' (Str.ofString m) ap) (e0 :: er) [⟨none, kv, kp⟩] p) _ _) h fun fd ds kd pd h => ?_
    obtain ⟨h8, h⟩ := and2 h
    cases nil_inv h8
    refine onName_elim (P := fun fd => EvOK prog hb C n env ρ σ (.Call (.Attribute o' (Str.ofString m) ap) (e0 :: er) [⟨none, .Call fd ds [] pd, kp⟩] p) _ _) h fun id q h => ?_
    obtain ⟨h9, hy⟩ := and2 h
    clear h
    obtain ⟨rfl, g1, g2⟩ := gname_of hs h9
    refine one_elim (P := fun ds => EvOK prog hb C n env ρ σ (.Call (.Attribute o' (Str.ofString m) ap) (e0 :: er) [⟨none, .Call (.Name (Str.ofString "dict") q) ds [] pd, kp⟩] p) _ _) hy fun de h => ?_
    obtain ⟨g3, g4⟩ := and2 h
    obtain ⟨⟨x, σ₁⟩, k1, he⟩ := bnd he
    obtain ⟨k, rfl, he⟩ := ownK_inv he
    obtain ⟨hi, he⟩ := ite_some he
    obtain ⟨⟨vs, σ₂⟩, k2, he⟩ := bnd he
    obtain ⟨⟨y, σ₃⟩, k3, he⟩ := bnd he
    obtain ⟨ps, k4, he⟩ := bnd he
    obtain ⟨kvs, k5, he⟩ := bnd he
    obtain ⟨⟨z1, z2⟩, he⟩ := ite_some he
    exact methD_ok H.cls H.orc ha H.g H.b g1 (H.ty _ h6).1 (H.ty _ h6).2 H.big h1 (chk_stars h4) (by rw [List.all_cons, g3]; rfl) (ev_sound H o hs h3 k1) hi (evs_sound H es hs h4 k2) (evs_cons (notStar_ne g3) (ev_sound H d hs g4 k3) evs_nil) k4 k5 z1 z2 he
  | .attr o => by
    intro env ns e ρ σ d σ' hs hc he
    refine onAttr_elim (P := fun e => EvOK prog hb C n env ρ σ e _ _) hc fun o' at' p h => ?_
    obtain ⟨h0, h1, h2⟩ := and3 h
    rw [show at' = _ from beq' h0]
    obtain ⟨⟨x, σ₁⟩, k1, he⟩ := bnd he
    obtain ⟨k, rfl, he⟩ := ownK_inv he
    obtain ⟨dk, q, he⟩ := instK_inv he
    obtain ⟨v, q2, he⟩ := attrsK_inv he
    obtain ⟨v, rfl, he⟩ := mapd he
    cases he
    exact attr_ok H.cls h1 (ev_sound H o hs h2 k1) q q2
  | .comp elt t it ifs => by
    intro env ns e ρ σ d σ' hs hc he
    refine onComp_elim (P := fun e => EvOK prog hb C n env ρ σ e _ _) hc fun elt' gens scope p h => one_elim (P := fun gens => EvOK prog hb C n env ρ σ (.ListComp elt' gens scope p) _ _) h fun g h => ?_
    obtain ⟨tg, itx, ifx, isa⟩ := g
    obtain ⟨h0, h⟩ := and2 h
    obtain ⟨h1, h⟩ := and2 h
    obtain ⟨h2, h⟩ := and2 h
    obtain ⟨h3, h⟩ := and2 h
    obtain ⟨h4, h⟩ := and2 h
    obtain ⟨h5, h⟩ := and2 h
    obtain ⟨h6, h7⟩ := and2 h
    cases beq' h1
    have Z := comp_scope hs h0
    obtain ⟨⟨x, σ₁⟩, k1, he⟩ := bnd he
    obtain ⟨vs, k2, he⟩ := bnd he
    obtain ⟨⟨ρ₂, acc, σ₂⟩, k3, he⟩ := mapd he
    cases he
    exact comp_ok (fi := fun ρ σ => ifsM cfg O ρ σ ifs) (mm := fun ρ acc σ => (evalM cfg O ρ σ elt).bind fun (v, σ) => if acc.length ≤ 1000 then some (ρ, acc ++ [v], σ) else none) Z h2 h4 (fun y hy => relN_local (localN_of h3 y hy)) (ev_sound H it hs h5 k1) k2
      (fun L cl ρ σ b σ' hf => ifs_sound H ifs (hs.comp Z.kind) h6 hf) (fun L cl D => inner_end (el := fun ρ σ => evalM cfg O ρ σ elt) rfl fun ρ σ d σ' hel => ev_sound H elt (hs.comp Z.kind) h7 hel) k3
theorem opt_sound (H : Gnd prog hb C K mg mb Γ cfg n O) : ∀ (m : MO), SndOpt prog hb C Γ cfg n O m
  | .no => by
    intro env ns o ρ σ d σ' hs hc he
    cases Option.isNone_iff_eq_none.mp hc
    cases (show some _ = some _ from he); exact rfl
  | .yes e => by
    intro env ns o ρ σ d σ' hs hc he
    cases o with
    | none => cases hc
    | some e' =>
    obtain ⟨⟨v, σ₁⟩, k1, k2⟩ := bnd he
    cases k2
    exact ev_sound H e hs hc k1
theorem evs_sound (H : Gnd prog hb C K mg mb Γ cfg n O) : ∀ (m : MEs), SndEvs prog hb C Γ cfg n O m
  | .nil => by
    intro env ns es ρ σ ds σ' hs hc he
    cases (show some _ = some _ from he)
    exact es_nil_of (P := fun es => EvsOK prog hb C n env ρ σ es _ _) hc evs_nil
  | .cons e r => by
    intro env ns es ρ σ ds σ' hs hc he
    obtain ⟨⟨v, σ₁⟩, k1, he⟩ := bnd he
    obtain ⟨⟨vs, σ₂⟩, k2, he⟩ := bnd he
    cases he
    exact es_cons_of (P := fun es => EvsOK prog hb C n env ρ σ es _ _) hc fun e' r' h1 h2 h3 => evs_cons (notStar_ne h1) (ev_sound H e hs h2 k1) (evs_sound H r hs h3 k2)
theorem evk_sound (H : Gnd prog hb C K mg mb Γ cfg n O) : ∀ (m : MKs), SndEvk prog hb C Γ cfg n O m
  | .nil => by
    intro env ns es ρ σ ds σ' hs hc he
    cases List.isEmpty_iff.mp (show es.isEmpty = true from hc)
    cases (show some _ = some _ from he); exact ⟨evk_nil, rfl⟩
  | .cons k e r => by
    intro env ns es ρ σ ds σ' hs hc he
    cases es with
    | nil => cases hc
    | cons kw r' =>
    obtain ⟨ka, kv, kp⟩ := kw
    obtain ⟨h1, h2, h3⟩ := and3 hc
    cases beq' h1
    obtain ⟨⟨v, σ₁⟩, k1, he⟩ := bnd he
    obtain ⟨⟨vs, σ₂⟩, k2, he⟩ := bnd he
    cases he
    obtain ⟨z1, z2⟩ := evk_sound H r hs h3 k2
    exact ⟨evk_cons (ev_sound H e hs h2 k1) z1, congrArg (some (strV k) :: ·) z2⟩
theorem ifs_sound (H : Gnd prog hb C K mg mb Γ cfg n O) : ∀ (m : MEs), SndIfs prog hb C Γ cfg n O m
  | .nil => by
    intro env ns es ρ σ ds σ' hs hc he
    cases (show some _ = some _ from he)
    exact es_nil_of (P := fun es => IfsOK prog hb C n env ρ σ es _ _) hc ifs_nil
  | .cons e r => by
    intro env ns es ρ σ ds σ' hs hc he
    obtain ⟨⟨t, σ₁⟩, k1, he⟩ := bnd he
    refine es_cons_of (P := fun es => IfsOK prog hb C n env ρ σ es _ _) hc fun e' r' h1 h2 h3 => ?_
    cases t with
    | true => exact ifs_go (test_sound H e hs h2 k1) (ifs_sound H r hs h3 he)
    | false => cases he; exact ifs_stop (test_sound H e hs h2 k1)
theorem bool_sound (H : Gnd prog hb C K mg mb Γ cfg n O) : ∀ (m : MEs), SndBool prog hb C Γ cfg n O m
  | .nil => by
    intro env ns es ρ σ d σ' op isAnd ho hs hc he
    cases (show none = some _ from he)
  | .cons e .nil => by
    intro env ns es ρ σ d σ' op isAnd ho hs hc he
    exact es_cons_of (P := fun es => BoolOK prog hb C n env ρ σ op es _ _) hc fun e' r' h1 h2 h3 => es_nil_of (P := fun r' => BoolOK prog hb C n env ρ σ op (e' :: r') _ _) h3 (bool_one (ev_sound H e hs h2 he))
  | .cons e (.cons e2 r) => by
    intro env ns es ρ σ d σ' op isAnd ho hs hc he
    refine es_cons_of (P := fun es => BoolOK prog hb C n env ρ σ op es _ _) hc fun e' r' h1 h2 h3 => ?_
    cases r' with
    | nil => cases h3
    | cons e'' r'' =>
    have he : ((evalM cfg O ρ σ e).bind fun (v, σ) => (truthV σ v).bind fun t => if t = isAnd then boolM cfg O ρ σ isAnd (.cons e2 r) else some (v, σ)) = some (d, σ') := he
    obtain ⟨⟨v, σ₁⟩, k1, he⟩ := bnd he
    obtain ⟨t, k2, he⟩ := bnd he
    by_cases ht : t = isAnd
    · rw [if_pos ht] at he
      rw [ht, ho] at k2
      exact bool_go (ev_sound H e hs h2 k1) k2 (bool_sound H (.cons e2 r) ho hs h3 he)
    · rw [if_neg ht] at he
      cases he
      rw [opNot ho ht] at k2
      exact bool_stop (ev_sound H e hs h2 k1) k2
theorem test_sound (H : Gnd prog hb C K mg mb Γ cfg n O) : ∀ (m : ME), SndTest prog hb C Γ cfg n O m
  | .not a => by
    intro env ns e ρ σ b σ' hs hc he
    refine onUn_elim (P := fun e => TestOK prog hb C n env ρ σ e _ _) hc fun op' a' p h => ?_
    obtain ⟨h0, h1⟩ := and2 h
    cases of_decide_eq_true h0
    obtain ⟨⟨x, σ₁⟩, h3, h4⟩ := bnd he
    cases h4
    exact test_not (test_sound H a hs h1 h3)
  | .and es => by
    intro env ns e ρ σ d σ' hs hc he
    refine onBool_elim (P := fun e => TestOK prog hb C n env ρ σ e _ _) hc fun op es' p h => ?_
    obtain ⟨h0, h1⟩ := and2 h
    cases of_decide_eq_true h0
    exact test_bool (all_sound H es (op := .And) (isAnd := true) rfl hs h1 he)
  | .or es => by
    intro env ns e ρ σ d σ' hs hc he
    refine onBool_elim (P := fun e => TestOK prog hb C n env ρ σ e _ _) hc fun op es' p h => ?_
    obtain ⟨h0, h1⟩ := and2 h
    cases of_decide_eq_true h0
    exact test_bool (all_sound H es (op := .Or) (isAnd := false) rfl hs h1 he)
  | .ife c a b => by intro env ns e ρ σ d σ' hs hc he; cases (show none = some _ from he)
  | .none => by intro env ns e ρ σ d σ' hs hc he; cases (show none = some _ from he)
  | .fmt _ _ _ _ => by intro env ns e ρ σ d σ' hs hc he; cases (show none = some _ from he)
  | .bool b => by
    intro env ns e ρ σ d σ' hs hc he
    cases (show some _ = some _ from he)
    refine onConst_elim (P := fun e => TestOK prog hb C n env ρ σ e _ _) hc fun c k p h => onCBool_elim (P := fun c => TestOK prog hb C n env ρ σ (.Constant c k p) _ _) h fun x h => ?_
    rw [← beq' h]
    exact test_plain rfl (bool_ok b k p) rfl
  | .var x => by
    intro env ns e ρ σ d σ' hs hc he
    obtain ⟨v, h3, h4⟩ := bnd he
    obtain ⟨t, h5, h6⟩ := mapd h4
    cases h6
    refine onName_elim (P := fun e => TestOK prog hb C n env ρ σ e _ _) hc fun id p h => ?_
    obtain ⟨h1, h2, h5'⟩ := and3 h
    cases beq' h1
    exact test_plain rfl (var_ok h3 (by rw [hs.kindOf]; exact h2) (by simpa using h5')) h5
  | .cmp op a b => by
    intro env ns e ρ σ d σ' hs hc he
    refine onCmp_elim (P := fun e => TestOK prog hb C n env ρ σ e _ _) hc fun a' ops bs p h => one_elim (P := fun ops => TestOK prog hb C n env ρ σ (.Compare a' ops bs p) _ _) h fun op' h => one_elim (P := fun bs => TestOK prog hb C n env ρ σ (.Compare a' [op'] bs p) _ _) h fun b' h => ?_
    obtain ⟨g9, h0, h1, h2⟩ := and4 h
    cases of_decide_eq_true g9
    obtain ⟨⟨x, σ₁⟩, h3, h4⟩ := bnd he
    obtain ⟨⟨y, σ₂⟩, h5, h6⟩ := bnd h4
    obtain ⟨v, h7, h8⟩ := bnd h6
    obtain ⟨t, h9, h10⟩ := mapd h8
    cases h10
    exact test_cmp (ev_sound H a hs h1 h3) (ev_sound H b hs h2 h5) (Bool.not_eq_true' _ |>.mp h0) (fun A s φ g E v u hA S hv hu => cmp_op h7 hA S hv hu) h9
  | .sm o m es => by
    intro env ns e ρ σ d σ' hs hc he
    have hc' := hc
    obtain ⟨⟨x, σ₁⟩, k1, he⟩ := bnd he
    obtain ⟨id, k2, he⟩ := bnd he
    obtain ⟨⟨vs, σ₂⟩, k3, he⟩ := bnd he
    obtain ⟨⟨v, σ₃⟩, k4, he⟩ := bnd he
    obtain ⟨t, h9, h10⟩ := mapd he
    cases h10
    refine onCall_elim (P := fun e => TestOK prog hb C n env ρ σ e _ _) hc fun fe es' ks p h => ?_
    obtain ⟨h0, h⟩ := and2 h
    cases nil_inv h0
    refine onAttr_elim (P := fun fe => TestOK prog hb C n env ρ σ (.Call fe es' [] p) _ _) h fun o' at' ap h => ?_
    obtain ⟨h0, h⟩ := and2 h
    obtain ⟨h1, h⟩ := and2 h
    obtain ⟨h2, h⟩ := and2 h
    obtain ⟨h3, h⟩ := and2 h
    obtain ⟨h5, h6⟩ := and2 h
    rw [beq' h0]
    exact test_plain rfl (sm_ok H.pats h1 (chk_stars h6) (of_decide_eq_true h2) h3 (ev_sound H o hs h5 k1) (evs_sound H es hs h6 k3) k2 k4) h9
  | .int _ => by intro env ns e ρ σ d σ' hs hc he; cases (show none = some _ from he)
  | .str _ => by intro env ns e ρ σ d σ' hs hc he; cases (show none = some _ from he)
  | .glob _ _ => by intro env ns e ρ σ d σ' hs hc he; cases (show none = some _ from he)
  | .tyn _ => by intro env ns e ρ σ d σ' hs hc he; cases (show none = some _ from he)
  | .tuple _ => by intro env ns e ρ σ d σ' hs hc he; cases (show none = some _ from he)
  | .list _ _ => by intro env ns e ρ σ d σ' hs hc he; cases (show none = some _ from he)
  | .bin _ _ _ => by intro env ns e ρ σ d σ' hs hc he; cases (show none = some _ from he)
  | .neg _ => by intro env ns e ρ σ d σ' hs hc he; cases (show none = some _ from he)
  | .idx _ _ => by intro env ns e ρ σ d σ' hs hc he; cases (show none = some _ from he)
  | .slice _ _ _ => by intro env ns e ρ σ d σ' hs hc he; cases (show none = some _ from he)
  | .call _ _ => by intro env ns e ρ σ d σ' hs hc he; cases (show none = some _ from he)
  | .meth _ _ _ _ => by intro env ns e ρ σ d σ' hs hc he; cases (show none = some _ from he)
  | .new _ => by intro env ns e ρ σ d σ' hs hc he; cases (show none = some _ from he)
  | .bi _ _ => by intro env ns e ρ σ d σ' hs hc he; cases (show none = some _ from he)
  | .repl _ _ _ => by intro env ns e ρ σ d σ' hs hc he; cases (show none = some _ from he)
  | .conv _ _ => by intro env ns e ρ σ d σ' hs hc he; cases (show none = some _ from he)
  | .methD _ _ _ _ => by intro env ns e ρ σ d σ' hs hc he; cases (show none = some _ from he)
  | .attr _ => by intro env ns e ρ σ d σ' hs hc he; cases (show none = some _ from he)
  | .comp _ _ _ _ => by intro env ns e ρ σ d σ' hs hc he; cases (show none = some _ from he)
theorem all_sound (H : Gnd prog hb C K mg mb Γ cfg n O) : ∀ (m : MEs), SndAll prog hb C Γ cfg n O m
  | .nil => by
    intro env ns es ρ σ b σ' op isAnd ho hs hc he
    cases (show some (isAnd, σ) = some _ from he)
    refine es_nil_of (P := fun es => AllOK prog hb C n env ρ σ op es _ _) hc ?_
    rw [show b = (op == .And) from ho]; exact all_nil
  | .cons e r => by
    intro env ns es ρ σ b σ' op isAnd ho hs hc he
    refine es_cons_of (P := fun es => AllOK prog hb C n env ρ σ op es _ _) hc fun e' r' h1 h2 h3 => ?_
    obtain ⟨⟨t, σ₁⟩, k1, he⟩ := bnd he
    dsimp only at he
    by_cases ht : t = isAnd
    · rw [if_pos ht] at he
      rw [ht, show isAnd = (op == .And) from ho] at k1
      exact all_go (test_sound H e hs h2 k1) (all_sound H r ho hs h3 he)
    · rw [if_neg ht] at he
      cases he
      rw [opNot ho ht] at k1 ⊢
      exact all_stop (test_sound H e hs h2 k1)
end
end
end Mine

namespace Mine

section
variable {prog : Program} {hb : Heap} {C : Cx} {K : Frag} {mg mb : Str → Option Value} {Γ : Ctx} {cfg : Cfg} {n : Nat} {O : Orc}
noncomputable def SndEx (prog : Program) (hb : Heap) (C : Cx) (Γ : Ctx) (cfg : Cfg) (n : Nat) (O : Orc) (m : MS) : Prop := ∀ ⦃env : Env⦄ ⦃ns : Names⦄ ⦃e : Stmt⦄ ⦃ρ : Rho⦄ ⦃σ : Store⦄ ⦃fl : Fl⦄ ⦃ρ' : Rho⦄ ⦃σ' : Store⦄, SC env ns → chkS Γ ns m e = true → execM cfg O ρ σ m = some (fl, ρ', σ') → ExOK prog hb C n env ρ σ e fl ρ' σ'
noncomputable def SndExs (prog : Program) (hb : Heap) (C : Cx) (Γ : Ctx) (cfg : Cfg) (n : Nat) (O : Orc) (m : MSs) : Prop := ∀ ⦃env : Env⦄ ⦃ns : Names⦄ ⦃e : List Stmt⦄ ⦃ρ : Rho⦄ ⦃σ : Store⦄ ⦃fl : Fl⦄ ⦃ρ' : Rho⦄ ⦃σ' : Store⦄, SC env ns → chkSs Γ ns m e = true → execsM cfg O ρ σ m = some (fl, ρ', σ') → ExsOK prog hb C n env ρ σ e fl ρ' σ'
theorem tup_ok {t : Expr} {xs : List String} (h : tgtIs t (.tup xs) = true) : isTupT t = true := onTuple_elim (P := fun t => isTupT t = true) h fun _ _ _ _ => rfl
mutual
theorem ex_sound (H : Gnd prog hb C K mg mb Γ cfg n O) : ∀ (m : MS), SndEx prog hb C Γ cfg n O m
  | .assign t m => by
    intro env ns e ρ σ fl ρ' σ' hs hc he
    obtain ⟨⟨v, σ₁⟩, k1, he⟩ := bnd he
    obtain ⟨ρ₁, k2, he⟩ := bnd he
    cases he
    refine onAssign_elim (P := fun e => ExOK prog hb C n env ρ σ e _ _ _) hc fun ts e' p h => one_elim (P := fun ts => ExOK prog hb C n env ρ σ (.Assign ts e' p) _ _ _) h fun t' h => ?_
    obtain ⟨h1, h⟩ := and2 h
    obtain ⟨h2, h⟩ := and2 h
    obtain ⟨h3, h⟩ := and2 h
    obtain ⟨h4, h5⟩ := and2 h
    exact assign_plain h1 (swaps_no h5) h2 (storeN_of hs h3) (ev_sound H m hs h4 k1) k2
  | .setattr o m => by
    intro env ns e ρ σ fl ρ' σ' hs hc he
    refine onAssign_elim (P := fun e => ExOK prog hb C n env ρ σ e _ _ _) hc fun ts e' p h => one_elim (P := fun ts => ExOK prog hb C n env ρ σ (.Assign ts e' p) _ _ _) h fun t' h => onAttr_elim (P := fun t' => ExOK prog hb C n env ρ σ (.Assign [t'] e' p) _ _ _) h fun o' at' q h => ?_
    obtain ⟨h1, h2, h4⟩ := and3 h
    rw [show at' = _ from beq' h1]
    obtain ⟨⟨v, σ₁⟩, k1, he⟩ := bnd he
    obtain ⟨⟨x, σ₂⟩, k2, he⟩ := bnd he
    obtain ⟨k, rfl, he⟩ := ownK_inv he
    obtain ⟨d, hk, he⟩ := instK_inv he
    obtain ⟨w', hz, he⟩ := attrsK_inv he
    obtain ⟨hw, he⟩ := ite_some he
    cases Option.isNone_iff_eq_none.mp hw
    cases he
    exact set_attr_ok H.cls (ev_sound H m hs h4 k1) (ev_sound H o hs h2 k2) hk hz
  | .expr m => by
    intro env ns e ρ σ fl ρ' σ' hs hc he
    obtain ⟨⟨v, σ₁⟩, k1, he⟩ := bnd he
    cases he
    refine onExprS_elim (P := fun e => ExOK prog hb C n env ρ σ e _ _ _) hc fun e' p h => ?_
    obtain ⟨h1, h2⟩ := and2 h
    exact expr_ok h1 (ev_sound H m hs h2 k1)
  | .aug x op m => by
    intro env ns e ρ σ fl ρ' σ' hs hc he
    obtain ⟨a, k1, he⟩ := bnd he
    obtain ⟨⟨b, σ₁⟩, k2, he⟩ := bnd he
    obtain ⟨v, k3, he⟩ := bnd he
    obtain ⟨ρ₁, k4, he⟩ := bnd he
    cases he
    refine onAug_elim (P := fun e => ExOK prog hb C n env ρ σ e _ _ _) hc fun t op' e' p h => ?_
    obtain ⟨h, h5⟩ := and2 h
    obtain ⟨h1, h2, h3, h4⟩ := and4 h
    obtain ⟨q, rfl⟩ := nmIs_inv h1
    cases of_decide_eq_true h2
    exact aug_ok k1 (by rw [hs.kindOf]; exact h3) (storeN_of hs h4) (ev_sound H m hs h5 k2) k3 k4
  | .ite c a b => by
    intro env ns e ρ σ fl ρ' σ' hs hc he
    obtain ⟨⟨t, σ₁⟩, k1, he⟩ := bnd he
    refine onIfS_elim (P := fun e => ExOK prog hb C n env ρ σ e _ _ _) hc fun c' a' b' p h => ?_
    obtain ⟨h1, h2, h3⟩ := and3 h
    refine if_ok (test_sound H c hs h1 k1) ?_
    cases t with
    | true => exact exs_sound H a hs h2 he
    | false => exact exs_sound H b hs h3 he
  | .for t it body => by
    intro env ns e ρ σ fl ρ' σ' hs hc he
    obtain ⟨⟨x, σ₁⟩, k1, he⟩ := bnd he
    obtain ⟨vs, k2, he⟩ := bnd he
    refine onFor_elim (P := fun e => ExOK prog hb C n env ρ σ e _ _ _) hc fun t' it' b' el p h => ?_
    obtain ⟨h0, hr⟩ := and2 h
    clear h
    cases nil_inv h0
    obtain ⟨h1, h⟩ := and2 hr
    obtain ⟨h2, h⟩ := and2 h
    obtain ⟨h3, h⟩ := and2 h
    obtain ⟨h4, h5⟩ := and2 h
    have k3 : iterOf σ₁ x = some vs ∧ ((∃ k, x = .items k) → isTupT t' = true) := by
      cases t with
      | one y => exact ⟨(iterC_iter k2).1, fun ⟨k, q⟩ => absurd q ((iterC_iter k2).2 k)⟩
      | tup ys => exact ⟨k2, fun _ => tup_ok h1⟩
    exact for_ok (bd := fun ρ σ => execsM cfg O ρ σ body) h3 h1 (storeN_of hs h2) (ev_sound H it hs h4 k1) k3.1 k3.2 (fun ρ σ fl ρ' σ' hb => exs_sound H body hs h5 hb) he
  | .while c body => by
    intro env ns e ρ σ fl ρ' σ' hs hc he
    refine onWhile_elim (P := fun e => ExOK prog hb C n env ρ σ e _ _ _) hc fun c' b' el p h => ?_
    obtain ⟨h0, h1, h2⟩ := and3 h
    cases nil_inv h0
    exact while_ok (ct := fun ρ σ => testM cfg O ρ σ c) (bd := fun ρ σ => execsM cfg O ρ σ body) (fun ρ σ b σ' hb => test_sound H c hs h1 hb) (fun ρ σ fl ρ' σ' hb => exs_sound H body hs h2 hb) he
  | .ret m => by
    intro env ns e ρ σ fl ρ' σ' hs hc he
    obtain ⟨⟨v, σ₁⟩, k1, he⟩ := bnd he
    cases he
    refine onRet_elim (P := fun e => ExOK prog hb C n env ρ σ e _ _ _) hc fun o p h => ?_
    cases o with
    | none =>
      cases ME.isN_inv h
      cases (show some _ = some _ from k1)
      exact ret0_ok
    | some e' => exact ret_ok (ev_sound H m hs h k1)
  | .raise => by
    intro env ns e ρ σ fl ρ' σ' hs hc he
    cases he
theorem exs_sound (H : Gnd prog hb C K mg mb Γ cfg n O) : ∀ (m : MSs), SndExs prog hb C Γ cfg n O m
  | .nil => by
    intro env ns e ρ σ fl ρ' σ' hs hc he
    cases List.isEmpty_iff.mp (show e.isEmpty = true from hc)
    cases he
    exact exs_nil
  | .cons s r => by
    intro env ns e ρ σ fl ρ' σ' hs hc he
    cases e with
    | nil => cases hc
    | cons s' r' =>
    obtain ⟨h1, h2⟩ := and2 hc
    obtain ⟨⟨f, ρ₁, σ₁⟩, k1, he⟩ := bnd he
    cases f with
    | next => exact exs_next (ex_sound H s hs h1 k1) (exs_sound H r hs h2 he)
    | ret v => cases he; exact exs_ret (ex_sound H s hs h1 k1)
end
end
end Mine

namespace Mine

theorem lookup_of {l : List (Str × Value)} {k : Str} {v : Value} (hn : (l.map (·.1)).Nodup) (h : (k, v) ∈ l) : l.lookup k = some v := by
  induction l with
  | nil => cases h
  | cons p r ih =>
    obtain ⟨n1, n2⟩ := List.nodup_cons.mp (show (p.1 :: r.map (·.1)).Nodup from hn)
    rw [List.lookup_cons]
    rcases List.mem_cons.mp h with rfl | h
    · rw [beq_self_eq_true]
    · have : (k == p.1) = false := beq_eq_false_iff_ne.mpr fun q => n1 (q ▸ List.mem_map_of_mem (f := (·.1)) h)
      rw [this]; exact ih n2 h
theorem lookup_no {l : List (Str × Value)} {k : Str} (h : k ∉ l.map (·.1)) : l.lookup k = none := by
  induction l with
  | nil => rfl
  | cons p r ih =>
    have h1 : k ≠ p.1 := fun q => h (q ▸ .head _)
    rw [List.lookup_cons, beq_eq_false_iff_ne.mpr h1]
    exact ih fun m => h (.tail _ m)
theorem fm_all {S : List (Str × Value)} : ∀ {A : List (Str × Value)}, (∀ p ∈ A, S.lookup p.1 = some p.2) → (A.map (·.1)).filterMap (fun n => (S.lookup n).map (n, ·)) = A
  | [], _ => rfl
  | p :: r, h => by
    rw [List.map_cons, List.filterMap_cons, h p (.head _), Option.map_some]
    exact congrArg (p :: ·) (fm_all fun q hq => h q (.tail _ hq))
theorem forIn_skip {α β : Type} {body : α → β → Sem (ForInStep β)} {l2 : List α} : ∀ {l : List α} {b : β}, (∀ x ∈ l, body x b = pure (.yield b)) → forIn (l ++ l2) b body = forIn l2 b body
  | [], _, _ => rfl
  | x :: r, b, h => by
    rw [List.cons_append, List.forIn_cons, h x (.head _)]
    exact forIn_skip fun y hy => h y (.tail _ hy)
theorem forIn_same {α β : Type} {body : α → β → Sem (ForInStep β)} {l : List α} {b : β} (h : ∀ x ∈ l, body x b = pure (.yield b)) : forIn l b body = (pure b : Sem β) := by
  have := forIn_skip (l2 := []) h
  rw [List.append_nil] at this
  exact this
theorem forIn_more {β : Type} {mk : List (Str × Value) → β} {body : Str × Value → β → Sem (ForInStep β)} : ∀ {l : List (Str × Value)} {sl : List (Str × Value)} {l2 : List (Str × Value)}, ((sl ++ l).map (·.1)).Nodup →
    (∀ x ∈ l, ∀ sl, sl.lookup x.1 = none → body x (mk sl) = pure (.yield (mk (sl ++ [x])))) → forIn (l ++ l2) (mk sl) body = forIn l2 (mk (sl ++ l)) body
  | [], sl, _, _, _ => by rw [List.append_nil]; rfl
  | x :: r, sl, l2, hn, hb => by
    have hx : sl.lookup x.1 = none := lookup_no fun m => by
      rw [List.map_append, List.nodup_append] at hn
      exact hn.2.2 _ m _ (.head _) rfl
    rw [List.cons_append, List.forIn_cons, hb x (.head _) sl hx]
    have e : sl ++ x :: r = (sl ++ [x]) ++ r := by rw [List.append_assoc]; rfl
    rw [e]
    exact forIn_more (l := r) (e ▸ hn) fun y hy => hb y (.tail _ hy)

theorem forIn_all {β : Type} {mk : List (Str × Value) → β} {body : Str × Value → β → Sem (ForInStep β)} {l sl : List (Str × Value)} (hn : ((sl ++ l).map (·.1)).Nodup)
    (hb : ∀ x ∈ l, ∀ sl, sl.lookup x.1 = none → body x (mk sl) = pure (.yield (mk (sl ++ [x])))) : forIn l (mk sl) body = pure (mk (sl ++ l)) := by
  have := forIn_more (l2 := []) hn hb
  rwa [List.append_nil] at this

section
variable {prog : Program} {C : Cx} {A : Around} {E : Value → Shared → Prop} {d : Addr}
theorem key_is (x y : List Nat) (t : Tok) : (Value.str (strV x) t).isStr (strV y) = (x == y) := by
  show (strV x == strV y) = _
  exact strV_inj
theorem set_new {s : Shared} {l : List (List Nat × Tok × Value)} {k : List Nat} {v : Value} {Q : Unit → Shared → Prop} (D : s.heap.get? d = some (dictOf (entsOf C.w l) l.length)) (hk : k ∉ l.map (·.1))
    (h : ∀ h', h'.get? d = some (dictOf (entsOf C.w (l ++ [(k, s.toks, v)])) (l ++ [(k, s.toks, v)]).length) → Heap.SameBut d s.heap h' → Q () { s with heap := h', toks := s.toks + 1 }) :
    wpAny (model prog C.w) A (nsSet d (strV k) v) Q E s := by
  have hs : ∀ e ∈ entsOf C.w l, e.key.isStr (strV k) = false := fun e he => by
    obtain ⟨p, hp, rfl⟩ := List.mem_map.mp he
    exact (key_is p.1 k _).trans (beq_eq_false_iff_ne.mpr fun q => hk (q ▸ List.mem_map_of_mem hp))
  have hr : ∀ e ∈ entsOf C.w l, e.refKey = false := fun e he => by
    obtain ⟨p, hp, rfl⟩ := List.mem_map.mp he
    rfl
  have none_of : ∀ {f : DictEntry → Bool}, (∀ e ∈ entsOf C.w l, f e = false) → (entsOf C.w l).any f = false := fun h => List.any_eq_false.mpr fun e he q => by rw [h e he] at q; cases q
  have e : Obj.putName (strV k) (PyData.keyHash C.w.params (strV k)) (.str (strV k) s.toks) v (dictOf (entsOf C.w l) l.length) = dictOf (entsOf C.w (l ++ [(k, s.toks, v)])) (l ++ [(k, s.toks, v)]).length := by
    rw [putName_dict, putL_new hs]
    unfold putN entsOf
    rw [show (List.map (fun p => (⟨hashStr C.w (strV p.1), .str (strV p.1) p.2.1, p.2.2⟩ : DictEntry)) l).any (·.key.isStr (strV k)) = false from none_of hs, List.map_append, List.length_append]
    rfl
  have c : aRefKeyMayBeTheName (strV k) (entsOf C.w l).toArray = false := by
    rw [aRefKeyMayBeTheName_at, ← Array.any_toList, ← Array.any_toList]
    show (!(entsOf C.w l).any (·.key.isStr (strV k)) && (entsOf C.w l).any (·.refKey)) = false
    rw [none_of hr, Bool.and_false]
  unfold nsSet
  refine wpAny_bind (wpAny_bind (wpAny_askSetting (wpAny_pure (wpAny_bind (wpAny_mkText (wpAny_bind (wpAny_loadPart D ?_)))))))
  dsimp only
  rw [c]
  have U := Heap.get?_update_self (Obj.putName (strV k) (PyData.keyHash C.w.params (strV k)) (.str (strV k) s.toks) v) D (by rw [e]; rfl)
  rw [e] at U
  exact wpAny_updatePart D (h _ U (Heap.SameBut.update ..))
theorem fill_new {Q : PUnit → Shared → Prop} : ∀ (ks : List (List Nat × Value)) (l : List (List Nat × Tok × Value)) (s : Shared), s.heap.get? d = some (dictOf (entsOf C.w l) l.length) → (l.map (·.1) ++ ks.map (·.1)).Nodup →
    (∀ h' tk l', h'.get? d = some (dictOf (entsOf C.w l') l'.length) → l'.map (·.1) = l.map (·.1) ++ ks.map (·.1) → l'.map (·.2.2) = l.map (·.2.2) ++ ks.map (·.2) → Heap.ExtBut d s.heap h' → Q ⟨⟩ { s with heap := h', toks := tk }) →
    wpAny (model prog C.w) A (forIn (ks.map fun p => (strV p.1, p.2)) PUnit.unit fun x _ => (nsSet d x.1 x.2 >>= fun _ => pure (ForInStep.yield PUnit.unit))) Q E s
  | [], l, s, D, _, h => wpAny_pure (h s.heap s.toks l D (List.append_nil _).symm (List.append_nil _).symm fun _ _ _ e => e)
  | (k, v) :: r, l, s, D, hn, h => by
    rw [List.map_cons, List.forIn_cons]
    have e1 : ∀ {β : Type} (f : List Nat × Tok × Value → β) (g : β) (q : List β), f (k, s.toks, v) = g → (l ++ [(k, s.toks, v)]).map f ++ q = l.map f ++ g :: q := fun f g q e => by rw [List.map_append, List.append_assoc, ← e]; rfl
    refine wpAny_bind (wpAny_bind (set_new D (fun m => ?_) fun h' D' hs => wpAny_pure ?_))
    · rw [List.nodup_append] at hn
      exact hn.2.2 _ m _ (.head _) rfl
    · refine fill_new r _ { s with heap := h', toks := s.toks + 1 } D' (by rw [e1 (·.1) k _ rfl]; exact hn) fun h'' tk l' D'' a b he => h h'' tk l' D'' ?_ ?_ fun x o n e => he x o n (hs.extBut x o n e)
      · rw [a, e1 (·.1) k _ rfl]; rfl
      · rw [b, e1 (·.2.2) v _ rfl]; rfl

theorem bind_all {s : Shared} {Q : List (Str × Value) → Shared → Prop} {fd : FuncData} {vals pad D0 : List Value} {kvs : List (Str × Value)} {ex : List (List Nat × Value)} {N X kwo : List Str}
    (h1 : fd.params.posonlyargs = []) (h2 : fd.params.vararg = none) (hp : fd.params.args.map (·.arg) = N ++ X) (hk : fd.params.kwonlyargs.map (·.arg) = kwo)
    (hD : ∀ Q' : Option (Array Value) → Shared → Prop, (∀ o, (o.getD #[]).toList = D0 ++ pad → Q' o s) → wpAny (model prog C.w) A (seqItems? fd.defaults) Q' E s)
    (hn : (N ++ X ++ kwo).Nodup) (hl : N.length = vals.length) (hX : X.length = pad.length) (hD0 : D0.length ≤ N.length) (hkv : kvs.map (·.1) = kwo)
    (hex : ∀ k ∈ ex.map (·.1), strV k ∉ N ++ X ∧ strV k ∉ kwo) (hnx : (ex.map (·.1)).Nodup) (hz : ex.length ≤ 1000) (hkw : ex = [] ∨ fd.params.kwarg.isSome = true)
    (q : match fd.params.kwarg with
      | none => Q (N.zip vals ++ X.zip pad ++ kvs) s
      | some a => ∀ h' tk l', h'.get? s.heap.objs.size = some (dictOf (entsOf C.w l') l'.length) → l'.map (·.1) = ex.map (·.1) → l'.map (·.2.2) = ex.map (·.2) → (∀ b o, s.heap.get? b = some o → h'.get? b = some o) →
        Q (N.zip vals ++ X.zip pad ++ kvs ++ [(a.arg, .ref s.heap.objs.size)]) { s with heap := h', toks := tk }) :
    wpAny (model prog C.w) A (bindArgs fd ⟨vals, kvs ++ ex.map fun p => (strV p.1, p.2)⟩) Q E s := by
  have z1 : (N.zip vals).map (·.1) = N := List.map_fst_zip (Nat.le_of_eq hl)
  have z2 : (X.zip pad).map (·.1) = X := List.map_fst_zip (Nat.le_of_eq hX)
  have hperm : (N ++ X ++ kwo).Perm (N ++ kwo ++ X) := by
    rw [List.append_assoc, List.append_assoc]; exact (List.perm_append_comm).append_left N
  have hn2 : ((N.zip vals ++ kvs ++ X.zip pad).map (·.1)).Nodup := by rw [List.map_append, List.map_append, z1, z2, hkv]; exact hperm.nodup_iff.mp hn
  have hn3 : ((N.zip vals ++ kvs).map (·.1)).Nodup := by rw [List.map_append] at hn2; exact (List.nodup_append.mp hn2).1
  have hlk : ∀ p ∈ N.zip vals ++ kvs, (N.zip vals ++ kvs).lookup p.1 = some p.2 := fun p hp => lookup_of hn3 hp
  have hN : ∀ n ∈ N, ∃ v, (N.zip vals ++ kvs).lookup n = some v := fun n hm => by
    rw [← z1] at hm
    obtain ⟨p, hp, rfl⟩ := List.mem_map.mp hm
    exact ⟨_, hlk p (List.mem_append_left _ hp)⟩
  unfold bindArgs
  extract_lets fname p posonly normal positional kwonly npos given slots extra
  have e1 : posonly = [] := by show List.map _ fd.params.posonlyargs = _; rw [h1]; rfl
  have e2 : normal = N ++ X := hp
  have e3 : positional = N ++ X := by show posonly ++ normal = _; rw [e1, e2]; rfl
  have e4 : kwonly = kwo := hk
  have e5 : slots = N.zip vals := by
    show positional.zip vals = _
    rw [e3, ← List.append_nil vals, List.zip_append hl, List.zip_nil_right, List.append_nil, List.append_nil]
  have e6 : npos = N.length + X.length := by show positional.length = _; rw [e3, List.length_append]
  refine wpAny_bind (wpAny_of_eq (a := (N.zip vals ++ kvs, ex.map fun p => (strV p.1, p.2))) ?_ ?_)
  · rw [e5]
    rw [forIn_more (mk := fun sl => (sl, ([] : List (Str × Value)))) hn3 fun x hx sl hs => ?_]
    · rcases hkw with rfl | hkw
      · rfl
      · refine forIn_all (mk := fun sl => (N.zip vals ++ kvs, sl)) (sl := []) (by
          rw [List.nil_append, List.map_map]
          exact (show (ex.map (fun p => strV p.1)).Nodup by
            rw [show ex.map (fun p => strV p.1) = (ex.map (·.1)).map strV from by rw [List.map_map]; rfl]
            exact List.pairwise_map.mpr (hnx.imp fun h q => h (strV_inj' q)))) fun x hx sl hs => ?_
        obtain ⟨k, hk', rfl⟩ := List.mem_map.mp hx
        obtain ⟨g1, g2⟩ := hex k.1 (List.mem_map_of_mem hk')
        dsimp only
        rw [if_neg (by rw [e2, e4, List.contains_eq_mem, List.contains_eq_mem, decide_eq_false g1, decide_eq_false g2]; exact Bool.false_ne_true), if_pos hkw]
    · obtain ⟨k, v⟩ := x
      dsimp only at hs ⊢
      rw [if_pos (by rw [e4, ← hkv, Bool.or_eq_true]; exact .inr (List.contains_iff_mem.mpr (List.mem_map_of_mem (f := (·.1)) hx))), if_neg (by rw [hs]; exact Bool.false_ne_true)]
  · dsimp only
    refine wpAny_bind (hD _ fun o ho => ?_)
    have hgiven : given = N.length := hl.symm
    rw [if_neg (by rw [hgiven, e6, Bool.and_eq_true]; exact fun h => absurd (of_decide_eq_true h.1) (Nat.not_lt.mpr (Nat.le_add_right _ _)))]
    have hlen : (D0 ++ pad).length = D0.length + X.length := by rw [List.length_append, hX]
    have hd : List.drop ((o.getD #[]).toList.length - npos) (o.getD #[]).toList = D0 ++ pad := by
      rw [ho, hlen, e6, Nat.sub_eq_zero_of_le (Nat.add_le_add_right hD0 _)]; rfl
    rw [hd, hlen, e6, Nat.add_sub_add_right, e3]
    have ht : (N ++ X).take (N.length - D0.length) = N.take (N.length - D0.length) := List.take_append_of_le_length (Nat.sub_le ..)
    have hdr : (N ++ X).drop (N.length - D0.length) = N.drop (N.length - D0.length) ++ X := List.drop_append_of_le_length (Nat.sub_le ..)
    rw [ht, hdr, List.zip_append (by rw [List.length_drop, Nat.sub_sub_self hD0])]
    rw [if_neg (by
      rw [List.filter_eq_nil_iff.mpr (fun n hm => by
        obtain ⟨v, hv⟩ := hN n (List.mem_of_mem_take hm)
        rw [hv]; exact Bool.false_ne_true)]
      exact Bool.false_ne_true)]
    refine wpAny_bind (wpAny_of_eq (a := N.zip vals ++ kvs ++ X.zip pad) ?_ ?_)
    · rw [forIn_skip fun x hx => ?_]
      · refine forIn_all (mk := id) hn2 fun x hx sl hs => ?_
        obtain ⟨k, v⟩ := x
        dsimp only [id] at hs ⊢
        rw [if_pos (by rw [hs]; rfl)]
      · obtain ⟨k, v⟩ := x
        obtain ⟨u, hu⟩ := hN k (List.mem_of_mem_drop (List.of_mem_zip hx).1)
        dsimp only
        rw [hu]; rfl
    rw [e4]
    have hkk : ∀ n ∈ kwo, ∃ v, (N.zip vals ++ kvs ++ X.zip pad).lookup n = some v := fun n hm => by
      rw [← hkv] at hm
      obtain ⟨p, hp, rfl⟩ := List.mem_map.mp hm
      exact ⟨_, lookup_of hn2 (List.mem_append_left _ (List.mem_append_right _ hp))⟩
    refine wpAny_bind (wpAny_of_eq (a := (N.zip vals ++ kvs ++ X.zip pad, [])) (forIn_same fun n hm => by
      obtain ⟨v, hv⟩ := hkk n hm
      dsimp only
      rw [hv]; rfl) ?_)
    have ev : p.vararg = none := h2
    refine bm_if_false rfl ?_
    dsimp only
    rw [ev]
    have hfin : List.filterMap (fun n => Option.map (fun x => (n, x)) (List.lookup n (N.zip vals ++ kvs ++ X.zip pad))) (N ++ X ++ kwo) = N.zip vals ++ X.zip pad ++ kvs := by
      have e : N ++ X ++ kwo = (N.zip vals ++ X.zip pad ++ kvs).map (·.1) := by rw [List.map_append, List.map_append, z1, z2, hkv]
      rw [e]
      refine fm_all fun p hp => lookup_of hn2 ?_
      rcases List.mem_append.mp hp with hp | hp
      · rcases List.mem_append.mp hp with hp | hp
        · exact List.mem_append_left _ (List.mem_append_left _ hp)
        · exact List.mem_append_right _ hp
      · exact List.mem_append_left _ (List.mem_append_right _ hp)
    rw [hfin]
    show wpAny _ A (match fd.params.kwarg with | some a => _ | x => _) Q E s
    cases hka : fd.params.kwarg with
    | none => rw [hka] at q; exact wpAny_pure q
    | some a =>
      rw [hka] at q
      show wpAny _ A (if (ex.map fun p => (strV p.1, p.2)).length > sizeLine + 1 then _ else _) Q E s
      rw [if_neg (by rw [List.length_map]; exact Nat.not_lt.mpr (Nat.le_trans hz (by decide)))]
      refine wpAny_bind (wpAny_alloc (wpAny_bind ?_))
      refine fill_new ex [] { s with heap := s.heap.push { cls := .type "dict", data := .dict #[] } } (Heap.get?_push_size _ rfl) (by rw [List.map_nil, List.nil_append]; exact hnx) fun h' tk l' D' a' b' he => wpAny_pure (q h' tk l' D' a' b' fun b o e => he b o (Nat.ne_of_lt (Heap.lt_size e)) (Heap.get?_push_of_some _ e))
end
end Mine

namespace Mine

theorem any_some {α : Type} {o : Option α} {f : α → Bool} (h : o.any f = true) : ∃ x, o = some x ∧ f x = true := by
  cases o with
  | none => cases h
  | some x => exact ⟨x, rfl, h⟩
noncomputable def dfl1 (v : Value) (d : V) : Bool := match d with
  | .none => v == .none
  | .int j => (match v with
    | .int i _ => i == j
    | _ => false)
  | _ => false
theorem dfl1_vr {g : Part} {φ : List Addr} {v : Value} {d : V} (h : dfl1 v d = true) : VR g φ v d := by
  cases d with
  | none => exact beq' h
  | int j =>
    cases v with
    | int i t => exact ⟨t, by rw [beq' (show (i == j) = true from h)]⟩
    | _ => cases h
  | _ => cases h
noncomputable def dflB : List Value → List V → Bool
  | [], l => l.isEmpty
  | v :: r, l => match l with
    | [] => false
    | d :: q => dfl1 v d && dflB r q
theorem dflB_vrs {g : Part} {φ : List Addr} : ∀ {vs : List Value} {ds : List V}, dflB vs ds = true → VRs g φ vs ds
  | [], ds, h => by rw [List.isEmpty_iff.mp h]; exact .nil
  | v :: r, ds, h => by
    cases ds with
    | nil => cases h
    | cons d q => obtain ⟨h1, h2⟩ := and2 h; exact .cons (dfl1_vr h1) (dflB_vrs h2)

noncomputable def strNodup : List String → Bool
  | [] => true
  | x :: r => !r.contains x && strNodup r
theorem strNodup_of : ∀ {l : List String}, strNodup l = true → l.Nodup
  | [], _ => List.nodup_nil
  | x :: r, h => by
    obtain ⟨h1, h2⟩ := and2 h
    exact List.nodup_cons.mpr ⟨by simpa using h1, strNodup_of h2⟩

noncomputable def dflItems (K : Frag) (dV : Value) : Option (List Value) := match dV with
  | .none => some []
  | .ref T => (match K.lookup T with
    | some ⟨_, _, .seq items _, _⟩ => some items.toList
    | _ => none)
  | _ => none
noncomputable def heads (fn : Fn) : Bool := fn.kwarg.isNone || (fn.kwo.isEmpty && fn.pos.all fun x => (Str.ofString x).cps.toList.head? != some 107)
noncomputable def Fn.names (fn : Fn) : List String := fn.pos ++ fn.kwo.map (·.1) ++ fn.kwarg.toList
noncomputable def bindB (K : Frag) (fd : FuncData) (fn : Fn) : Bool :=
  fd.params.posonlyargs.isEmpty && (fd.params.vararg.isNone && (decide (fd.params.args.map (·.arg) = fn.pos.map Str.ofString) && (decide (fd.params.kwonlyargs.map (·.arg) = fn.kwo.map fun p => strV p.2) && (fn.kwo.all (fun p => Str.ofString p.1 == strV p.2)
    && (decide (fd.params.kwarg.map (·.arg) = fn.kwarg.map Str.ofString) && (strNodup fn.names && (storeN fd.scope.names fn.names && (decide (fn.dfl.length ≤ fn.pos.length) && (heads fn && ((dflItems K fd.defaults).any fun D => dflB D fn.dfl))))))))))

noncomputable def fnOkB (K : Frag) (Γ : Ctx) (fn : Fn) (a : Addr) : Bool := match K.lookup a with
  | some ⟨_, _, .func fd, _⟩ => (match fd.body with
    | .stmts body => !fd.scope.isCoroutine && !fd.scope.isGenerator && codeIn K fd.code fd.qualname && fd.closure.isEmpty && decide (fd.globals = mainGlobals) && decide (fd.builtins = builtinsNs) && decide (fd.scope.kind = .function)
        && fd.scope.names.all (fun x => x.2 != .free) && bindB K fd fn && chkSs Γ fd.scope.names fn.body body
    | _ => false)
  | _ => false

theorem ofString_nodup {l : List String} (h : l.Nodup) : (l.map Str.ofString).Nodup := List.pairwise_map.mpr (h.imp fun h q => h (ofString_inj q))
theorem zip_fst {α β : Type} {a : List α} {b : List β} (h : a.length = b.length) : (a.zip b).map (·.1) = a := List.map_fst_zip (Nat.le_of_eq h)
theorem zip_snd {α β : Type} {a : List α} {b : List β} (h : a.length = b.length) : (a.zip b).map (·.2) = b := List.map_snd_zip (Nat.le_of_eq h.symm)
theorem zip_some (a : List String) (b : List V) : a.zip (b.map some) = (a.zip b).map fun p => (p.1, some p.2) := by rw [List.zip_map_right]; rfl
theorem zip_fs : ∀ l : List (Str × Value), (l.map (·.1)).zip (l.map (·.2)) = l
  | [] => rfl
  | x :: r => congrArg (x :: ·) (zip_fs r)
theorem map_zip {β : Type} (f : String → Str) (a : List String) (b : List β) : (a.zip b).map (fun p => f p.1) = ((a.zip b).map (·.1)).map f := by rw [List.map_map]; rfl

section
variable {prog : Program} {hb : Heap} {C : Cx} {K : Frag} {mg mb : Str → Option Value} {Γ : Ctx} {cfg : Cfg} {n : Nat} {O : Orc} {g : Part} {φ : List Addr}

theorem pad_ok {fn : Fn} {args : List V} {vals D : List Value} (hl : (fn.pad args).length = fn.pos.length) (hD : dflB D fn.dfl = true) (hle : fn.dfl.length ≤ fn.pos.length) (VV : VRs g φ vals args) :
    ∃ N X D0 pad, fn.pos.map Str.ofString = N ++ X ∧ D = D0 ++ pad ∧ N.length = vals.length ∧ X.length = pad.length ∧ D0.length ≤ N.length ∧ VRs g φ (vals ++ pad) (fn.pad args) := by
  have hD' : VRs g φ D fn.dfl := dflB_vrs hD
  have hv := VV.length
  have hd := hD'.length
  have hp : fn.pad args = args ++ fn.dfl.drop (fn.dfl.length - (fn.pos.length - args.length)) ∧ args.length ≤ fn.pos.length ∧ fn.pos.length - args.length ≤ fn.dfl.length := by
    unfold Fn.pad at hl ⊢
    split at hl
    · rename_i h
      rw [if_pos h]
      rw [List.length_append, List.length_drop] at hl
      exact ⟨rfl, by omega, by omega⟩
    · rename_i h
      rw [if_neg h, hl, Nat.sub_self, Nat.sub_zero, List.drop_length, List.append_nil]
      exact ⟨rfl, Nat.le_refl _, Nat.zero_le _⟩
  obtain ⟨h1, h2, h3⟩ := hp
  refine ⟨(fn.pos.map Str.ofString).take args.length, (fn.pos.map Str.ofString).drop args.length, D.take (fn.dfl.length - (fn.pos.length - args.length)), D.drop (fn.dfl.length - (fn.pos.length - args.length)),
    (List.take_append_drop ..).symm, (List.take_append_drop ..).symm, ?_, ?_, ?_, by rw [h1]; exact VV.append (hD'.drop _)⟩
  · rw [List.length_take, List.length_map, hv]; omega
  · rw [List.length_drop, List.length_drop, List.length_map]; omega
  · rw [List.length_take, List.length_take, List.length_map]; omega

theorem bindB_ok (X : K.In hb) (hbig : ∃ a o, hb.get? a = some o ∧ sysModules < a) {fd : FuncData} {fn : Fn} (h : bindB K fd fn = true) : BindOK prog hb C fd fn := by
  obtain ⟨h1, h⟩ := and2 h
  obtain ⟨h2, h⟩ := and2 h
  obtain ⟨h3, h⟩ := and2 h
  obtain ⟨h4, h⟩ := and2 h
  obtain ⟨h4', h⟩ := and2 h
  obtain ⟨h5, h⟩ := and2 h
  obtain ⟨h6, h⟩ := and2 h
  obtain ⟨h7, h⟩ := and2 h
  obtain ⟨h8, h⟩ := and2 h
  obtain ⟨h9, h10⟩ := and2 h
  obtain ⟨D, hD, h10⟩ := any_some h10
  have h4k : (fn.kwo.map fun p => strV p.2) = (fn.kwo.map (·.1)).map Str.ofString := by
    rw [List.map_map]
    exact List.map_congr_left fun p hp => (beq' (List.all_eq_true.mp h4' p hp)).symm
  have hnn := strNodup_of h6
  intro args kws σ ρ τ hbd A s φ g E vals kvs S VV KV
  obtain ⟨hlen, hbd⟩ := ite_some hbd
  obtain ⟨N, X', D0, pad, e1, e2, e3, e4, e5, hW⟩ := pad_ok hlen h10 (of_decide_eq_true h8) VV
  have hz : N.zip vals ++ X'.zip pad = (fn.pos.map Str.ofString).zip (vals ++ pad) := by rw [e1, List.zip_append e3]
  have hwl : (fn.pos.map Str.ofString).length = (vals ++ pad).length := by rw [List.length_map, hW.length, hlen]
  have hDo : ∀ Q' : Option (Array Value) → Shared → Prop, (∀ o, (o.getD #[]).toList = D0 ++ pad → Q' o s) → wpAny (model prog C.w) A (seqItems? fd.defaults) Q' E s := by
    intro Q' q
    unfold dflItems at hD
    split at hD
    · rename_i hv; rw [hv]; cases hD; exact wpAny_pure (q none e2)
    · rename_i T hv
      rw [hv]
      split at hD
      · rename_i hT; cases hD; exact wpAny_seqItems (S.hbk _ _ (X _ _ hT)) rfl (q _ e2)
      · cases hD
    · cases hD
  have hkk : (fn.pos.map Str.ofString ++ fn.kwo.map fun p => strV p.2).Nodup := by
    rw [h4k, ← List.map_append]
    exact ofString_nodup (List.nodup_append.mp hnn).1
  have b1 : ((fn.pos.map Str.ofString).zip (vals ++ pad)).map (·.1) = (fn.pos.zip (fn.pad args)).map fun p => Str.ofString p.1 := by rw [zip_fst hwl, map_zip, zip_fst hlen.symm]
  have b2 : VRs g φ (((fn.pos.map Str.ofString).zip (vals ++ pad)).map (·.2)) ((fn.pos.zip (fn.pad args)).map (·.2)) := by rw [zip_snd hwl, zip_snd hlen.symm]; exact hW
  have kinds : ∀ {binds : List (Str × Value)} {ps : List (String × V)}, binds.map (·.1) = ps.map (fun p => Str.ofString p.1) → ps.map (·.1) = fn.names → ∀ b ∈ binds, fd.scope.names.lookup b.1 = some .local ∨ fd.scope.names.lookup b.1 = some .cell := by
    intro binds ps q1 q2 b hb'
    have m : b.1 ∈ ps.map fun p => Str.ofString p.1 := q1 ▸ List.mem_map_of_mem (f := (·.1)) hb'
    obtain ⟨p, hp, e⟩ := List.mem_map.mp m
    rw [← e]
    exact (Bool.or_eq_true_iff.mp (List.all_eq_true.mp h7 p.1 (q2 ▸ List.mem_map_of_mem hp))).imp beq' beq'
  cases hka : fn.kwarg with
  | none =>
    rw [hka] at hbd h5
    obtain ⟨hkw, hbd⟩ := ite_some hbd
    cases hbd
    have hfk : fd.params.kwarg = none := Option.map_eq_none_iff.mp (of_decide_eq_true h5)
    have hkl : (fn.kwo.map (·.1)).length = (kws.map (·.2)).length := by
      have := congrArg List.length hkw
      rw [List.length_map, List.length_map] at this
      rw [List.length_map, List.length_map, this]
    have hkv : kvs.map (·.1) = fn.kwo.map fun p => strV p.2 := by
      rw [KV.1, show (kws.map fun p => strV p.1) = (kws.map (·.1)).map strV from by rw [List.map_map]; rfl, ← hkw, List.map_map]; rfl
    have hn := fn.names
    rw [← List.append_nil kvs]
    refine bind_all (ex := []) (List.isEmpty_iff.mp h1) (Option.isNone_iff_eq_none.mp h2) ((of_decide_eq_true h3).trans e1) (of_decide_eq_true h4) hDo (by rw [← e1]; exact hkk) e3 e4 e5 hkv (fun k hk => nomatch hk) List.nodup_nil (Nat.zero_le _) (.inl rfl) ?_
    rw [hfk]
    rw [hz]
    have c1 : ((fn.pos.map Str.ofString).zip (vals ++ pad) ++ kvs).map (·.1) = (fn.pos.zip (fn.pad args) ++ (fn.kwo.map (·.1)).zip (kws.map (·.2))).map fun p => Str.ofString p.1 := by
      rw [List.map_append, List.map_append, b1, hkv, h4k, map_zip Str.ofString (fn.kwo.map (·.1)), zip_fst hkl]
    have c2 : (fn.pos.zip (fn.pad args) ++ (fn.kwo.map (·.1)).zip (kws.map (·.2))).map (·.1) = fn.names := by
      unfold Fn.names
      rw [List.map_append, zip_fst hlen.symm, zip_fst hkl, hka]
      exact (List.append_nil _).symm
    refine ⟨φ, Grow.refl .., S, ⟨_, fn.rest, c1, ?_, ?_, c2 ▸ hnn⟩, kinds c1 c2, Rest.refl s⟩
    · rw [List.map_append, List.map_append, zip_snd hkl]; exact b2.append KV.2
    · rw [zip_some, List.map_append, ← zip_some (fn.kwo.map (·.1)), List.map_map]; rfl
  | some x =>
    rw [hka] at hbd h5
    obtain ⟨⟨z1, z2, z3, z4⟩, hbd⟩ := ite_some hbd
    cases hbd
    obtain ⟨a, hfk, hax⟩ := Option.map_eq_some_iff.mp (of_decide_eq_true h5)
    have hko : fn.kwo = [] := List.isEmpty_iff.mp z1
    have hkl : (kws.map (·.1)).length = (kvs.map (·.2)).length := by
      have := congrArg List.length KV.1
      rw [List.length_map, List.length_map] at this
      rw [List.length_map, List.length_map, this]
    have hex : kvs = [] ++ ((kws.map (·.1)).zip (kvs.map (·.2))).map fun p => (strV p.1, p.2) := by
      have : ((kws.map (·.1)).zip (kvs.map (·.2))).map (fun p => (strV p.1, p.2)) = ((kws.map (·.1)).map strV).zip (kvs.map (·.2)) := (List.zip_map_left (l₁ := kws.map (·.1)) (l₂ := kvs.map (·.2)) (f := strV)).symm
      rw [this, List.map_map, List.nil_append]
      exact (zip_fs kvs).symm.trans (congrArg (fun l => l.zip (kvs.map (·.2))) KV.1)
    have hhd : ∀ k ∈ kws.map (·.1), strV k ∉ fn.pos.map Str.ofString := fun k hk m => by
      obtain ⟨p, hp, rfl⟩ := List.mem_map.mp hk
      obtain ⟨y, hy, e⟩ := List.mem_map.mp m
      rcases Bool.or_eq_true_iff.mp h9 with q | q
      · rw [hka] at q; cases q
      · have q1 := List.all_eq_true.mp (and2 q).2 y hy
        have q2 := List.all_eq_true.mp z4 p hp
        rw [e] at q1
        rw [show (strV p.1).cps.toList.head? = p.1.head? from rfl, beq' q2] at q1
        cases q1
    refine (congrArg (fun l => wpAny (model prog C.w) A (bindArgs fd ⟨vals, l⟩) _ E s) hex).mpr ?_
    refine bind_all (kvs := []) (ex := (kws.map (·.1)).zip (kvs.map (·.2))) (kwo := []) (List.isEmpty_iff.mp h1) (Option.isNone_iff_eq_none.mp h2) ((of_decide_eq_true h3).trans e1) ((of_decide_eq_true h4).trans (by rw [hko]; rfl)) hDo (by rw [List.append_nil, ← e1]; exact (List.nodup_append.mp hkk).1) e3 e4 e5 rfl
      (fun k hk => ⟨by rw [zip_fst hkl] at hk; rw [← e1]; exact hhd k hk, fun m => nomatch m⟩) (by rw [zip_fst hkl]; exact z3) (by rw [List.length_zip, List.length_map]; exact Nat.le_trans (Nat.min_le_left ..) z2) (.inr (by rw [hfk]; rfl)) ?_
    rw [hfk, hz]
    intro h' tk l' D' q1 q2 hk'
    rw [zip_fst hkl] at q1
    rw [zip_snd hkl] at q2
    obtain ⟨S', G'⟩ := S.more (x := .dct kws) (fresh_none s.heap) hk' ⟨Nat.ne_of_gt (fresh_mods S hbig), z3, l', D', q1, by rw [q2]; exact KV.2.mono (fun _ _ e => e) (List.prefix_append ..)⟩
    have c1 : ((fn.pos.map Str.ofString).zip (vals ++ pad) ++ ([] : List (Str × Value)) ++ [(a.arg, Value.ref s.heap.objs.size)]).map (fun b : Str × Value => b.1) = (fn.pos.zip (fn.pad args) ++ [(x, V.own σ.length)]).map fun p => Str.ofString p.1 := by
      rw [List.append_nil, List.map_append, List.map_append, b1]
      exact congrArg (fun y => _ ++ [y]) hax
    have c2 : (fn.pos.zip (fn.pad args) ++ [(x, V.own σ.length)]).map (·.1) = fn.names := by
      unfold Fn.names
      rw [List.map_append, zip_fst hlen.symm, hka, hko]
      exact congrArg (· ++ [x]) (List.append_nil _).symm
    refine ⟨_, G', S', ⟨_, fn.rest, c1, ?_, ?_, c2 ▸ hnn⟩, kinds c1 c2, ⟨_, _, rfl⟩⟩
    · rw [List.append_nil, List.map_append, List.map_append]
      exact (b2.mono (fun _ _ e => e) (List.prefix_append ..)).append (.cons (.own (by rw [← S.len, List.getElem?_append_right (Nat.le_refl _), Nat.sub_self]; rfl)) .nil)
    · rw [zip_some, List.map_append]; rfl

noncomputable def tabB (K : Frag) (Γ : Ctx) (T : List (String × Fn)) : Bool := Γ.fa.all fun p => (T.lookup p.1).any fun fn => fnOkB K Γ fn p.2

theorem fnOk_of (X : K.In hb) {fn : Fn} {a : Addr} (h : fnOkB K Γ fn a = true) : ∃ fd body, FnS hb a fd body ∧ bindB K fd fn = true ∧ chkSs Γ fd.scope.names fn.body body = true := by
  unfold fnOkB at h
  split at h
  · rename_i c d fd sl ho
    split at h
    · rename_i body hbody
      simp only [Bool.and_eq_true, decide_eq_true_eq, Bool.not_eq_true'] at h
      obtain ⟨⟨⟨⟨⟨⟨⟨⟨⟨h1, h2⟩, h3⟩, h4⟩, h5⟩, h6⟩, h7⟩, h8⟩, h9⟩, h10⟩ := h
      exact ⟨fd, body, ⟨⟨_, X _ _ ho, rfl⟩, h1, h2, hbody, codeRec_of X h3, List.isEmpty_iff.mp h4, h5, h6, h7, fun x hx => by simpa using List.all_eq_true.mp h8 x hx⟩, h9, h10⟩
    · cases h
  · cases h

structure Base (hb : Heap) (C : Cx) (K : Frag) (mg mb : Str → Option Value) (Γ : Ctx) (cfg : Cfg) (T : List (String × Fn)) : Prop where
  cx : Γ.C = C.c
  cls : ClsOK K hb C.c Γ.FA
  pats : Pats hb cfg.nd cfg.vd
  g : hb.Ns mainGlobals mg
  b : hb.Ns builtinsNs mb
  lim : hb.NoLimit
  gl : ∀ x a, Γ.gl.lookup x = some a → mg (Str.ofString x) = some (.ref a)
  bi : ∀ f, Γ.bi.contains f = true → mg (Str.ofString f) = none ∧ mb (Str.ofString f) = some (biVal f)
  ty : ∀ x, Γ.ty.contains x = true → mg (Str.ofString x) = none ∧ mb (Str.ofString x) = some (.type x)
  keep : keepIn K (.ref C.c) = true
  big : ∃ a o, hb.get? a = some o ∧ sysModules < a
  tab : tabB K Γ T = true

theorem lookup_mem {α β : Type} [BEq α] [LawfulBEq α] {l : List (α × β)} {x : α} {y : β} (h : l.lookup x = some y) : (x, y) ∈ l := by
  induction l with
  | nil => cases h
  | cons p r ih =>
    rw [List.lookup_cons] at h
    split at h
    · rename_i q; cases h; rw [beq_iff_eq.mp q]; exact .head _
    · exact .tail _ (ih h)
theorem Base.fn {T : List (String × Fn)} (B : Base hb C K mg mb Γ cfg T) {f : String} {a : Addr} (hf : Γ.FA f = some a) : ∃ fn fd body, T.lookup f = some fn ∧ FnS hb a fd body ∧ bindB K fd fn = true ∧ chkSs Γ fd.scope.names fn.body body = true := by
  obtain ⟨fn, hfn, hm⟩ := any_some (List.all_eq_true.mp B.tab _ (lookup_mem (show Γ.fa.lookup f = some a from hf)))
  obtain ⟨fd, body, r⟩ := fnOk_of B.cls.kin hm
  exact ⟨fn, fd, body, hfn, r⟩
theorem calls_ok {T : List (String × Fn)} (B : Base hb C K mg mb Γ cfg T) : ∀ n, CallOK prog hb C Γ.FA n (callM cfg T n)
  | 0 => fun f a args kws σ d σ' hf h => by cases h
  | n + 1 => fun f a args kws σ d σ' hf h => by
    obtain ⟨fn, fd, body, hfn, F, hbd, hck⟩ := B.fn hf
    have G : Gnd prog hb C K mg mb Γ cfg n (callM cfg T n) := ⟨B.cx, B.cls, calls_ok B n, fun f a hf => by
      obtain ⟨fn, fd, body, hfn, F, -⟩ := B.fn hf
      obtain ⟨o, ho, hd⟩ := F.obj
      exact ⟨o, fd, ho, hd⟩, B.pats, B.g, B.b, B.gl, B.bi, B.ty, B.keep, B.big⟩
    exact call_step B.lim F (bindB_ok B.cls.kin B.big hbd) hfn (fun ρ τ fl ρ' τ' he env hsc => exs_sound G fn.body ⟨by rw [hsc]; exact F.kind, by rw [hsc]⟩ hck he) args kws σ d σ' h
end
end Mine

namespace Mine

theorem app_inj {p m m' : String} (h : p ++ m = p ++ m') : m = m' := by
  have := congrArg String.toList h
  simp only [String.toList_append, List.append_cancel_left_eq] at this
  exact String.toList_injective this

noncomputable def faOf (ms fs : List (String × Addr)) : List (String × Addr) := ms.map (fun p => ("Headers." ++ p.1, p.2)) ++ fs
noncomputable def clsB (K : Frag) (C : Addr) : Bool :=
  findIn K (.ref C) "__getattribute__" == some (some (.builtin "object.__getattribute__")) && findIn K (.ref C) "__getattr__" == some none && findIn K (.ref C) "__setattr__" == some (some (.builtin "object.__setattr__"))
    && plainOver K C && hasDictIn K C && findIn K (.ref C) "_headers" == some none && makesIn K C && keepIn K (.ref C)
noncomputable def methB1 (K : Frag) (C : Addr) (p : String × Addr) : Bool := findIn K (.ref C) (Str.ofString p.1) == some (some (.ref p.2)) && (typeIn K (.ref p.2) == some (.type "function") && (!(Str.ofString p.1 == ("_headers" : Str)) && (specialIn K (.ref p.2) "__get__" == some (some (.builtin "function.__get__")) && (takesIn K (.ref p.2) == some false && (!copiedNames.contains (Str.ofString p.1) && fnIn K p.2)))))
noncomputable def methB (K : Frag) (C : Addr) (ms : List (String × Addr)) : Bool := ms.all (methB1 K C)
noncomputable def isI0 : Value → Bool
  | .int i _ => i == 0
  | _ => false
theorem isI0_inv {v : Value} (h : isI0 v = true) : ∃ t, v = .int 0 t := by
  unfold isI0 at h
  split at h
  · rw [beq_iff_eq.mp h]; exact ⟨_, rfl⟩
  · cases h
noncomputable def codeB (K : Frag) (code : List Nat) : Value → Bool
  | .ref c => (match K.lookup c with
    | some ⟨_, _, .seq items _, _⟩ => decide (((items.map Builtin.Re.reRawOf).map (·.toNat)).toList = code)
    | _ => false)
  | _ => false
theorem codeB_inv {K : Frag} {code : List Nat} {v : Value} (h : codeB K code v = true) : ∃ c o items n, v = .ref c ∧ K.lookup c = some o ∧ o.data = .seq items n ∧ ((items.map Builtin.Re.reRawOf).map (·.toNat)).toList = code := by
  unfold codeB at h
  split at h
  · split at h
    · rename_i q; exact ⟨_, _, _, _, rfl, q, rfl, of_decide_eq_true h⟩
    · cases h
  · cases h
noncomputable def seven (f : Value → Value → Value → Value → Value → Value → Value → Bool) : List Value → Bool
  | [a, b, c, d, e, g, h] => f a b c d e g h
  | _ => false
theorem seven_inv {f : Value → Value → Value → Value → Value → Value → Value → Bool} {l : List Value} (q : seven f l = true) : ∃ a b c d e g h, l = [a, b, c, d, e, g, h] ∧ f a b c d e g h = true := by
  unfold seven at q
  split at q
  · exact ⟨_, _, _, _, _, _, _, rfl, q⟩
  · cases q
noncomputable def patO (K : Frag) (code : List Nat) (o : Obj) : Bool := o.cls == .type "re.Pattern" && o.dict.isNone && (match o.data with
  | .fields vs => seven (fun _ _ c _ _ g h => isI0 c && isI0 h && codeB K code g) vs.toList
  | _ => false)
noncomputable def patB (K : Frag) (a : Addr) (code : List Nat) : Bool := (K.lookup a).any (patO K code)
theorem patB_ok {K : Frag} {hb : Heap} (X : K.In hb) {a : Addr} {code : List Nat} (h : patB K a code = true) : IsPat hb a code := by
  unfold patB at h
  cases ho : K.lookup a with
  | none => rw [ho] at h; cases h
  | some o =>
  rw [ho] at h
  have h : patO K code o = true := h
  unfold patO at h
  rw [Bool.and_eq_true, Bool.and_eq_true] at h
  obtain ⟨⟨h1, h2⟩, h3⟩ := h
  split at h3
  · rename_i vs hd
    obtain ⟨p0, p1, v2, p3, p4, v5, v6, hv, h3⟩ := seven_inv h3
    rw [Bool.and_eq_true, Bool.and_eq_true] at h3
    obtain ⟨t2, rfl⟩ := isI0_inv h3.1.1
    obtain ⟨t6, rfl⟩ := isI0_inv h3.1.2
    obtain ⟨c, oc, items, n, rfl, hc, hdc, hcode⟩ := codeB_inv h3.2
    have hv' : vs = #[p0, p1, .int 0 t2, p3, p4, .ref c, .int 0 t6] := by rw [← Array.toList_inj, hv]
    subst hv'
    refine ⟨o, p0, p1, t2, p3, p4, c, t6, oc, items, n, X _ _ ho, beq_iff_eq.mp h1, by simpa using h2, hd, X _ _ hc, hdc, ?_⟩
    rw [← Array.toList_inj]; exact hcode
  · cases h3

noncomputable def namesB (K : Frag) (Γ : Ctx) : Bool :=
  Γ.gl.all (fun p => nsIn K mainGlobals (Str.ofString p.1) == some (some (.ref p.2))) &&
  Γ.bi.all (fun f => nsIn K mainGlobals (Str.ofString f) == some none && bootBuiltins (Str.ofString f) == some (biVal f) && !(Str.ofString f == ("__name__" : Str))) &&
  Γ.ty.all (fun f => nsIn K mainGlobals (Str.ofString f) == some none && bootBuiltins (Str.ofString f) == some (.type f) && !(Str.ofString f == ("__name__" : Str)))

theorem base_of {hb : Heap} {K : Frag} {w : World} {mg mb : Str → Option Value} {Γ : Ctx} {cfg : Cfg} {T : List (String × Fn)} {ms fs : List (String × Addr)} {a : Addr} (X : K.In hb) (g : hb.Ns mainGlobals mg) (b : hb.Ns builtinsNs mb) (lim : hb.NoLimit) (hm : ∀ x : Str, x ≠ "__name__" → mb x = bootBuiltins x)
    (hfa : Γ.fa = faOf ms fs) (hfs : (fs.all fun p => p.1.toList.head? != some 'H') = true) (hc : clsB K Γ.C = true) (hme : methB K Γ.C ms = true) (hn : patB K cfg.nd rxName = true) (hv : patB K cfg.vd rxValue = true) (hne : cfg.nd ≠ cfg.vd) (hnm : namesB K Γ = true)
    (ha : (K.lookup a).isSome = true) (hlt : sysModules < a) (ht : tabB K Γ T = true) : Base hb ⟨Γ.C, w⟩ K mg mb Γ cfg T := by
  unfold clsB at hc
  simp only [Bool.and_eq_true, beq_iff_eq] at hc
  obtain ⟨⟨⟨⟨⟨⟨⟨c1, c2⟩, c3⟩, c4⟩, c5⟩, c6⟩, c7⟩, c8⟩ := hc
  obtain ⟨n1, n2, n3⟩ := and3 hnm
  have hmeth : ∀ m a, Γ.FA ("Headers." ++ m) = some a → methB1 K Γ.C (m, a) = true := fun m a hf => by
    have hmem := lookup_mem (show Γ.fa.lookup ("Headers." ++ m) = some a from hf)
    rw [hfa] at hmem
    rcases List.mem_append.mp hmem with hmem | hmem
    · obtain ⟨p, hp, e⟩ := List.mem_map.mp hmem
      cases app_inj (Prod.mk.inj e).1
      rw [← (Prod.mk.inj e).2]
      exact List.all_eq_true.mp hme p hp
    · exfalso
      have := List.all_eq_true.mp hfs _ hmem
      simp only [String.toList_append, bne_iff_ne] at this
      exact this (by simp)
  obtain ⟨oa, hoa⟩ := is_some ha
  refine ⟨rfl, ⟨X, c1, c2, c3, c4, c5, c6, c7, fun m a hf => ?_, fun m a hf => ?_⟩, ⟨patB_ok X hn, patB_ok X hv, hne⟩, g, b, lim, fun x a hx => mg_of X g (beq' (List.all_eq_true.mp n1 _ (lookup_mem hx))), fun f hf => ?_, fun f hf => ?_, c8, ⟨a, oa, X _ _ hoa, hlt⟩, ht⟩
  · have q := (and2 (and2 (and2 (hmeth m a hf)).2).2).2
    exact ⟨beq' (and2 q).1, beq' (and2 (and2 q).2).1, by simpa using (and2 (and2 (and2 q).2).2).1, (and2 (and2 (and2 q).2).2).2⟩
  · have q := hmeth m a hf
    exact ⟨beq' (and2 q).1, beq' (and2 (and2 q).2).1, by simpa using (and2 (and2 (and2 q).2).2).1⟩
  · have := and3 (List.all_eq_true.mp n2 f (by simpa using hf))
    exact ⟨mg_none_of X g (beq' this.1), by rw [hm _ (by simpa using this.2.2)]; exact beq' this.2.1⟩
  · have := and3 (List.all_eq_true.mp n3 f (by simpa using hf))
    exact ⟨mg_none_of X g (beq' this.1), by rw [hm _ (by simpa using this.2.2)]; exact beq' this.2.1⟩
end Mine

namespace Mine

theorem ints_vrs {g : Part} {φ : List Addr} {vs : List Value} {is : List Int} (h : IntsAre vs is) : VRs g φ vs (is.map .int) := by
  induction h with
  | nil => exact .nil
  | cons n t _ ih => exact .cons (.int n t) ih
theorem sim_nil (h : Heap) (C : Cx) : Sim h C [] [] h.get? h :=
  ⟨fun _ _ e => e, fun _ _ e => e, rfl, fun _ m => (nomatch m), fun _ _ _ e _ => (by cases e), List.nodup_nil⟩
theorem law_end {prog : Program} {w : World} {s₁ : Shared} {K : Frag} {mg mb : Str → Option Value} {Γ : Ctx} {cfg : Cfg} {T : List (String × Fn)} {n : Nat} {c : ClaimW} {cl : Str → Option Addr} {mean : ExcName → Option Value} {args : List WData} {a fa : Addr} {vs : List Value} {is : List Int}
    {C : Addr} (B : Base s₁.heap ⟨C, w⟩ K mg mb Γ cfg T) (hfa : Γ.FA "law" = some fa) (ho : s₁.heap.get? a = some { cls := .type "list", data := .seq vs.toArray }) (hI : IntsAre vs is) (hg : s₁.gens = #[]) (ht : 1 ≤ s₁.toks) (plain : callM cfg T n "law" [.list (is.map .int)] [] [] = some (.bool true, [])) (hn : n ≤ 100)
    (hr : ∀ cls, c.raises args cls = false) (hp : c.post args (.bool true) args = true) : codeAny (model prog w) callerA (.call (.ref fa) ⟨[.ref a], []⟩) (GoodWG c cl mean args s₁) s₁ := by
  refine codeAny_mono (calls_ok (prog := prog) B n "law" fa [.list (is.map .int)] [] [] _ _ hfa plain callerA s₁ [] s₁.heap.get? [.ref a] []
    ⟨rfl, by show 1 + 300 + 4 * n < 1000; omega, by show 4 + 40 * n + 300 < 9900; omega, ht⟩ (sim_nil _ _) (.cons (.list ho rfl rfl rfl (ints_vrs hI)) .nil) KRs.nil) fun r s' h => ?_
  rcases r with e | (_ | _ | _ | v) <;> first | exact h.elim | skip
  dsimp only at h
  obtain ⟨φ', g', G, S, V, h', tk, rfl⟩ := h
  cases V
  refine ⟨.inl ⟨_, _, [], rfl, hr, ReadsW.bool true, hp, fun _ => ⟨List.nodup_nil, fun _ hm => (nomatch hm)⟩⟩, .of_keep fun b o e => G.keep b o e (fun m => (nomatch m)), rfl, .of_eq hg⟩
end Mine

namespace Mine
noncomputable def fn_formatparam (K : Cfg) : Fn where
  pos := ["param", "value", "quote"]
  dfl := [.none, (.int 1)]
  rest := []
  body := (.cons (.ite (.and (.cons (.cmp .IsNot (.var "value") .none) (.cons (.cmp .Gt (.bi "len" (.cons (.var "value") .nil)) (.int 0)) .nil))) (.cons (.ite (.or (.cons (.var "quote") (.cons (.sm (.glob "tspecials" 43) "search" (.cons (.var "value") .nil)) .nil))) (.cons (.assign (.one "value") (.repl (.repl (.var "value") 92 [92, 92]) 34 [92, 34])) (.cons (.ret (.fmt (.var "param") [61, 34] (.var "value") [34])) .nil)) (.cons .raise .nil)) .nil) (.cons (.ret (.var "param")) .nil)) .nil)

noncomputable def fn_H_init (K : Cfg) : Fn where
  pos := ["self", "headers"]
  dfl := [.none]
  rest := ["k", "v"]
  body := (.cons (.assign (.one "headers") (.ife (.cmp .IsNot (.var "headers") .none) (.var "headers") (.list true .nil))) (.cons (.ite (.cmp .IsNot (.bi "type" (.cons (.var "headers") .nil)) (.tyn "list")) (.cons .raise .nil) .nil) (.cons (.setattr (.var "self") (.var "headers")) (.cons (.ite (.bool true) (.cons (.for (.tup ["k", "v"]) (.var "headers") (.cons (.expr (.meth (.var "self") "_convert_string_type" (.cons (.var "k") .nil) (.cons [110, 97, 109, 101] (.bool true) .nil))) (.cons (.expr (.meth (.var "self") "_convert_string_type" (.cons (.var "v") .nil) (.cons [110, 97, 109, 101] (.bool false) .nil))) .nil))) .nil) .nil) .nil))))

noncomputable def fn_Hconvert_string_type (K : Cfg) : Fn where
  pos := ["self", "value"]
  kwo := [("name", [110, 97, 109, 101])]
  rest := ["regex"]
  body := (.cons (.ite (.cmp .Is (.bi "type" (.cons (.var "value") .nil)) (.tyn "str")) (.cons (.assign (.one "regex") (.ife (.var "name") (.glob "_name_disallowed_re" K.nd) (.glob "_value_disallowed_re" K.vd))) (.cons (.ite (.sm (.var "regex") "search" (.cons (.var "value") .nil)) (.cons .raise .nil) .nil) (.cons (.ret (.var "value")) .nil))) .nil) (.cons .raise .nil))

noncomputable def fn_H_get_all (K : Cfg) : Fn where
  pos := ["self", "name"]
  rest := []
  body := (.cons (.assign (.one "name") (.meth (.var "self") "_convert_string_type" (.cons (.sm (.var "name") "lower" .nil) .nil) (.cons [110, 97, 109, 101] (.bool true) .nil))) (.cons (.ret (.comp (.idx (.var "kv") (.int 1)) (.one "kv") (.attr (.var "self")) (.cons (.cmp .Eq (.sm (.idx (.var "kv") (.int 0)) "lower" .nil) (.var "name")) .nil))) .nil))

noncomputable def fn_H_str (K : Cfg) : Fn where
  pos := ["self"]
  rest := []
  body := (.cons (.ret (.sm (.str [13, 10]) "join" (.cons (.bin .Add (.comp (.bin .Mod (.str [37, 115, 58, 32, 37, 115]) (.var "kv")) (.one "kv") (.attr (.var "self")) .nil) (.list false (.cons (.str []) (.cons (.str []) .nil)))) .nil))) .nil)

noncomputable def fn_H_bytes (K : Cfg) : Fn where
  pos := ["self"]
  rest := []
  body := (.cons (.ret (.sm (.conv true (.var "self")) "encode" (.cons (.str [105, 115, 111, 45, 56, 56, 53, 57, 45, 49]) .nil))) .nil)

noncomputable def fn_H_add_header (K : Cfg) : Fn where
  pos := ["self", "_name", "_value"]
  kwarg := some "_params"
  rest := ["parts", "k", "v"]
  body := (.cons (.assign (.one "parts") (.list true .nil)) (.cons (.ite (.cmp .IsNot (.var "_value") .none) (.cons (.assign (.one "_value") (.meth (.var "self") "_convert_string_type" (.cons (.var "_value") .nil) (.cons [110, 97, 109, 101] (.bool false) .nil))) (.cons (.expr (.sm (.var "parts") "append" (.cons (.var "_value") .nil))) .nil)) .nil) (.cons (.for (.tup ["k", "v"]) (.sm (.var "_params") "items" .nil) (.cons (.assign (.one "k") (.meth (.var "self") "_convert_string_type" (.cons (.var "k") .nil) (.cons [110, 97, 109, 101] (.bool true) .nil))) (.cons (.ite (.cmp .Is (.var "v") .none) (.cons (.expr (.sm (.var "parts") "append" (.cons (.repl (.var "k") 95 [45]) .nil))) .nil) (.cons (.assign (.one "v") (.meth (.var "self") "_convert_string_type" (.cons (.var "v") .nil) (.cons [110, 97, 109, 101] (.bool false) .nil))) (.cons (.expr (.sm (.var "parts") "append" (.cons (.call "_formatparam" (.cons (.repl (.var "k") 95 [45]) (.cons (.var "v") .nil))) .nil))) .nil))) .nil))) (.cons (.expr (.sm (.attr (.var "self")) "append" (.cons (.tuple (.cons (.meth (.var "self") "_convert_string_type" (.cons (.var "_name") .nil) (.cons [110, 97, 109, 101] (.bool true) .nil)) (.cons (.sm (.str [59, 32]) "join" (.cons (.var "parts") .nil)) .nil))) .nil))) .nil))))

noncomputable def fn_law_text (K : Cfg) : Fn where
  pos := ["number", "signs"]
  rest := ["text", "left", "step"]
  body := (.cons (.assign (.one "text") (.str [])) (.cons (.assign (.one "left") (.bin .FloorDiv (.var "number") (.int 4))) (.cons (.for (.one "step") (.bi "range" (.cons (.bin .Mod (.var "number") (.int 4)) .nil)) (.cons (.aug "text" .Add (.idx (.var "signs") (.bin .Mod (.var "left") (.bi "len" (.cons (.var "signs") .nil))))) (.cons (.assign (.one "left") (.bin .FloorDiv (.var "left") (.bi "len" (.cons (.var "signs") .nil)))) .nil))) (.cons (.ret (.var "text")) .nil))))

noncomputable def fn_law_heads (K : Cfg) : Fn where
  pos := ["numbers"]
  rest := ["heads", "number", "rest", "own", "params", "word", "told"]
  body := (.cons (.assign (.one "heads") (.list true .nil)) (.cons (.for (.one "number") (.var "numbers") (.cons (.assign (.one "rest") (.bin .FloorDiv (.bin .Mod (.var "number") (.int 65536)) (.int 4))) (.cons (.ite (.cmp .Eq (.bin .Mod (.var "number") (.int 4)) (.int 0)) (.cons (.assign (.one "own") (.call "_law_text" (.cons (.bin .FloorDiv (.var "rest") (.int 5)) (.cons (.str [97, 47, 44, 32, 61, 58, 34, 92, 233]) .nil)))) (.cons (.ite (.and (.cons (.cmp .Eq (.var "own") (.str [])) (.cons (.cmp .Eq (.bin .Mod (.bin .FloorDiv (.var "rest") (.int 20)) (.int 2)) (.int 1)) .nil))) (.cons (.assign (.one "own") .none) .nil) .nil) (.cons (.expr (.sm (.var "heads") "append" (.cons (.tuple (.cons (.idx (.list false (.cons (.str [65]) (.cons (.str [97]) (.cons (.str [65, 98]) (.cons (.str [98, 58]) (.cons (.str []) .nil)))))) (.bin .Mod (.var "rest") (.int 5))) (.cons (.var "own") (.cons (.list true .nil) .nil)))) .nil))) .nil))) (.cons (.assign (.one "params") (.idx (.idx (.var "heads") (.neg (.int 1))) (.int 2))) (.cons (.assign (.one "word") (.bin .Add (.bin .Add (.str [107]) (.bin .Mult (.str [95]) (.bin .Sub (.bin .Mod (.var "number") (.int 4)) (.int 1)))) (.idx (.str [48, 49, 50, 51, 52, 53, 54, 55, 56, 57]) (.bi "len" (.cons (.var "params") .nil))))) (.cons (.assign (.one "told") (.call "_law_text" (.cons (.var "rest") (.cons (.str [97, 34, 92, 59, 32, 61, 44, 58, 9, 233, 255, 107]) .nil)))) (.cons (.ite (.and (.cons (.cmp .Eq (.var "told") (.str [])) (.cons (.cmp .Eq (.bin .Mod (.bin .FloorDiv (.var "rest") (.int 4)) (.int 2)) (.int 1)) .nil))) (.cons (.assign (.one "told") .none) .nil) .nil) (.cons (.expr (.sm (.var "params") "append" (.cons (.tuple (.cons (.var "word") (.cons (.var "told") .nil))) .nil))) .nil)))))) .nil))) (.cons (.ret (.var "heads")) .nil)))

noncomputable def fn_law_table (K : Cfg) : Fn where
  pos := ["heads"]
  rest := ["table", "word", "own", "params"]
  body := (.cons (.assign (.one "table") (.new .nil)) (.cons (.for (.tup ["word", "own", "params"]) (.var "heads") (.cons (.expr (.methD (.var "table") "add_header" (.cons (.var "word") (.cons (.var "own") .nil)) (.var "params"))) .nil)) (.cons (.ret (.var "table")) .nil)))

noncomputable def fn_law_read (K : Cfg) : Fn where
  pos := ["rest"]
  rest := ["own", "found", "end", "word", "told", "at"]
  body := (.cons (.assign (.one "own") .none) (.cons (.ite (.cmp .Eq (.slice (.var "rest") .no (.yes (.int 1))) (.str [107])) (.cons (.assign (.one "rest") (.bin .Add (.str [59, 32]) (.var "rest"))) .nil) (.cons (.assign (.one "own") (.slice (.var "rest") .no (.yes (.sm (.bin .Add (.var "rest") (.str [59])) "index" (.cons (.str [59]) .nil))))) (.cons (.assign (.one "rest") (.slice (.var "rest") (.yes (.bi "len" (.cons (.var "own") .nil))) .no)) .nil))) (.cons (.assign (.one "found") (.list true .nil)) (.cons (.while (.cmp .NotEq (.var "rest") (.str [])) (.cons (.ite (.cmp .NotEq (.slice (.var "rest") .no (.yes (.int 2))) (.str [59, 32])) (.cons (.ret .none) .nil) .nil) (.cons (.assign (.one "end") (.int 2)) (.cons (.while (.and (.cons (.cmp .Lt (.var "end") (.bi "len" (.cons (.var "rest") .nil))) (.cons (.cmp .NotIn (.idx (.var "rest") (.var "end")) (.str [61, 59])) .nil))) (.cons (.aug "end" .Add (.int 1)) .nil)) (.cons (.assign (.one "word") (.slice (.var "rest") (.yes (.int 2)) (.yes (.var "end")))) (.cons (.ite (.cmp .In (.str [95]) (.var "word")) (.cons (.ret .none) .nil) .nil) (.cons (.assign (.one "rest") (.slice (.var "rest") (.yes (.var "end")) .no)) (.cons (.assign (.one "told") .none) (.cons (.ite (.cmp .Eq (.slice (.var "rest") .no (.yes (.int 2))) (.str [61, 34])) (.cons (.assign (.one "told") (.str [])) (.cons (.assign (.one "at") (.int 2)) (.cons (.while (.and (.cons (.cmp .Lt (.var "at") (.bi "len" (.cons (.var "rest") .nil))) (.cons (.cmp .NotEq (.idx (.var "rest") (.var "at")) (.str [34])) .nil))) (.cons (.ite (.cmp .Eq (.idx (.var "rest") (.var "at")) (.str [92])) (.cons (.aug "at" .Add (.int 1)) (.cons (.ite (.cmp .NotIn (.slice (.var "rest") (.yes (.var "at")) (.yes (.bin .Add (.var "at") (.int 1)))) (.list false (.cons (.str [34]) (.cons (.str [92]) .nil)))) (.cons (.ret .none) .nil) .nil) .nil)) .nil) (.cons (.aug "told" .Add (.slice (.var "rest") (.yes (.var "at")) (.yes (.bin .Add (.var "at") (.int 1))))) (.cons (.aug "at" .Add (.int 1)) .nil)))) (.cons (.ite (.cmp .GtE (.var "at") (.bi "len" (.cons (.var "rest") .nil))) (.cons (.ret .none) .nil) .nil) (.cons (.assign (.one "rest") (.slice (.var "rest") (.yes (.bin .Add (.var "at") (.int 1))) .no)) .nil))))) .nil) (.cons (.expr (.sm (.var "found") "append" (.cons (.tuple (.cons (.repl (.var "word") 45 [95]) (.cons (.var "told") .nil))) .nil))) .nil)))))))))) (.cons (.ret (.tuple (.cons (.var "own") (.cons (.var "found") .nil)))) .nil)))))

noncomputable def fn_law_lines (K : Cfg) : Fn where
  pos := ["octets"]
  rest := ["lines", "back", "line", "cut"]
  body := (.cons (.assign (.one "lines") (.sm (.sm (.str []) "join" (.cons (.comp (.bi "chr" (.cons (.var "octet") .nil)) (.one "octet") (.var "octets") .nil) .nil)) "split" (.cons (.str [13, 10]) .nil))) (.cons (.ite (.cmp .NotEq (.slice (.var "lines") (.yes (.neg (.int 2))) .no) (.list false (.cons (.str []) (.cons (.str []) .nil)))) (.cons (.ret .none) .nil) .nil) (.cons (.assign (.one "back") (.list true .nil)) (.cons (.for (.one "line") (.slice (.var "lines") .no (.yes (.neg (.int 2)))) (.cons (.assign (.one "cut") (.sm (.var "line") "find" (.cons (.str [58, 32]) .nil))) (.cons (.expr (.sm (.var "back") "append" (.cons (.tuple (.cons (.slice (.var "line") .no (.yes (.var "cut"))) (.cons (.call "_law_read" (.cons (.slice (.var "line") (.yes (.bin .Add (.var "cut") (.int 2))) .no) .nil)) .nil))) .nil))) .nil))) (.cons (.ret (.var "back")) .nil)))))

noncomputable def fn_law_due (K : Cfg) : Fn where
  pos := ["heads"]
  rest := ["due", "word", "own", "params"]
  body := (.cons (.assign (.one "due") (.list true .nil)) (.cons (.for (.tup ["word", "own", "params"]) (.var "heads") (.cons (.ite (.and (.cons (.cmp .Is (.var "own") .none) (.cons (.cmp .Eq (.var "params") (.list false .nil)) .nil))) (.cons (.assign (.one "own") (.str [])) .nil) .nil) (.cons (.expr (.sm (.var "due") "append" (.cons (.tuple (.cons (.var "word") (.cons (.tuple (.cons (.var "own") (.cons (.comp (.tuple (.cons (.var "name") (.cons (.or (.cons (.var "told") (.cons .none .nil))) .nil))) (.tup ["name", "told"]) (.var "params") .nil) .nil))) .nil))) .nil))) .nil))) (.cons (.ret (.var "due")) .nil)))

noncomputable def fn_law (K : Cfg) : Fn where
  pos := ["script"]
  rest := ["drawn", "forms", "sent", "wire", "asked", "spelled"]
  body := (.cons (.assign (.one "drawn") (.call "_law_heads" (.cons (.bin .Add (.list false (.cons (.int 20) .nil)) (.slice (.var "script") .no (.yes (.int 9)))) .nil))) (.cons (.assign (.one "forms") (.call "_law_due" (.cons (.var "drawn") .nil))) (.cons (.assign (.one "sent") (.call "_law_table" (.cons (.var "drawn") .nil))) (.cons (.assign (.one "wire") (.conv false (.var "sent"))) (.cons (.ite (.cmp .NotEq (.call "_law_lines" (.cons (.var "wire") .nil)) (.var "forms")) (.cons (.ret (.bool false)) .nil) .nil) (.cons (.for (.tup ["asked", "spelled"]) (.list false (.cons (.tuple (.cons (.str [65]) (.cons (.list false (.cons (.str [65]) (.cons (.str [97]) .nil))) .nil))) (.cons (.tuple (.cons (.str [97, 66]) (.cons (.list false (.cons (.str [65, 98]) .nil)) .nil))) (.cons (.tuple (.cons (.str [66, 58]) (.cons (.list false (.cons (.str [98, 58]) .nil)) .nil))) (.cons (.tuple (.cons (.str []) (.cons (.list false (.cons (.str []) .nil)) .nil))) .nil))))) (.cons (.ite (.cmp .NotEq (.comp (.call "_law_read" (.cons (.var "x") .nil)) (.one "x") (.meth (.var "sent") "get_all" (.cons (.var "asked") .nil) .nil) .nil) (.comp (.idx (.var "form") (.int 1)) (.one "form") (.var "forms") (.cons (.cmp .In (.idx (.var "form") (.int 0)) (.var "spelled")) .nil))) (.cons (.ret (.bool false)) .nil) .nil) .nil)) (.cons (.ret (.cmp .Eq (.conv false (.call "_law_table" (.cons (.comp (.tuple (.cons (.idx (.var "form") (.int 0)) (.cons (.idx (.idx (.var "form") (.int 1)) (.int 0)) (.cons (.idx (.idx (.var "form") (.int 1)) (.int 1)) .nil)))) (.one "form") (.var "forms") .nil) .nil))) (.var "wire"))) .nil)))))))

noncomputable def tab (K : Cfg) : List (String × Fn) := [("_formatparam", fn_formatparam K),
  ("Headers.__init__", fn_H_init K),
  ("Headers._convert_string_type", fn_Hconvert_string_type K),
  ("Headers.get_all", fn_H_get_all K),
  ("Headers.__str__", fn_H_str K),
  ("Headers.__bytes__", fn_H_bytes K),
  ("Headers.add_header", fn_H_add_header K),
  ("_law_text", fn_law_text K),
  ("_law_heads", fn_law_heads K),
  ("_law_table", fn_law_table K),
  ("_law_read", fn_law_read K),
  ("_law_lines", fn_law_lines K),
  ("_law_due", fn_law_due K),
  ("law", fn_law K)]
end Mine

namespace Mine
noncomputable def cfg : Cfg := ⟨48, 53⟩
noncomputable def msl : List (String × Addr) := [("__init__", 76), ("_convert_string_type", 83), ("get_all", 121), ("__str__", 158), ("__bytes__", 165), ("add_header", 179)]
noncomputable def fsl : List (String × Addr) := [("_formatparam", 61), ("_law_text", 193), ("_law_heads", 200), ("_law_table", 207), ("_law_read", 214), ("_law_lines", 219), ("_law_due", 224), ("law", 229)]
noncomputable def ctx : Ctx := { gl := [("_name_disallowed_re", 48), ("_value_disallowed_re", 53), ("tspecials", 43), ("Headers", 182)] ++ fsl, fa := faOf msl fsl, bi := ["len", "range", "chr", "type"], ty := ["str", "list", "dict", "bytes"], C := 182 }
end Mine

namespace Mine.Pl
section

section
variable {K : Cfg} {O : Orc} {ρ ρ₁ ρ' : Rho} {σ σ₁ σ₂ σ₃ σ₄ σ' : Store} {a b c e o i : ME} {es : MEs} {x y v : V} {vs : List V}
theorem e_none : evalM K O ρ σ .none = some (.none, σ) := rfl
theorem e_bool {q : Bool} : evalM K O ρ σ (.bool q) = some (.bool q, σ) := rfl
theorem e_int {q : Int} : evalM K O ρ σ (.int q) = some (.int q, σ) := rfl
theorem e_str {q : List Nat} : evalM K O ρ σ (.str q) = some (.str q, σ) := rfl
theorem e_glob {q : String} {n : Nat} : evalM K O ρ σ (.glob q n) = some (.gl n, σ) := rfl
theorem e_tyn {q : String} : evalM K O ρ σ (.tyn q) = some (.ty q, σ) := rfl
theorem e_var {q : String} (h : look ρ q = some v) : evalM K O ρ σ (.var q) = some (v, σ) := by
  show (look ρ q).map _ = _; rw [h]; rfl
theorem es_nil : evalsM K O ρ σ .nil = some ([], σ) := rfl
theorem es_cons (h : evalM K O ρ σ e = some (v, σ₁)) (k : evalsM K O ρ σ₁ es = some (vs, σ₂)) : evalsM K O ρ σ (.cons e es) = some (v :: vs, σ₂) := by
  show Option.bind _ _ = _; rw [h, Option.bind_some]; try dsimp only
  rw [k]; rfl
theorem e_tuple (h : evalsM K O ρ σ es = some (vs, σ₁)) (hl : vs.length ≤ 1000) : evalM K O ρ σ (.tuple es) = some (.tuple vs, σ₁) := by
  show Option.bind _ _ = _; rw [h, Option.bind_some]; try dsimp only
  rw [if_pos hl]
theorem e_list {own : Bool} {r : V × Store} (h : evalsM K O ρ σ es = some (vs, σ₁)) (hl : newL own vs σ₁ = some r) : evalM K O ρ σ (.list own es) = some r := by
  show Option.bind _ _ = _; rw [h, Option.bind_some]; try dsimp only
  rw [hl]
theorem e_bin {op : Operator} (h : evalM K O ρ σ a = some (x, σ₁)) (k : evalM K O ρ σ₁ b = some (y, σ₂)) (q : binV σ₂ op x y = some v) : evalM K O ρ σ (.bin op a b) = some (v, σ₂) := by
  show Option.bind _ _ = _; rw [h, Option.bind_some]; try dsimp only
  rw [k, Option.bind_some]; try dsimp only
  rw [q]; rfl
theorem e_cmp {op : CmpOp} (h : evalM K O ρ σ a = some (x, σ₁)) (k : evalM K O ρ σ₁ b = some (y, σ₂)) (q : cmpV σ₂ op x y = some v) : evalM K O ρ σ (.cmp op a b) = some (v, σ₂) := by
  show Option.bind _ _ = _; rw [h, Option.bind_some]; try dsimp only
  rw [k, Option.bind_some]; try dsimp only
  rw [q]; rfl
theorem e_not {t : Bool} (h : evalM K O ρ σ a = some (x, σ₁)) (q : truthV σ₁ x = some t) : evalM K O ρ σ (.not a) = some (.bool !t, σ₁) := by
  show Option.bind _ _ = _; rw [h, Option.bind_some]; try dsimp only
  rw [q]; rfl
theorem e_neg {q : Int} (h : evalM K O ρ σ a = some (.int q, σ₁)) : evalM K O ρ σ (.neg a) = some (.int (-q), σ₁) := by
  show Option.bind _ _ = _; rw [h]; rfl
theorem e_idx (h : evalM K O ρ σ a = some (x, σ₁)) (k : evalM K O ρ σ₁ i = some (y, σ₂)) (q : idxV σ₂ x y = some v) : evalM K O ρ σ (.idx a i) = some (v, σ₂) := by
  show Option.bind _ _ = _; rw [h, Option.bind_some]; try dsimp only
  rw [k, Option.bind_some]; try dsimp only
  rw [q]; rfl
theorem e_ife {t : Bool} {r : Option (V × Store)} (h : testM K O ρ σ c = some (t, σ₁)) (k : (if t then evalM K O ρ σ₁ a else evalM K O ρ σ₁ b) = r) : evalM K O ρ σ (.ife c a b) = r := by
  show Option.bind _ _ = _; rw [h]; exact k
theorem o_no : optM K O ρ σ .no = some (none, σ) := rfl
theorem o_yes (h : evalM K O ρ σ e = some (v, σ₁)) : optM K O ρ σ (.yes e) = some (some v, σ₁) := by
  show Option.bind _ _ = _; rw [h]; rfl
theorem e_slice {lo hi : MO} {l h : Option V} {l' h' : Option Int} (q : evalM K O ρ σ a = some (x, σ₁)) (q1 : optM K O ρ σ₁ lo = some (l, σ₂)) (q2 : optM K O ρ σ₂ hi = some (h, σ₃))
    (p1 : partV l = some l') (p2 : partV h = some h') (k : sliceV σ₃ x l' h' = some v) : evalM K O ρ σ (.slice a lo hi) = some (v, σ₃) := by
  show Option.bind _ _ = _; rw [q, Option.bind_some]; try dsimp only
  rw [q1, Option.bind_some]; try dsimp only
  rw [q2, Option.bind_some]; try dsimp only
  rw [p1, Option.bind_some]; try dsimp only
  rw [p2, Option.bind_some]; try dsimp only
  rw [k]; rfl
theorem e_call {f : String} {r : V × Store} (h : evalsM K O ρ σ es = some (vs, σ₁)) (k : O f vs [] σ₁ = some r) : evalM K O ρ σ (.call f es) = some r := by
  show Option.bind _ _ = _; rw [h]; exact k
theorem e_bi {f : String} {r : V × Store} (h : evalsM K O ρ σ es = some (vs, σ₁)) (k : biV f σ₁ vs = some r) : evalM K O ρ σ (.bi f es) = some r := by
  show Option.bind _ _ = _; rw [h]; exact k
theorem k_nil : evalKM K O ρ σ .nil = some ([], σ) := rfl
theorem k_cons {q : List Nat} {ks : MKs} {kv : List (List Nat × V)} (h : evalM K O ρ σ e = some (v, σ₁)) (k : evalKM K O ρ σ₁ ks = some (kv, σ₂)) : evalKM K O ρ σ (.cons q e ks) = some ((q, v) :: kv, σ₂) := by
  show Option.bind _ _ = _; rw [h, Option.bind_some]; try dsimp only
  rw [k]; rfl
theorem e_meth {m f : String} {ks : MKs} {n : Nat} {kv : List (List Nat × V)} {r : V × Store} (h : evalM K O ρ σ o = some (.own n, σ₁)) (hi : isInst σ₁ n = true) (k : evalsM K O ρ σ₁ es = some (vs, σ₂)) (k' : evalKM K O ρ σ₂ ks = some (kv, σ₃)) (hf : "Headers." ++ m = f) (q : O f (.own n :: vs) kv σ₃ = some r) :
    evalM K O ρ σ (.meth o m es ks) = some r := by
  subst hf
  show Option.bind _ _ = _; rw [h, Option.bind_some]
  dsimp only
  show (if isInst σ₁ n = true then _ else _) = _
  rw [if_pos hi, k, Option.bind_some]; try dsimp only
  rw [k', Option.bind_some]; exact q
theorem e_new {n : Nat} (h : evalsM K O ρ σ es = some (vs, σ₁)) (hn : n = σ₁.length + 1) (k : O "Headers.__init__" (.own n :: vs) [] (σ₁ ++ [.attrs none, .inst σ₁.length]) = some (.none, σ₂)) : evalM K O ρ σ (.new es) = some (.own n, σ₂) := by
  subst hn
  show Option.bind _ _ = _; rw [h, Option.bind_some]
  dsimp only
  rw [k]; rfl
theorem e_sm {m q : String} {r : V × Store} (h : evalM K O ρ σ o = some (x, σ₁)) (hs : smId K.nd K.vd m σ₁ x = some q) (k : evalsM K O ρ σ₁ es = some (vs, σ₂)) (p : smV K.nd K.vd m σ₂ x vs = some r) : evalM K O ρ σ (.sm o m es) = some r := by
  show Option.bind _ _ = _; rw [h, Option.bind_some]; try dsimp only
  rw [hs, Option.bind_some]; try dsimp only
  rw [k]; exact p
theorem e_attr {n d : Nat} (h : evalM K O ρ σ o = some (.own n, σ₁)) (h1 : σ₁[n]? = some (.inst d)) (h2 : σ₁[d]? = some (.attrs (some v))) : evalM K O ρ σ (.attr o) = some (v, σ₁) := by
  show Option.bind _ _ = _; rw [h, Option.bind_some]
  show instK σ₁ n _ = _
  rw [instK_at h1, attrsK_at h2]; rfl
theorem e_comp {t : MT} {it : ME} {ifs : MEs} {us : List V} (h : evalM K O ρ σ it = some (x, σ₁)) (hv : iterC σ₁ x = some vs)
    (k : compM (fun v ρ acc σ => (setT ρ t v).bind fun ρ => (ifsM K O ρ σ ifs).bind fun (b, σ) => if b then (evalM K O ρ σ e).bind fun (v, σ) => if acc.length ≤ 1000 then some (ρ, acc ++ [v], σ) else none else some (ρ, acc, σ)) (still x vs) vs ((".0" :: t.names).map (fun x => (x, Option.none)) ++ ρ) [] σ₁ = some (ρ', us, σ₂)) :
    evalM K O ρ σ (.comp e t it ifs) = some (.list us, σ₂) := by
  show Option.bind _ _ = _; rw [h, Option.bind_some]; try dsimp only
  rw [hv, Option.bind_some]
  show Option.map _ _ = _
  rw [k]; rfl
theorem e_repl {c : Nat} {z u w : List Nat} (h : evalM K O ρ σ o = some (.str u, σ₁)) (hz : z ≠ [c]) (hl : u.length ≤ 10000) (hz2 : z.length ≤ 14) (hw : replT c z u = w) : evalM K O ρ σ (.repl o c z) = some (.str w, σ₁) := by
  show Option.bind _ _ = _; rw [h, Option.bind_some]
  show (if z ≠ [c] ∧ u.length ≤ 10000 ∧ z.length ≤ 14 then some (V.str (replT c z u), σ₁) else none) = _
  rw [if_pos ⟨hz, hl, hz2⟩, hw]
theorem e_fmt {p q u w z : List Nat} (h : evalM K O ρ σ a = some (.str u, σ₁)) (k : evalM K O ρ σ₁ b = some (.str w, σ₂)) (hl : u.length ≤ 100000 ∧ w.length ≤ 100000 ∧ p.length ≤ 100 ∧ q.length ≤ 100) (e : u ++ p ++ w ++ q = z) : evalM K O ρ σ (.fmt a p b q) = some (.str z, σ₂) := by
  subst e
  show Option.bind _ _ = _; rw [h, Option.bind_some]
  show Option.bind _ _ = _; rw [k, Option.bind_some]
  exact if_pos hl
theorem e_conv_t {n : Nat} {u : List Nat} (h : evalM K O ρ σ o = some (.own n, σ₁)) (hi : isInst σ₁ n = true) (k : O "Headers.__str__" [.own n] [] σ₁ = some (.str u, σ₂)) : evalM K O ρ σ (.conv true o) = some (.str u, σ₂) := by
  show Option.bind _ _ = _; rw [h, Option.bind_some]
  show (if isInst σ₁ n = true then _ else _) = _
  rw [if_pos hi]
  show Option.bind (O "Headers.__str__" _ _ _) _ = _
  rw [k]; rfl
theorem e_conv_f {n : Nat} {u : List Nat} (h : evalM K O ρ σ o = some (.own n, σ₁)) (hi : isInst σ₁ n = true) (k : O "Headers.__bytes__" [.own n] [] σ₁ = some (.bytes u, σ₂)) : evalM K O ρ σ (.conv false o) = some (.bytes u, σ₂) := by
  show Option.bind _ _ = _; rw [h, Option.bind_some]
  show (if isInst σ₁ n = true then _ else _) = _
  rw [if_pos hi]
  show Option.bind (O "Headers.__bytes__" _ _ _) _ = _
  rw [k]; rfl
theorem e_methD {m f : String} {d : ME} {n : Nat} {ps : List V} {kv : List (List Nat × V)} {r : V × Store} (h : evalM K O ρ σ o = some (.own n, σ₁)) (hi : isInst σ₁ n = true) (k : evalsM K O ρ σ₁ es = some (vs, σ₂)) (k' : evalM K O ρ σ₂ d = some (y, σ₃)) (hl : lstOf σ₃ y = some ps) (hp : pairsOf ps = some kv)
    (hc : kv.length ≤ 1000 ∧ (kv.map (·.1)).Nodup) (hf : "Headers." ++ m = f) (q : O f (.own n :: vs) kv σ₃ = some r) : evalM K O ρ σ (.methD o m es d) = some r := by
  subst hf
  show Option.bind _ _ = _; rw [h, Option.bind_some]
  show (if isInst σ₁ n = true then _ else _) = _
  rw [if_pos hi, k, Option.bind_some]; try dsimp only
  rw [k', Option.bind_some]; try dsimp only
  rw [hl, Option.bind_some]; try dsimp only
  rw [hp, Option.bind_some]; try dsimp only
  rw [if_pos hc]; exact q
theorem e_and {r : Option (V × Store)} (h : boolM K O ρ σ true es = r) : evalM K O ρ σ (.and es) = r := by
  exact h
theorem e_or {r : Option (V × Store)} (h : boolM K O ρ σ false es = r) : evalM K O ρ σ (.or es) = r := by
  exact h
theorem b_one {q : Bool} {r : Option (V × Store)} (h : evalM K O ρ σ e = r) : boolM K O ρ σ q (.cons e .nil) = r := by
  exact h
theorem b_stop {q t : Bool} (h : evalM K O ρ σ a = some (v, σ₁)) (k : truthV σ₁ v = some t) (n : t ≠ q) : boolM K O ρ σ q (.cons a (.cons b es)) = some (v, σ₁) := by
  show Option.bind _ _ = _; rw [h, Option.bind_some]
  dsimp only
  rw [k, Option.bind_some]; try dsimp only
  rw [if_neg n]
theorem b_go {q t : Bool} {r : Option (V × Store)} (h : evalM K O ρ σ a = some (v, σ₁)) (k : truthV σ₁ v = some t) (n : t = q) (z : boolM K O ρ σ₁ q (.cons b es) = r) : boolM K O ρ σ q (.cons a (.cons b es)) = r := by
  show Option.bind _ _ = _; rw [h, Option.bind_some]
  dsimp only
  rw [k, Option.bind_some]; try dsimp only
  rw [if_pos n]; exact z
theorem t_bool {q : Bool} : testM K O ρ σ (.bool q) = some (q, σ) := rfl
theorem t_not {t : Bool} (h : testM K O ρ σ a = some (t, σ₁)) : testM K O ρ σ (.not a) = some (!t, σ₁) := by
  show Option.bind _ _ = _; rw [h]; rfl
theorem t_and {r : Option (Bool × Store)} (h : allM K O ρ σ true es = r) : testM K O ρ σ (.and es) = r := by
  exact h
theorem t_or {r : Option (Bool × Store)} (h : allM K O ρ σ false es = r) : testM K O ρ σ (.or es) = r := by
  exact h
theorem t_var {q : String} {t : Bool} (h : look ρ q = some v) (k : truthV σ v = some t) : testM K O ρ σ (.var q) = some (t, σ) := by
  show Option.bind _ _ = _; rw [h, Option.bind_some]; try dsimp only
  rw [k]; rfl
theorem t_cmp {op : CmpOp} {t : Bool} (h : evalM K O ρ σ a = some (x, σ₁)) (k : evalM K O ρ σ₁ b = some (y, σ₂)) (q : cmpV σ₂ op x y = some (.bool t)) : testM K O ρ σ (.cmp op a b) = some (t, σ₂) := by
  show Option.bind _ _ = _; rw [h, Option.bind_some]; try dsimp only
  rw [k, Option.bind_some]; try dsimp only
  rw [q]; rfl
theorem t_sm {m q : String} {t : Bool} (h : evalM K O ρ σ o = some (x, σ₁)) (hs : smId K.nd K.vd m σ₁ x = some q) (k : evalsM K O ρ σ₁ es = some (vs, σ₂)) (p : smV K.nd K.vd m σ₂ x vs = some (v, σ₃)) (z : truthV σ₃ v = some t) : testM K O ρ σ (.sm o m es) = some (t, σ₃) := by
  show Option.bind _ _ = _; rw [h, Option.bind_some]; try dsimp only
  rw [hs, Option.bind_some]; try dsimp only
  rw [k, Option.bind_some]; try dsimp only
  rw [p, Option.bind_some]; try dsimp only
  rw [z]; rfl
theorem al_nil {q : Bool} : allM K O ρ σ q .nil = some (q, σ) := rfl
theorem al_cons {q t : Bool} {r : Option (Bool × Store)} (h : testM K O ρ σ a = some (t, σ₁)) (k : (if t = q then allM K O ρ σ₁ q es else some (t, σ₁)) = r) : allM K O ρ σ q (.cons a es) = r := by
  show Option.bind _ _ = _; rw [h]; exact k
theorem if_nil : ifsM K O ρ σ .nil = some (true, σ) := rfl
theorem if_one {t : Bool} (h : testM K O ρ σ a = some (t, σ₁)) : ifsM K O ρ σ (.cons a .nil) = some (t, σ₁) := by
  show Option.bind _ _ = _; rw [h, Option.bind_some]; cases t <;> rfl

variable {m : MS} {ms ms' : MSs} {t : MT} {fl : Fl}
theorem x_cons {r} (h : execM K O ρ σ m = some (.next, ρ₁, σ₁)) (k : execsM K O ρ₁ σ₁ ms = r) : execsM K O ρ σ (.cons m ms) = r := by
  show Option.bind _ _ = _; rw [h, Option.bind_some]; exact k
theorem x_stop (h : execM K O ρ σ m = some (.ret v, ρ₁, σ₁)) : execsM K O ρ σ (.cons m ms) = some (.ret v, ρ₁, σ₁) := by
  show Option.bind _ _ = _; rw [h, Option.bind_some]
theorem x_nil : execsM K O ρ σ .nil = some (.next, ρ, σ) := rfl
theorem x_assign (h : evalM K O ρ σ e = some (v, σ₁)) (k : setT ρ t v = some ρ₁) : execM K O ρ σ (.assign t e) = some (.next, ρ₁, σ₁) := by
  show Option.bind _ _ = _; rw [h, Option.bind_some]; try dsimp only
  rw [k]; rfl
theorem x_ret (h : evalM K O ρ σ e = some (v, σ₁)) : execM K O ρ σ (.ret e) = some (.ret v, ρ, σ₁) := by
  show Option.bind _ _ = _; rw [h]; rfl
theorem x_expr (h : evalM K O ρ σ e = some (v, σ₁)) : execM K O ρ σ (.expr e) = some (.next, ρ, σ₁) := by
  show Option.bind _ _ = _; rw [h]; rfl
theorem x_ite {q : Bool} {r} (h : testM K O ρ σ c = some (q, σ₁)) (k : (if q then execsM K O ρ σ₁ ms else execsM K O ρ σ₁ ms') = r) : execM K O ρ σ (.ite c ms ms') = r := by
  show Option.bind _ _ = _; rw [h]; exact k
theorem x_for {r} (h : evalM K O ρ σ e = some (x, σ₁)) (hv : iterT t σ₁ x = some vs) (k : loopM (fun v ρ σ => (setT ρ t v).bind fun ρ => execsM K O ρ σ ms) (still x vs) vs ρ σ₁ = r) : execM K O ρ σ (.for t e ms) = r := by
  show Option.bind _ _ = _; rw [h, Option.bind_some]
  dsimp only
  rw [hv]; exact k
theorem x_setattr {n d : Nat} (h : evalM K O ρ σ e = some (v, σ₁)) (k : evalM K O ρ σ₁ o = some (.own n, σ₂)) (q : σ₂[n]? = some (.inst d)) (q2 : σ₂[d]? = some (.attrs none)) : execM K O ρ σ (.setattr o e) = some (.next, ρ, σ₂.set d (.attrs (some v))) := by
  show Option.bind _ _ = _; rw [h, Option.bind_some]
  show Option.bind _ _ = _; rw [k, Option.bind_some]
  show instK σ₂ n _ = _
  rw [instK_at q, attrsK_at q2]; rfl
theorem x_aug {q : String} {op : Operator} {w : V} (h : look ρ q = some x) (k : evalM K O ρ σ e = some (y, σ₁)) (p : augV op x y = some w) (z : setv ρ q w = some ρ₁) : execM K O ρ σ (.aug q op e) = some (.next, ρ₁, σ₁) := by
  show Option.bind _ _ = _; rw [h, Option.bind_some]; try dsimp only
  rw [k, Option.bind_some]; try dsimp only
  rw [p, Option.bind_some]; try dsimp only
  rw [z]; rfl
theorem x_while {r} (h : whileM (fun ρ σ => testM K O ρ σ c) (fun ρ σ => execsM K O ρ σ ms) 1000 ρ σ = r) : execM K O ρ σ (.while c ms) = r := h
theorem turn_in {el : Rho → Store → Option (V × Store)} {ifs : MEs} {acc : List V} (h : setT ρ t x = some ρ₁) (k : ifsM K O ρ₁ σ ifs = some (true, σ₁)) (q : el ρ₁ σ₁ = some (v, σ₂)) (hl : acc.length ≤ 1000) :
    ((setT ρ t x).bind fun ρ => (ifsM K O ρ σ ifs).bind fun (b, σ) => if b then (el ρ σ).bind fun (v, σ) => if acc.length ≤ 1000 then some (ρ, acc ++ [v], σ) else none else some (ρ, acc, σ)) = some (ρ₁, acc ++ [v], σ₂) := by
  rw [h, Option.bind_some]; try dsimp only
  rw [k, Option.bind_some]
  dsimp only
  rw [if_pos rfl, q, Option.bind_some]; try dsimp only
  rw [if_pos hl]
theorem turn_out {el : Rho → Store → Option (V × Store)} {ifs : MEs} {acc : List V} (h : setT ρ t x = some ρ₁) (k : ifsM K O ρ₁ σ ifs = some (false, σ₁)) :
    ((setT ρ t x).bind fun ρ => (ifsM K O ρ σ ifs).bind fun (b, σ) => if b then (el ρ σ).bind fun (v, σ) => if acc.length ≤ 1000 then some (ρ, acc ++ [v], σ) else none else some (ρ, acc, σ)) = some (ρ₁, acc, σ₁) := by
  rw [h, Option.bind_some]; try dsimp only
  rw [k, Option.bind_some]
  dsimp only
  rw [if_neg (by nofun)]
end

section
variable {K : Cfg} {O : Orc} {ρ ρ₁ ρ' : Rho} {σ σ₁ σ₂ σ₃ σ₄ σ' : Store} {a b c e o i : ME} {es : MEs} {x y v : V} {vs : List V} {m : MS} {ms ms' : MSs}
theorem e_ife_t {r : Option (V × Store)} (h : testM K O ρ σ c = some (true, σ₁)) (k : evalM K O ρ σ₁ a = r) : evalM K O ρ σ (.ife c a b) = r := e_ife h k
theorem e_ife_f {r : Option (V × Store)} (h : testM K O ρ σ c = some (false, σ₁)) (k : evalM K O ρ σ₁ b = r) : evalM K O ρ σ (.ife c a b) = r := e_ife h k
theorem b_stop_t (h : evalM K O ρ σ a = some (v, σ₁)) (k : truthV σ₁ v = some false) : boolM K O ρ σ true (.cons a (.cons b es)) = some (v, σ₁) := b_stop h k nofun
theorem b_stop_f (h : evalM K O ρ σ a = some (v, σ₁)) (k : truthV σ₁ v = some true) : boolM K O ρ σ false (.cons a (.cons b es)) = some (v, σ₁) := b_stop h k nofun
theorem b_go_t {r : Option (V × Store)} (h : evalM K O ρ σ a = some (v, σ₁)) (k : truthV σ₁ v = some true) (z : boolM K O ρ σ₁ true (.cons b es) = r) : boolM K O ρ σ true (.cons a (.cons b es)) = r := b_go h k rfl z
theorem b_go_f {r : Option (V × Store)} (h : evalM K O ρ σ a = some (v, σ₁)) (k : truthV σ₁ v = some false) (z : boolM K O ρ σ₁ false (.cons b es) = r) : boolM K O ρ σ false (.cons a (.cons b es)) = r := b_go h k rfl z
theorem t_not_t (h : testM K O ρ σ a = some (false, σ₁)) : testM K O ρ σ (.not a) = some (true, σ₁) := t_not h
theorem t_not_f (h : testM K O ρ σ a = some (true, σ₁)) : testM K O ρ σ (.not a) = some (false, σ₁) := t_not h
theorem al_stop_t (h : testM K O ρ σ a = some (false, σ₁)) : allM K O ρ σ true (.cons a es) = some (false, σ₁) := al_cons h rfl
theorem al_stop_f (h : testM K O ρ σ a = some (true, σ₁)) : allM K O ρ σ false (.cons a es) = some (true, σ₁) := al_cons h rfl
theorem al_go_t {r : Option (Bool × Store)} (h : testM K O ρ σ a = some (true, σ₁)) (k : allM K O ρ σ₁ true es = r) : allM K O ρ σ true (.cons a es) = r := al_cons h k
theorem al_go_f {r : Option (Bool × Store)} (h : testM K O ρ σ a = some (false, σ₁)) (k : allM K O ρ σ₁ false es = r) : allM K O ρ σ false (.cons a es) = r := al_cons h k
theorem x_ite_t {r} (h : testM K O ρ σ c = some (true, σ₁)) (k : execsM K O ρ σ₁ ms = r) : execM K O ρ σ (.ite c ms ms') = r := x_ite h k
theorem x_ite_f {r} (h : testM K O ρ σ c = some (false, σ₁)) (k : execsM K O ρ σ₁ ms' = r) : execM K O ρ σ (.ite c ms ms') = r := x_ite h k
theorem nl_own (hl : vs.length ≤ 1000) : newL true vs σ = some (.own σ.length, σ ++ [.lst vs]) := by unfold newL; rw [if_pos hl]; rfl
theorem nl_not (hl : vs.length ≤ 1000) : newL false vs σ = some (.list vs, σ) := by unfold newL; rw [if_pos hl]; rfl
theorem sv_hit {q : String} {w : Option V} {r : Rho} : setv ((q, w) :: r) q v = some ((q, some v) :: r) := by unfold setv; rw [if_pos rfl]
theorem sv_skip {p q : String} {w : Option V} {r r' : Rho} (h : decide (q = p) = false) (k : setv r q v = some r') : setv ((p, w) :: r) q v = some ((p, w) :: r') := by
  unfold setv; rw [if_neg (of_decide_eq_false h), k]; rfl
theorem sT_one {q : String} (h : setv ρ q v = some ρ₁) : setT ρ (.one q) v = some ρ₁ := h
theorem sT_tup {qs : List String} (h : setTup ρ qs vs = some ρ₁) : setT ρ (.tup qs) (.tuple vs) = some ρ₁ := h
theorem sp_nil : setTup ρ [] [] = some ρ := rfl
theorem sp_cons {q : String} {qs : List String} (h : setv ρ q v = some ρ₁) (k : setTup ρ₁ qs vs = some ρ') : setTup ρ (q :: qs) (v :: vs) = some ρ' := by
  unfold setTup; rw [h]; exact k
end
theorem hm_conv : "Headers." ++ "_convert_string_type" = "Headers._convert_string_type" := by decide
theorem hm_add : "Headers." ++ "add_header" = "Headers.add_header" := by decide
theorem hm_getall : "Headers." ++ "get_all" = "Headers.get_all" := by decide
theorem call_of {K : Cfg} {T : List (String × Fn)} {n : Nat} {f : String} {fn : Fn} {args : List V} {kws : List (List Nat × V)} {σ τ τ' σ' : Store} {ρ : Rho} {v d : V} (hT : T.lookup f = some fn)
    (hb : fn.binds (if args.length < fn.pos.length then args ++ fn.dfl.drop (fn.dfl.length - (fn.pos.length - args.length)) else args) kws σ = some (ρ, τ))
    (he : ∃ ρ', execsM K (callM K T n) ρ τ fn.body = some (.ret v, ρ', τ')) (hf : fin σ.length v τ' = (d, σ')) : callM K T (n+1) f args kws σ = some (d, σ') := by
  obtain ⟨ρ', he⟩ := he
  unfold callM
  simp only [hT, Option.bind_some, hb, he, hf]
theorem call_next {K : Cfg} {T : List (String × Fn)} {n : Nat} {f : String} {fn : Fn} {args : List V} {kws : List (List Nat × V)} {σ τ τ' σ' : Store} {ρ : Rho} {d : V} (hT : T.lookup f = some fn)
    (hb : fn.binds (if args.length < fn.pos.length then args ++ fn.dfl.drop (fn.dfl.length - (fn.pos.length - args.length)) else args) kws σ = some (ρ, τ))
    (he : ∃ ρ', execsM K (callM K T n) ρ τ fn.body = some (.next, ρ', τ')) (hf : fin σ.length .none τ' = (d, σ')) : callM K T (n+1) f args kws σ = some (d, σ') := by
  obtain ⟨ρ', he⟩ := he
  unfold callM
  simp only [hT, Option.bind_some, hb, he, hf]
end

section
open PySem.Builtin.Str PySem.StrLaws

theorem sv_len (x : List Nat) : (strV x).length = x.length := by simp [strV, Str.length]
theorem sv_tl (x : List Nat) : (strV x).cps.toList = x := by simp [strV]
theorem at_iff {x y : List Nat} {i : Nat} : At (strV x) (strV y) (strV x).length i ↔ i + y.length ≤ x.length ∧ (x.drop i).take y.length = y := by
  unfold At
  rw [subAt_eq, sv_len, sv_len, sv_tl, sv_tl, beq_iff_eq]
theorem at_app (p y r : List Nat) : At (strV (p ++ (y ++ r))) (strV y) (strV (p ++ (y ++ r))).length p.length := by
  rw [at_iff, List.drop_left, List.take_left]
  exact ⟨by simp only [List.length_append]; omega, rfl⟩
theorem not_at {p r y : List Nat} {c k : Nat} (h : c ∉ p) (hk : k < p.length) : ¬ At (strV (p ++ r)) (strV (c :: y)) (strV (p ++ r)).length k := by
  rw [at_iff]
  rintro ⟨-, e⟩
  rw [List.drop_append_of_le_length (Nat.le_of_lt hk), List.drop_eq_getElem_cons hk] at e
  injection e with e1 _
  exact h (e1 ▸ List.getElem_mem hk)
theorem occ_at {x y : List Nat} {i : Nat} (h : At (strV x) (strV y) (strV x).length i) (hn : ∀ k, k < i → ¬ At (strV x) (strV y) (strV x).length k) : ∃ r, occurrences (strV x) (strV y) 0 (strV x).length 1 = i :: r := by
  rcases occ_head (strV x) (strV y) 1 (Nat.le_refl 1) with ⟨-, q⟩ | ⟨j, r, e, q1, q2⟩
  · exact absurd h (q i)
  · have e1 : j = i := Nat.le_antisymm (Nat.le_of_not_lt fun l => q2 i l h) (Nat.le_of_not_lt fun l => hn j l q1)
    exact ⟨r, e1 ▸ e⟩
theorem index_of {p y r : List Nat} {c : Nat} (h : c ∉ p) : (occurrences (strV (p ++ (c :: y ++ r))) (strV (c :: y)) 0 (strV (p ++ (c :: y ++ r))).length 1).head? = some p.length := by
  obtain ⟨q, e⟩ := occ_at (at_app p (c :: y) r) fun k hk => not_at h hk
  rw [e]; rfl
theorem find_of {x y : List Nat} {i : Nat} (h : At (strV x) (strV y) (strV x).length i) (hn : ∀ k, k < i → ¬ At (strV x) (strV y) (strV x).length k) : Txt.find (strV x) (strV y) = (i : Int) := by
  obtain ⟨q, e⟩ := occ_at h hn
  unfold Txt.find
  rw [e]

theorem parts_join {x y : List Nat} {c : Nat} : ∀ (ps : List (List Nat)) (p : List Nat) (a f : Nat) (cuts : List Nat), (∀ q ∈ p :: ps, c ∉ q) → x.drop a = joinT (c :: y) (p :: ps) → a ≤ x.length →
    ChainG (strV x) (strV (c :: y)) (strV x).length a cuts f → (∀ k, f ≤ k → ¬ At (strV x) (strV (c :: y)) (strV x).length k) → (partsFrom (strV x) (c :: y).length a cuts).map (fun z => z.cps.toList) = p :: ps := by
  intro ps
  induction ps with
  | nil =>
    intro p a f cuts hf hx ha hc hn
    have hx : x.drop a = p := hx
    cases cuts with
    | nil =>
      show [(strSub (strV x) a (strV x).length).cps.toList] = _
      rw [strSub_toList, sv_tl, sv_len, hx, List.take_of_length_le]
      rw [← hx, List.length_drop]; exact Nat.le_refl _
    | cons k r =>
      obtain ⟨h1, h2, -⟩ := hc
      exfalso
      rw [at_iff] at h2
      have e : (p.drop (k - a)).take (c :: y).length = c :: y := by rw [← hx, List.drop_drop, Nat.add_sub_cancel' h1]; exact h2.2
      exact hf p (.head _) (List.mem_of_mem_drop (List.mem_of_mem_take (e ▸ List.mem_cons_self ..)))
  | cons q ps ih =>
    intro p a f cuts hf hx ha hc hn
    have hx : x.drop a = p ++ (c :: y) ++ joinT (c :: y) (q :: ps) := hx
    have hx' : x = x.take a ++ p ++ (c :: y ++ joinT (c :: y) (q :: ps)) := by rw [List.append_assoc, ← List.append_assoc p, ← hx, List.take_append_drop]
    have la : (x.take a).length = a := by rw [List.length_take]; exact Nat.min_eq_left ha
    have h0 : At (strV x) (strV (c :: y)) (strV x).length (a + p.length) := by
      have := at_app (x.take a ++ p) (c :: y) (joinT (c :: y) (q :: ps))
      rw [← hx', List.length_append, la] at this
      exact this
    have hno : ∀ k, a ≤ k → k < a + p.length → ¬ At (strV x) (strV (c :: y)) (strV x).length k := by
      intro k h1 h2 h
      rw [at_iff] at h
      have e : (x.drop k).take 1 = [c] := by
        have := congrArg (List.take 1) h.2
        rwa [List.take_take, show min 1 (c :: y).length = 1 from Nat.min_eq_left (Nat.succ_le_succ (Nat.zero_le _))] at this
      have hk : k - a < p.length := by omega
      rw [← Nat.add_sub_cancel' h1, ← List.drop_drop, hx, List.append_assoc, List.drop_append_of_le_length (Nat.le_of_lt hk), List.drop_eq_getElem_cons hk] at e
      injection e with e1 _
      exact hf p (.head _) (e1 ▸ List.getElem_mem hk)
    cases cuts with
    | nil => have : f = a := hc; exact absurd h0 (hn _ (by omega))
    | cons k r =>
      obtain ⟨h1, h2, h3, h4⟩ := hc
      have ek : k = a + p.length := Nat.le_antisymm (Nat.le_of_not_lt fun l => h3 _ (Nat.le_add_right ..) l h0) (Nat.le_of_not_lt fun l => hno k h1 l h2)
      subst ek
      show (strSub (strV x) a (a + p.length)).cps.toList :: List.map _ (partsFrom (strV x) (c :: y).length (a + p.length + (c :: y).length) r) = _
      rw [sv_len] at h4
      rw [at_iff] at h2
      rw [ih q _ f r (fun z hz => hf z (.tail _ hz)) ?_ h2.1 h4 hn, strSub_toList, sv_tl, hx, Nat.add_sub_cancel_left, List.append_assoc, List.take_left]
      rw [Nat.add_assoc, ← List.drop_drop, hx, ← List.length_append, List.drop_left]
theorem kind_one {y : List Nat} (h : ∀ c ∈ y, c < 256) (x : Str) : decide (Builtin.Str.strKind x < Builtin.Str.strKind (strV y)) = false := by
  have e : Builtin.Str.strKind (strV y) = 1 := by
    unfold Builtin.Str.strKind
    rw [if_pos]
    simp only [strV, List.all_toArray, List.all_eq_true, decide_eq_true_eq]
    exact h
  rw [e]
  refine decide_eq_false ?_
  unfold Builtin.Str.strKind
  split
  · exact Nat.lt_irrefl _
  · split <;> decide
theorem split_join {y : List Nat} {c : Nat} {p : List Nat} {ps : List (List Nat)} (h : ∀ q ∈ p :: ps, c ∉ q) (hy : ∀ d ∈ c :: y, d < 256) : splitT (joinT (c :: y) (p :: ps)) (c :: y) = p :: ps := by
  have single : ps = [] → (strV (joinT (c :: y) (p :: ps))).cps.toList = p := by rintro rfl; rw [sv_tl]; rfl
  obtain ⟨f, h1, h2⟩ := occ_tight (strV (joinT (c :: y) (p :: ps))) (strV (c :: y)) (by rw [sv_len]; exact Nat.succ_le_succ (Nat.zero_le _))
  have key := parts_join ps p 0 f _ h rfl (Nat.zero_le _) h1 h2
  have long : ∀ q r, ps = q :: r → At (strV (joinT (c :: y) (p :: ps))) (strV (c :: y)) (strV (joinT (c :: y) (p :: ps))).length p.length := by
    rintro q r rfl
    rw [show joinT (c :: y) (p :: q :: r) = p ++ (c :: y ++ joinT (c :: y) (q :: r)) from List.append_assoc ..]
    exact at_app ..
  unfold splitT Txt.split
  rw [kind_one hy, Bool.or_false]
  split
  · rename_i hl
    cases ps with
    | nil => rw [List.map_cons, List.map_nil, single rfl]
    | cons q r =>
      exfalso
      have := (long q r rfl).1
      rw [sv_len, sv_len] at this
      rw [decide_eq_true_iff, sv_len, sv_len] at hl
      omega
  · split
    · rename_i he
      cases ps with
      | nil => rw [List.map_cons, List.map_nil, single rfl]
      | cons q r =>
        exfalso
        rw [List.isEmpty_iff] at he
        rw [he] at h1
        have : f = 0 := h1
        exact h2 _ (by omega) (long q r rfl)
    · rw [partsBetween_eq, sv_len]
      exact key
end

section

abbrev Tx := List Nat
abbrev Par := Tx × Option Tx
abbrev Hd := Tx × Option Tx × List Par
noncomputable def ov : Option Tx → V
  | none => .none
  | some x => .str x
noncomputable def pv (p : Par) : V := .tuple [.str p.1, ov p.2]
noncomputable def hv (h : Hd) : V := .tuple [.str h.1, ov h.2.1, .list (h.2.2.map pv)]
noncomputable def fv (h : Hd) : V := .tuple [.str h.1, .tuple [ov h.2.1, .list (h.2.2.map pv)]]
noncomputable def VlOk (x : Tx) : Prop := x.length ≤ 1000 ∧ ∀ c ∈ x, c < 256 ∧ (32 ≤ c ∨ c = 9) ∧ c ≠ 127
noncomputable def NmOk (x : Tx) : Prop := x.length ≤ 1000 ∧ ∀ c ∈ x, 32 ≤ c ∧ c < 127
noncomputable def SOk (x : Tx) : Prop := x.length ≤ 3 ∧ ∀ c ∈ x, c < 256 ∧ (32 ≤ c ∨ c = 9) ∧ c ≠ 127
noncomputable def WOk (w : Tx) : Prop := w.head? = some 107 ∧ w.length ≤ 4 ∧ ∀ c ∈ w, 48 ≤ c ∧ c < 127 ∧ c ≠ 59 ∧ c ≠ 61
noncomputable def POk (p : Par) : Prop := WOk p.1 ∧ ∀ t, p.2 = some t → SOk t
noncomputable def N5 : List Tx := [[65], [97], [65, 98], [98, 58], []]
structure HOk (h : Hd) : Prop where
  n : h.1 ∈ N5
  o : ∀ t, h.2.1 = some t → SOk t ∧ 59 ∉ t ∧ t.head? ≠ some 107
  p : ∀ p ∈ h.2.2, POk p
  d : (h.2.2.map (·.1)).Nodup
  l : h.2.2.length ≤ 9

noncomputable def fo (x : Tx) : Tx := replT 95 [45] x
noncomputable def esc (t : Tx) : Tx := replT 34 [92, 34] (replT 92 [92, 92] t)
noncomputable def par (p : Par) : Tx := match p.2 with
  | some (c :: t) => fo p.1 ++ [61, 34] ++ esc (c :: t) ++ [34]
  | _ => fo p.1
noncomputable def tl (ps : List Par) : Tx := ps.flatMap fun p => 59 :: 32 :: par p
noncomputable def val (h : Hd) : Tx := joinT [59, 32] (h.2.1.toList ++ h.2.2.map par)
noncomputable def ln (h : Hd) : Tx := h.1 ++ [58, 32] ++ val h
noncomputable def dn : Option Tx → Option Tx
  | some [] => none
  | x => x
noncomputable def dp (p : Par) : Par := (p.1, dn p.2)
noncomputable def du (h : Hd) : Hd := (h.1, if h.2.1 = none ∧ h.2.2 = [] then some [] else h.2.1, h.2.2.map dp)

theorem replT_app (c : Nat) (z x y : Tx) : replT c z (x ++ y) = replT c z x ++ replT c z y := List.flatMap_append
theorem replT_cons (c : Nat) (z x : Tx) (d : Nat) : replT c z (d :: x) = (if d = c then z else [d]) ++ replT c z x := rfl
theorem replT_no {c : Nat} {z : Tx} : ∀ {x : Tx}, c ∉ x → replT c z x = x
  | [], _ => rfl
  | d :: x, h => by
    rw [replT_cons, if_neg (fun e : d = c => h (e ▸ .head _)), replT_no fun m => h (.tail _ m)]; rfl
theorem fo_len : ∀ (x : Tx), (fo x).length = x.length
  | [] => rfl
  | d :: x => by
    unfold fo; rw [replT_cons]
    have := fo_len x
    unfold fo at this
    split <;> simp [this]
theorem fo_mem {x : Tx} {c : Nat} (h : c ∈ fo x) : c = 45 ∨ c ∈ x ∧ c ≠ 95 := by
  obtain ⟨d, hd, h⟩ := List.mem_flatMap.mp h
  split at h
  · exact .inl (List.mem_singleton.mp h)
  · rename_i n; cases List.mem_singleton.mp h; exact .inr ⟨hd, n⟩
theorem un_fo : ∀ {x : Tx}, 45 ∉ x → replT 45 [95] (fo x) = x
  | [], _ => rfl
  | d :: x, h => by
    have hd : d ≠ 45 := fun e => h (e ▸ .head _)
    unfold fo
    rw [replT_cons, replT_app]
    have := un_fo (x := x) fun m => h (.tail _ m)
    unfold fo at this
    rw [this]
    by_cases e : d = 95
    · rw [if_pos e, e]; rfl
    · rw [if_neg e]; show replT 45 [95] [d] ++ x = _; rw [replT_cons, if_neg hd]; rfl
noncomputable def e1 (c : Nat) : Tx := if c = 92 then [92, 92] else if c = 34 then [92, 34] else [c]
theorem esc_eq : ∀ (t : Tx), esc t = t.flatMap e1
  | [] => rfl
  | c :: t => by
    have := esc_eq t
    unfold esc at this ⊢
    rw [replT_cons, replT_app, this, List.flatMap_cons]
    congr 1
    unfold e1
    by_cases h : c = 92
    · rw [if_pos h, if_pos h]; rfl
    · rw [if_neg h, if_neg h, replT_cons]
      show _ ++ [] = _
      rw [List.append_nil]
theorem e1_len (c : Nat) : 1 ≤ (e1 c).length ∧ (e1 c).length ≤ 2 := by
  unfold e1; split
  · decide
  · split
    · decide
    · exact ⟨Nat.le_refl _, Nat.le_succ _⟩
theorem esc_len {t : Tx} : (esc t).length ≤ 2 * t.length := by
  rw [esc_eq]
  induction t with
  | nil => exact Nat.le_refl _
  | cons c t ih => rw [List.flatMap_cons, List.length_append, List.length_cons]; have := (e1_len c).2; omega
theorem esc_mem {t : Tx} {c : Nat} (h : c ∈ esc t) : c = 92 ∨ c ∈ t := by
  rw [esc_eq] at h
  obtain ⟨d, hd, h⟩ := List.mem_flatMap.mp h
  unfold e1 at h
  split at h
  · rcases List.mem_cons.mp h with rfl | h
    · exact .inl rfl
    · exact .inl (List.mem_singleton.mp h)
  · split at h
    · rename_i e
      rcases List.mem_cons.mp h with rfl | h
      · exact .inl rfl
      · cases List.mem_singleton.mp h; exact .inr (e ▸ hd)
    · cases List.mem_singleton.mp h; exact .inr hd
theorem join_tl (o : Tx) : ∀ ps : List Par, joinT [59, 32] (o :: ps.map par) = o ++ tl ps
  | [] => (List.append_nil o).symm
  | p :: ps => by
    show o ++ [59, 32] ++ joinT [59, 32] (par p :: ps.map par) = o ++ tl (p :: ps)
    rw [join_tl (par p) ps, List.append_assoc]; rfl
theorem tl_cons (p : Par) (ps : List Par) : tl (p :: ps) = 59 :: 32 :: (par p ++ tl ps) := rfl
theorem dn_par (p : Par) : par (dp p) = par p := by
  obtain ⟨w, t⟩ := p
  rcases t with _ | _ | ⟨c, t⟩ <;> rfl
theorem val_du (h : Hd) : val (du h) = val h := by
  obtain ⟨n, o, ps⟩ := h
  show joinT [59, 32] ((if o = none ∧ ps = [] then some [] else o).toList ++ (ps.map dp).map par) = joinT [59, 32] (o.toList ++ ps.map par)
  rw [List.map_map, show (par ∘ dp) = par from funext dn_par]
  split
  · rename_i q; rw [q.1, q.2]; rfl
  · rfl
theorem dn_dn (t : Option Tx) : dn (dn t) = dn t := by rcases t with _ | _ | ⟨c, t⟩ <;> rfl

theorem par_ok {p : Par} (h : POk p) : (par p).length ≤ 13 ∧ ∀ c ∈ par p, c < 256 ∧ (32 ≤ c ∨ c = 9) ∧ c ≠ 127 := by
  obtain ⟨w, t⟩ := p
  obtain ⟨⟨-, h1, h2⟩, h3⟩ := h
  have hf : ∀ c ∈ fo w, c < 256 ∧ (32 ≤ c ∨ c = 9) ∧ c ≠ 127 := fun c m => by
    rcases fo_mem m with rfl | ⟨m, -⟩
    · decide
    · obtain ⟨a, b, -⟩ := h2 c m; exact ⟨Nat.lt_trans b (by decide), .inl (Nat.le_trans (by decide) a), Nat.ne_of_lt b⟩
  have hl := fo_len w
  have plain : par (w, t) = fo w → (par (w, t)).length ≤ 13 ∧ ∀ c ∈ par (w, t), c < 256 ∧ (32 ≤ c ∨ c = 9) ∧ c ≠ 127 := fun e => by rw [e, hl]; exact ⟨Nat.le_trans h1 (by decide), hf⟩
  rcases t with _ | _ | ⟨c, t⟩
  · exact plain rfl
  · exact plain rfl
  · obtain ⟨l, q⟩ := h3 _ rfl
    have le := esc_len (t := c :: t)
    constructor
    · show (fo w ++ [61, 34] ++ esc (c :: t) ++ [34]).length ≤ 13
      simp only [List.length_append, List.length_cons, List.length_nil, hl] at h1 l le ⊢
      omega
    · intro d hd
      have hd : d ∈ fo w ++ [61, 34] ++ esc (c :: t) ++ [34] := hd
      rcases List.mem_append.mp hd with hd | hd
      · rcases List.mem_append.mp hd with hd | hd
        · rcases List.mem_append.mp hd with hd | hd
          · exact hf d hd
          · exact (by decide : ∀ d ∈ [61, 34], d < 256 ∧ (32 ≤ d ∨ d = 9) ∧ d ≠ 127) d hd
        · rcases esc_mem hd with rfl | hd
          · decide
          · exact q d hd
      · cases List.mem_singleton.mp hd; decide
theorem tl_ok : ∀ {ps : List Par}, (∀ p ∈ ps, POk p) → (tl ps).length ≤ 15 * ps.length ∧ ∀ c ∈ tl ps, c < 256 ∧ (32 ≤ c ∨ c = 9) ∧ c ≠ 127
  | [], _ => ⟨Nat.le_refl _, fun _ m => nomatch m⟩
  | p :: ps, h => by
    obtain ⟨a, b⟩ := par_ok (h p (.head _))
    obtain ⟨c, d⟩ := tl_ok fun q hq => h q (.tail _ hq)
    rw [tl_cons]
    constructor
    · simp only [List.length_cons, List.length_append]; omega
    · intro x hx
      rcases List.mem_cons.mp hx with rfl | hx
      · decide
      rcases List.mem_cons.mp hx with rfl | hx
      · decide
      rcases List.mem_append.mp hx with hx | hx
      · exact b x hx
      · exact d x hx
theorem val_shape {h : Hd} (H : HOk h) : (∃ p ps, h.2.1 = none ∧ h.2.2 = p :: ps ∧ val h = par p ++ tl ps ∧ (du h).2.1 = none) ∨ ∃ o, (du h).2.1 = some o ∧ SOk o ∧ 59 ∉ o ∧ o.head? ≠ some 107 ∧ val h = o ++ tl h.2.2 := by
  obtain ⟨n, o, ps⟩ := h
  cases o with
  | some o => exact .inr ⟨o, rfl, (H.o o rfl).1, (H.o o rfl).2.1, (H.o o rfl).2.2, join_tl o ps⟩
  | none =>
    cases ps with
    | nil => exact .inr ⟨[], rfl, ⟨by decide, fun _ m => nomatch m⟩, (nomatch ·), nofun, rfl⟩
    | cons p ps => exact .inl ⟨p, ps, rfl, rfl, join_tl (par p) ps, rfl⟩
theorem val_ok {h : Hd} (H : HOk h) : (val h).length ≤ 200 ∧ ∀ c ∈ val h, c < 256 ∧ (32 ≤ c ∨ c = 9) ∧ c ≠ 127 := by
  have hp := H.p
  have hl := H.l
  rcases val_shape H with ⟨p, ps, -, e, q, -⟩ | ⟨o, -, ⟨h1, h2⟩, -, -, q⟩
  · rw [e] at hp hl
    obtain ⟨a, b⟩ := par_ok (hp p (.head _))
    obtain ⟨c, d⟩ := tl_ok fun q hq => hp q (.tail _ hq)
    rw [q]
    rw [List.length_cons] at hl
    exact ⟨by rw [List.length_append]; omega, fun x hx => (List.mem_append.mp hx).elim (b x) (d x)⟩
  · obtain ⟨c, d⟩ := tl_ok hp
    rw [q]
    exact ⟨by rw [List.length_append]; omega, fun x hx => (List.mem_append.mp hx).elim (h2 x) (d x)⟩
theorem val_vl {h : Hd} (H : HOk h) : VlOk (val h) := ⟨Nat.le_trans (val_ok H).1 (by decide), (val_ok H).2⟩
theorem n5_ok {x : Tx} (h : x ∈ N5) : x.length ≤ 2 ∧ ∀ c ∈ x, 32 ≤ c ∧ c < 127 := (by decide : ∀ x ∈ N5, x.length ≤ 2 ∧ ∀ c ∈ x, 32 ≤ c ∧ c < 127) x h
theorem n5_nm {x : Tx} (h : x ∈ N5) : NmOk x := ⟨Nat.le_trans (n5_ok h).1 (by decide), (n5_ok h).2⟩
theorem du_ok {h : Hd} (H : HOk h) : HOk (du h) := by
  refine ⟨H.n, fun t e => ?_, fun p hp => ?_, ?_, ?_⟩
  · rcases val_shape H with ⟨_, _, -, -, -, q⟩ | ⟨o, q, q1, q2, q3, -⟩
    · rw [q] at e; cases e
    · rw [q] at e; cases e; exact ⟨q1, q2, q3⟩
  · obtain ⟨q, hq, rfl⟩ := List.mem_map.mp (show p ∈ h.2.2.map dp from hp)
    refine ⟨(H.p q hq).1, fun t e => (H.p q hq).2 t ?_⟩
    have e : dn q.2 = some t := e
    revert e
    rcases q.2 with _ | _ | ⟨c, u⟩
    · nofun
    · nofun
    · exact id
  · show ((h.2.2.map dp).map (·.1)).Nodup
    rw [List.map_map]; exact H.d
  · show (h.2.2.map dp).length ≤ 9
    rw [List.length_map]; exact H.l

theorem pk_to {α : Type} (xs : List α) (k : Nat) : pickL xs none (some (k : Int)) = xs.take k := by
  show (xs.take (clipAt xs.length (k : Int))).drop 0 = _
  rw [clipAt_nat, List.drop_zero]
  rcases Nat.le_total k xs.length with h | h
  · rw [Nat.min_eq_left h]
  · rw [Nat.min_eq_right h, List.take_length, List.take_of_length_le h]
theorem pk_from {α : Type} (xs : List α) (k : Nat) : pickL xs (some (k : Int)) none = xs.drop k := by
  show (xs.take xs.length).drop (clipAt xs.length (k : Int)) = _
  rw [clipAt_nat, List.take_length]
  rcases Nat.le_total k xs.length with h | h
  · rw [Nat.min_eq_left h]
  · rw [Nat.min_eq_right h, List.drop_length, List.drop_of_length_le h]
theorem pk_mid {α : Type} (a b c : List α) : pickL (a ++ b ++ c) (some (a.length : Int)) (some ((a.length + b.length : Nat) : Int)) = b := by
  show ((a ++ b ++ c).take (clipAt (a ++ b ++ c).length ((a.length + b.length : Nat) : Int))).drop (clipAt (a ++ b ++ c).length (a.length : Int)) = b
  rw [clipAt_nat, clipAt_nat, List.length_append, List.length_append, Nat.min_eq_left (Nat.le_add_right ..), Nat.min_eq_left (Nat.le_trans (Nat.le_add_right ..) (Nat.le_add_right ..)), ← List.length_append, List.take_left, List.drop_left]
theorem at_mid {α : Type} (a b : List α) (x : α) (h : a.length ≤ 1000000) : seqAt (a ++ x :: b) (a.length : Int) = some x := by
  unfold seqAt
  rw [if_pos ⟨by omega, by omega⟩]
  have : seqIndex? (a.length : Int) (a ++ x :: b).length = some a.length := by
    rw [StrLaws.seqIndex_nonneg (Int.natCast_nonneg _) (by rw [List.length_append, List.length_cons]; omega)]; rfl
  rw [this]
  simp
end

-- EV begin
local macro_rules | `(tactic| walk_at "EV") => do
  let mut t ← `(tactic| first | assumption | ((with_reducible first | apply nl_own | apply nl_not) <;> walk_at "EV") | exact rfl | (simp only [List.length_map, List.length_append, List.length_cons, List.length_nil]; omega) | omega | first | exact hm_conv | exact hm_add | exact hm_getall)
  for n in "x_cons x_stop x_ite_f x_ite_t al_go_f al_go_t al_stop_f al_stop_t t_not_f t_not_t b_go_f b_go_t b_stop_f b_stop_t e_ife_f e_ife_t sp_cons sv_skip sT_tup sT_one x_setattr x_expr x_assign x_aug x_ret if_one t_sm t_cmp t_var t_or t_and b_one e_or e_and e_attr e_sm e_repl e_fmt e_conv_t e_conv_f e_new e_methD e_meth e_bi e_call e_slice e_neg e_not e_idx e_cmp e_bin e_list e_tuple o_yes k_cons es_cons e_var sp_nil sv_hit x_nil if_nil al_nil t_bool o_no k_nil es_nil e_tyn e_glob e_bool e_none e_str e_int".splitOn " " do
    t ← `(tactic| first | ((with_reducible apply $(Lean.mkIdent (Lean.Name.mkSimple n))) <;> walk_at "EV") | $t:tactic)
  return t
-- EV end
section

noncomputable def Closed (σ : Store) : Prop := σ.all (OObj.under σ.length) = true
theorem fin_same {τ : Store} {n : Nat} {v : V} (h : n = τ.length) (hf : frz n τ 6 v = some v) : fin n v τ = (v, τ) := by
  subst h
  unfold fin
  rw [List.take_length]
  split
  · rw [hf]
  · rfl
theorem fin_none {τ : Store} {n : Nat} {v : V} (hf : frz n τ 6 v = none) : fin n v τ = (v, τ) := by
  unfold fin
  split
  · rw [hf]
  · rfl
theorem fin_open {τ : Store} {n : Nat} {v : V} (h : (τ.take n).all (OObj.under n) = false) : fin n v τ = (v, τ) := if_neg (by rw [h]; exact Bool.false_ne_true)
theorem fin_cut {τ ρ : Store} {n : Nat} {v d : V} (hc : Closed τ) (hn : n = τ.length) (hf : frz n (τ ++ ρ) 6 v = some d) : fin n v (τ ++ ρ) = (d, τ) := by
  subst hn
  unfold fin
  rw [List.take_left, if_pos (show τ.all _ = true from hc), hf]
theorem mapM_some {α β γ : Type} {g : α → β} {g' : α → γ} {F : β → Option γ} : ∀ {xs : List α}, (∀ x ∈ xs, F (g x) = some (g' x)) → (xs.map g).mapM F = some (xs.map g')
  | [], _ => rfl
  | x :: xs, h => by
    rw [List.map_cons, List.mapM_cons, h x (.head _), mapM_some fun y hy => h y (.tail _ hy)]; rfl
theorem fz_str {n f : Nat} {σ : Store} (x : Tx) : frz n σ (f+1) (.str x) = some (.str x) := rfl
theorem fz_ov {n f : Nat} {σ : Store} (o : Option Tx) : frz n σ (f+1) (ov o) = some (ov o) := by cases o <;> rfl
theorem fz_tup {n f : Nat} {σ : Store} {vs ws : List V} (h : vs.mapM (frz n σ f) = some ws) : frz n σ (f+1) (.tuple vs) = some (.tuple ws) := by
  show (vs.mapM (frz n σ f)).map _ = _; rw [h]; rfl
theorem fz_list {n f : Nat} {σ : Store} {vs ws : List V} (h : vs.mapM (frz n σ f) = some ws) : frz n σ (f+1) (.list vs) = some (.list ws) := by
  show (vs.mapM (frz n σ f)).map _ = _; rw [h]; rfl
theorem fz_own {n f k : Nat} {σ : Store} {vs ws : List V} (hk : ¬ k < n) (hl : σ[k]? = some (.lst vs)) (h : vs.mapM (frz n σ f) = some ws) : frz n σ (f+1) (.own k) = some (.list ws) := by
  show (if k < n then _ else _) = _
  rw [if_neg hk, lstK_at hl, h]; rfl
theorem mapM2 {F : V → Option V} {a b a' b' : V} (h : F a = some a') (k : F b = some b') : [a, b].mapM F = some [a', b'] := by
  rw [List.mapM_cons, h, List.mapM_cons, k]; rfl
theorem mapM3 {F : V → Option V} {a b c a' b' c' : V} (h : F a = some a') (k : F b = some b') (l : F c = some c') : [a, b, c].mapM F = some [a', b', c'] := by
  rw [List.mapM_cons, h, mapM2 k l]; rfl
theorem fz_pv {n f : Nat} {σ : Store} (p : Par) : frz n σ (f+2) (pv p) = some (pv p) := fz_tup (mapM2 (fz_str _) (fz_ov _))
theorem fz_pvs {n f : Nat} {σ : Store} (ps : List Par) : frz n σ (f+3) (.list (ps.map pv)) = some (.list (ps.map pv)) := fz_list (mapM_some fun p _ => fz_pv p)
theorem fz_fv {n f : Nat} {σ : Store} (h : Hd) : frz n σ (f+5) (fv h) = some (fv h) := fz_tup (mapM2 (fz_str _) (fz_tup (mapM2 (fz_ov _) (fz_pvs _))))

theorem get_pre {α : Type} {τ : List α} {i : Nat} {a : α} {r : List α} (h : τ[i]? = some a) : (τ ++ r)[i]? = some a := by
  rw [List.getElem?_append_left (List.getElem?_eq_some_iff.mp h).1]; exact h
theorem get_last {α : Type} {τ : List α} {a : α} {r : List α} : (τ ++ a :: r)[τ.length]? = some a := by
  rw [List.getElem?_append_right (Nat.le_refl _), Nat.sub_self]; rfl
theorem get_at {α : Type} {τ : List α} {a : α} {r : List α} {k : Nat} (h : r[k]? = some a) : (τ ++ r)[τ.length + k]? = some a := by
  rw [List.getElem?_append_right (Nat.le_add_right ..), Nat.add_sub_cancel_left]; exact h
theorem set_last {α : Type} {τ : List α} {a b : α} {r : List α} : (τ ++ a :: r).set τ.length b = τ ++ b :: r := by
  rw [List.set_append_right _ _ (Nat.le_refl _), Nat.sub_self]; rfl
mutual
theorem _root_.Mine.V.under_mono {n m : Nat} (h : n ≤ m) : ∀ {v : V}, v.under n = true → v.under m = true
  | .none, _ => rfl
  | .bool _, _ => rfl
  | .int _, _ => rfl
  | .str _, _ => rfl
  | .bytes _, _ => rfl
  | .tuple l, q => V.unders_mono h (vs := l) q
  | .list l, q => V.unders_mono h (vs := l) q
  | .own k, q => decide_eq_true (Nat.lt_of_lt_of_le (of_decide_eq_true (show decide (k < n) = true from q)) h)
  | .gl _, _ => rfl
  | .ty _, _ => rfl
  | .rng _, _ => rfl
  | .items k, q => decide_eq_true (Nat.lt_of_lt_of_le (of_decide_eq_true (show decide (k < n) = true from q)) h)
theorem _root_.Mine.V.unders_mono {n m : Nat} (h : n ≤ m) : ∀ {vs : List V}, V.unders n vs = true → V.unders m vs = true
  | [], _ => rfl
  | v :: r, q => by
    have q : (v.under n && V.unders n r) = true := q
    rw [Bool.and_eq_true] at q
    show (v.under m && V.unders m r) = true
    rw [V.under_mono h q.1, V.unders_mono h q.2]; rfl
end
theorem _root_.Mine.OObj.under_mono {n m : Nat} (h : n ≤ m) {o : OObj} (q : o.under n = true) : o.under m = true := by
  cases o with
  | lst vs => exact V.unders_mono h q
  | inst d => exact decide_eq_true (Nat.lt_of_lt_of_le (of_decide_eq_true (show decide (d < n) = true from q)) h)
  | attrs v => cases v with
    | none => rfl
    | some v => exact V.under_mono h q
  | dct es =>
    have q : es.all (fun p => p.2.under n) = true := q
    show es.all (fun p => p.2.under m) = true
    rw [List.all_eq_true] at q ⊢
    exact fun p hp => V.under_mono h (q p hp)

abbrev Hs := List (Tx × Tx)
noncomputable def pr (p : Tx × Tx) : V := .tuple [.str p.1, .str p.2]
noncomputable def S3 (σ : Store) (hs : Hs) : Store := σ ++ [.attrs (some (.own (σ.length + 2))), .inst σ.length, .lst (hs.map pr)]
theorem under_pr (n : Nat) : ∀ hs : Hs, V.unders n (hs.map pr) = true
  | [] => rfl
  | p :: r => by show (V.under n (pr p) && V.unders n (r.map pr)) = true; rw [under_pr n r]; rfl
theorem S3_len {σ : Store} {hs : Hs} : (S3 σ hs).length = σ.length + 3 := by unfold S3; rw [List.length_append]; rfl
theorem S3_closed {σ : Store} {hs : Hs} (h : Closed σ) : Closed (S3 σ hs) := by
  unfold Closed
  rw [S3_len]
  unfold S3 Closed at *
  rw [List.all_append, Bool.and_eq_true]
  constructor
  · rw [List.all_eq_true] at h ⊢
    exact fun o ho => OObj.under_mono (Nat.le_add_right ..) (h o ho)
  · show (decide (σ.length + 2 < σ.length + 3) && (decide (σ.length < σ.length + 3) && (V.unders (σ.length + 3) (hs.map pr) && true))) = true
    rw [under_pr, decide_eq_true (by omega), decide_eq_true (by omega)]; rfl
structure Tb (σ : Store) (h l : Nat) (hs : Hs) : Prop where
  d : ∃ d, σ[h]? = some (.inst d) ∧ σ[d]? = some (.attrs (some (.own l)))
  l : σ[l]? = some (.lst (hs.map pr))
theorem Tb.pre {σ : Store} {h l : Nat} {hs : Hs} {r : Store} (B : Tb σ h l hs) : Tb (σ ++ r) h l hs :=
  let ⟨⟨d, a, b⟩, c⟩ := B; ⟨⟨d, get_pre a, get_pre b⟩, get_pre c⟩
theorem Tb.inst {σ : Store} {h l : Nat} {hs : Hs} (B : Tb σ h l hs) : isInst σ h = true := by
  obtain ⟨⟨d, h1, h2⟩, h3⟩ := B
  unfold isInst; rw [instK_at h1, attrsK_at h2]; rfl
theorem S3_tb {σ : Store} {hs : Hs} : Tb (S3 σ hs) (σ.length + 1) (σ.length + 2) hs := ⟨⟨σ.length, get_at rfl, get_last⟩, get_at rfl⟩
theorem S3_set {σ : Store} {hs hs' : Hs} {r : Store} : (S3 σ hs ++ r).set (σ.length + 2) (.lst (hs'.map pr)) = S3 σ hs' ++ r := by
  unfold S3
  rw [List.append_assoc, List.append_assoc, List.set_append_right _ _ (Nat.le_add_right ..), Nat.add_sub_cancel_left]; rfl
theorem it_own {σ : Store} {l : Nat} {vs : List V} (h : σ[l]? = some (.lst vs)) : iterC σ (.own l) = some vs := by show ownLst σ l = _; unfold ownLst; exact lstK_at h
theorem still_own {σ : Store} {l : Nat} {vs : List V} (h : σ[l]? = some (.lst vs)) : still (.own l) vs σ = true := by
  show Option.elim (ownLst σ l) false (V.eqbs vs) = true
  unfold ownLst; rw [lstK_at h]; exact V.eqbs_refl _
theorem lo_own {σ : Store} {l : Nat} {vs : List V} (h : σ[l]? = some (.lst vs)) : lstOf σ (.own l) = some vs := by show ownLst σ l = _; unfold ownLst; exact lstK_at h

theorem compM_keep {step : V → Rho → List V → Store → Option (Rho × List V × Store)} {ok : Store → Bool} {σ : Store} (P : Rho → Prop) {α : Type} (g : α → V) (f : α → List V) (hok : ok σ = true) :
    ∀ {vs : List α}, (∀ v ∈ vs, (f v).length ≤ 1) → (∀ v ∈ vs, ∀ ρ acc, P ρ → acc.length ≤ 1000 → ∃ ρ', P ρ' ∧ step (g v) ρ acc σ = some (ρ', acc ++ f v, σ)) → ∀ {ρ acc}, P ρ → acc.length + vs.length ≤ 1000 → ∃ ρ', compM step ok (vs.map g) ρ acc σ = some (ρ', acc ++ vs.flatMap f, σ) := by
  intro vs
  induction vs with
  | nil => intro _ _ ρ acc hP _; exact ⟨ρ, by rw [List.flatMap_nil, List.append_nil]; exact if_pos hok⟩
  | cons v r ih =>
    intro h1 hs ρ acc hP hl
    rw [List.length_cons] at hl
    obtain ⟨ρ', hP', e⟩ := hs v (.head _) ρ acc hP (by omega)
    have hv := h1 v (.head _)
    obtain ⟨ρ'', e'⟩ := ih (fun v hv => h1 v (.tail _ hv)) (fun v hv => hs v (.tail _ hv)) (ρ := ρ') (acc := acc ++ f v) hP' (by rw [List.length_append]; omega)
    refine ⟨ρ'', ?_⟩
    show (if ok σ = true then (step (g v) ρ acc σ).bind _ else none) = _
    rw [if_pos hok, e, Option.bind_some, List.flatMap_cons, ← List.append_assoc]
    exact e'
noncomputable def Turn (K : Cfg) (O : Orc) (σ : Store) (e : ME) (t : MT) (ifs : MEs) (P : Rho → Prop) (v : V) (f : List V) (ρ : Rho) : Prop :=
  ∃ ρ₁ b, setT ρ t v = some ρ₁ ∧ P ρ₁ ∧ ifsM K O ρ₁ σ ifs = some (b, σ) ∧ if b then ∃ w, evalM K O ρ₁ σ e = some (w, σ) ∧ f = [w] else f = []
variable {K : Cfg} {O : Orc}
theorem e_comp1 {ρ : Rho} {σ : Store} {e it : ME} {t : MT} {ifs : MEs} {x : V} {α : Type} {vs : List α} {us : List V} (P : Rho → Prop) (g : α → V) (f : α → List V) (h : evalM K O ρ σ it = some (x, σ)) (hv : iterC σ x = some (vs.map g)) (hst : still x (vs.map g) σ = true)
    (turn : ∀ v ∈ vs, ∀ ρ, P ρ → Turn K O σ e t ifs P (g v) (f v) ρ)
    (hP : P ((".0" :: t.names).map (fun x => (x, none)) ++ ρ)) (hl : vs.length ≤ 1000) (hu : vs.flatMap f = us) : evalM K O ρ σ (.comp e t it ifs) = some (.list us, σ) := by
  subst hu
  obtain ⟨ρ', hc⟩ := compM_keep (step := fun v ρ acc σ => (setT ρ t v).bind fun ρ => (ifsM K O ρ σ ifs).bind fun (b, σ) => if b then (evalM K O ρ σ e).bind fun (v, σ) => if acc.length ≤ 1000 then some (ρ, acc ++ [v], σ) else none else some (ρ, acc, σ)) (ok := still x (vs.map g)) P g f hst (vs := vs) (fun v hv => by
      obtain ⟨_, b, _, _, _, q⟩ := turn v hv _ hP
      cases b with
      | true => obtain ⟨w, _, q⟩ := q; rw [q]; exact Nat.le_refl 1
      | false => rw [show f v = [] from q]; exact Nat.zero_le 1) (fun v hv ρ acc hp ha => by
      obtain ⟨ρ₁, b, q1, q2, q3, q⟩ := turn v hv ρ hp
      refine ⟨ρ₁, q2, ?_⟩
      cases b with
      | true =>
        obtain ⟨w, q4, q5⟩ := q
        rw [q5]; exact turn_in (el := fun ρ σ => evalM K O ρ σ e) q1 q3 q4 ha
      | false =>
        rw [show f v = [] from q, List.append_nil]; exact turn_out (el := fun ρ σ => evalM K O ρ σ e) q1 q3) hP (acc := []) (by rw [List.length_nil, Nat.zero_add]; exact hl)
  exact e_comp h hv hc
theorem tr_yes {ρ ρ₁ : Rho} {σ : Store} {e : ME} {t : MT} {ifs : MEs} {v w : V} {P : Rho → Prop} {f : List V} (h : setT ρ t v = some ρ₁) (hp : P ρ₁) (k : ifsM K O ρ₁ σ ifs = some (true, σ)) (q : evalM K O ρ₁ σ e = some (w, σ)) (hf : f = [w]) :
    Turn K O σ e t ifs P v f ρ := ⟨ρ₁, true, h, hp, k, w, q, hf⟩
theorem tr_no {ρ ρ₁ : Rho} {σ : Store} {e : ME} {t : MT} {ifs : MEs} {v : V} {P : Rho → Prop} {f : List V} (h : setT ρ t v = some ρ₁) (hp : P ρ₁) (k : ifsM K O ρ₁ σ ifs = some (false, σ)) (hf : f = []) :
    Turn K O σ e t ifs P v f ρ := ⟨ρ₁, false, h, hp, k, hf⟩
theorem loopM_fold {step : V → Rho → Store → Option (Fl × Rho × Store)} {ok : Store → Bool} {α : Type} (g : α → V) (I : List α → Rho → Store → Prop) (whole : List α)
    (hs : ∀ d x e, whole = d ++ x :: e → ∀ ρ σ, I d ρ σ → ∃ ρ' σ', step (g x) ρ σ = some (Fl.next, ρ', σ') ∧ I (d ++ [x]) ρ' σ') (he : ∀ d ρ σ, I d ρ σ → ok σ = true) : ∀ {r d : List α}, whole = d ++ r →
    ∀ {ρ σ}, I d ρ σ → ∃ ρ' σ', loopM step ok (r.map g) ρ σ = some (Fl.next, ρ', σ') ∧ I whole ρ' σ' := by
  intro r
  induction r with
  | nil => intro d hw ρ σ hI; exact ⟨ρ, σ, if_pos (he d ρ σ hI), by rw [hw, List.append_nil]; exact hI⟩
  | cons x r ih =>
    intro d hw ρ σ hI
    obtain ⟨ρ', σ', h2, h3⟩ := hs d x r hw ρ σ hI
    obtain ⟨ρ'', σ'', h4, h5⟩ := ih (d := d ++ [x]) (by rw [hw, List.append_assoc]; rfl) h3
    refine ⟨ρ'', σ'', ?_, h5⟩
    show (if ok σ = true then (step (g x) ρ σ).bind _ else none) = _
    rw [if_pos (he d ρ σ hI), h2, Option.bind_some]
    exact h4
theorem x_fold {ρ : Rho} {σ σ₀ : Store} {it : ME} {t : MT} {ms : MSs} {x : V} {α : Type} (g : α → V) {r : List α} (I : List α → Rho → Store → Prop) (h : evalM K O ρ σ₀ it = some (x, σ)) (hv : iterT t σ x = some (r.map g)) (hst : ∀ d ρ σ, I d ρ σ → still x (r.map g) σ = true)
    (turn : ∀ d x e, r = d ++ x :: e → ∀ ρ σ, I d ρ σ → ∃ ρ₁ ρ' σ', setT ρ t (g x) = some ρ₁ ∧ execsM K O ρ₁ σ ms = some (.next, ρ', σ') ∧ I (d ++ [x]) ρ' σ') (h0 : I [] ρ σ) : ∃ ρ' σ', execM K O ρ σ₀ (.for t it ms) = some (.next, ρ', σ') ∧ I r ρ' σ' := by
  obtain ⟨ρ', σ', q, hI⟩ := loopM_fold (step := fun v ρ σ => (setT ρ t v).bind fun ρ => execsM K O ρ σ ms) (ok := still x (r.map g)) g I r (fun d y e hw ρ σ hI => by
    obtain ⟨ρ₁, ρ', σ', q1, q2, q3⟩ := turn d y e hw ρ σ hI
    refine ⟨ρ', σ', ?_, q3⟩
    rw [q1]; exact q2) hst (r := r) (d := []) rfl h0
  exact ⟨ρ', σ', x_for h hv q, hI⟩
theorem while_inv {c : Rho → Store → Option (Bool × Store)} {bd : Rho → Store → Option (Fl × Rho × Store)} (I : Nat → Rho → Store → Prop) (m : Nat) (hs : ∀ i, i < m → ∀ ρ σ, I i ρ σ → c ρ σ = some (true, σ) ∧ ∃ ρ' σ', bd ρ σ = some (.next, ρ', σ') ∧ I (i + 1) ρ' σ')
    (he : ∀ ρ σ, I m ρ σ → c ρ σ = some (false, σ)) : ∀ (k i f : Nat), i + k = m → k < f → ∀ {ρ σ}, I i ρ σ → ∃ ρ' σ', whileM c bd f ρ σ = some (.next, ρ', σ') ∧ I m ρ' σ' := by
  intro k
  induction k with
  | zero =>
    intro i f hi hf ρ σ hI
    cases hi
    obtain ⟨f, rfl⟩ : ∃ g, f = g + 1 := ⟨f - 1, by omega⟩
    refine ⟨ρ, σ, ?_, hI⟩
    show (c ρ σ).bind _ = _
    rw [he ρ σ hI]; rfl
  | succ k ih =>
    intro i f hi hf ρ σ hI
    obtain ⟨f, rfl⟩ : ∃ g, f = g + 1 := ⟨f - 1, by omega⟩
    obtain ⟨h1, ρ', σ', h2, h3⟩ := hs i (by omega) ρ σ hI
    obtain ⟨ρ'', σ'', h4, h5⟩ := ih (i + 1) f (by omega) (by omega) h3
    refine ⟨ρ'', σ'', ?_, h5⟩
    show (c ρ σ).bind _ = _
    rw [h1, Option.bind_some]
    show (bd ρ σ).bind _ = _
    rw [h2, Option.bind_some]; exact h4
theorem x_loop {ρ : Rho} {σ : Store} {c : ME} {ms : MSs} (I : Nat → Rho → Store → Prop) (m : Nat) (hm : m < 1000) (hs : ∀ i, i < m → ∀ ρ σ, I i ρ σ → testM K O ρ σ c = some (true, σ) ∧ ∃ ρ' σ', execsM K O ρ σ ms = some (.next, ρ', σ') ∧ I (i + 1) ρ' σ')
    (he : ∀ ρ σ, I m ρ σ → testM K O ρ σ c = some (false, σ)) (h0 : I 0 ρ σ) : ∃ ρ' σ', execM K O ρ σ (.while c ms) = some (.next, ρ', σ') ∧ I m ρ' σ' :=
  while_inv (c := fun ρ σ => testM K O ρ σ c) (bd := fun ρ σ => execsM K O ρ σ ms) I m hs he m 0 1000 (Nat.zero_add m) hm h0

theorem eqV_plain {a b : V} (ha : a.plain = true) (hb : b.plain = true) (da : a.deep ≤ 8) (db : b.deep ≤ 8) : eqV a b = some (V.eqb a b) := by
  unfold eqV
  rw [if_pos (by rw [ha, hb, decide_eq_true da, decide_eq_true db]; rfl)]
theorem str_plain {x : Tx} (h : ∀ c ∈ x, c < 256) : (V.str x).plain = true := List.all_eq_true.mpr fun c hc => decide_eq_true (Nat.lt_trans (h c hc) (by decide))
theorem c_str {σ : Store} {a b : Tx} (ha : ∀ c ∈ a, c < 256) (hb : ∀ c ∈ b, c < 256) : cmpV σ .Eq (.str a) (.str b) = some (.bool (a == b)) := by
  show (eqV (.str a) (.str b)).map _ = _; rw [eqV_plain (str_plain ha) (str_plain hb) (Nat.zero_le _) (Nat.zero_le _)]; rfl
theorem c_ne {σ : Store} {x y : V} {b : Bool} (h : eqV (thawed σ x) (thawed σ y) = some b) : cmpV σ .NotEq x y = some (.bool !b) := by
  show (eqV _ _).map _ = _; rw [h]; rfl
theorem c_strn {σ : Store} {a b : Tx} (ha : ∀ c ∈ a, c < 256) (hb : ∀ c ∈ b, c < 256) : cmpV σ .NotEq (.str a) (.str b) = some (.bool !(a == b)) :=
  c_ne (eqV_plain (str_plain ha) (str_plain hb) (Nat.zero_le _) (Nat.zero_le _))
theorem sl_str {σ : Store} {x y : Tx} {lo hi : Option Int} (h : x.length ≤ 1000000) (e : pickL x lo hi = y) : sliceV σ (.str x) lo hi = some (.str y) := by
  subst e; exact if_pos h
theorem len_str {σ : Store} {x : Tx} (h : x.length ≤ 1000000) : biV "len" σ [.str x] = some (.int x.length, σ) := if_pos h
theorem add_str {σ : Store} {x y z : Tx} (h : x.length + y.length ≤ 1000000) (e : x ++ y = z) : binV σ .Add (.str x) (.str y) = some (.str z) := by subst e; exact if_pos h
theorem aug_str {x y z : Tx} (h : x.length + y.length ≤ 1000000) (e : x ++ y = z) : augV .Add (.str x) (.str y) = some (.str z) := by subst e; exact if_pos h
theorem id_app {σ : Store} {l : Nat} {vs : List V} (h : σ[l]? = some (.lst vs)) : smId K.nd K.vd "append" σ (.own l) = some "list.append" := by
  show (Option.or (lstK σ l _) _) = _
  rw [lstK_at h]; rfl
theorem sm_app {σ : Store} {l : Nat} {vs : List V} {v : V} (h : σ[l]? = some (.lst vs)) (hl : vs.length ≤ 1000) : smV K.nd K.vd "append" σ (.own l) [v] = some (.none, σ.set l (.lst (vs ++ [v]))) := by
  show lstK σ l _ = _
  rw [lstK_at h]; exact if_pos hl
end

section

variable {K : Cfg}
noncomputable abbrev Q (K : Cfg) (n : Nat) : Orc := callM K (tab K) n
noncomputable def nmK : Tx := [110, 97, 109, 101]

theorem id_search {σ : Store} {a : Nat} (h : a = K.nd ∨ a = K.vd) : smId K.nd K.vd "search" σ (.gl a) = some "re.Pattern.search" := by
  show (Option.or (if "search" = "search" ∧ (a = K.nd ∨ a = K.vd) then _ else _) _) = _
  rw [if_pos ⟨rfl, h⟩]; rfl
theorem conv_name {n : Nat} {σ : Store} {h : V} {x : Tx} (hx : NmOk x) : Q K (n+1) "Headers._convert_string_type" [h, .str x] [(nmK, .bool true)] σ = some (.str x, σ) := by
  have h1 := id_search (σ := σ) (Or.inl rfl : K.nd = K.nd ∨ K.nd = K.vd)
  have h2 : smV K.nd K.vd "search" σ (.gl K.nd) [.str x] = some (.none, σ) := by
    have hs : x.all (fun c => decide (32 ≤ c) && c != 127) = true := List.all_eq_true.mpr fun c hc => by
      have := hx.2 c hc
      rw [Bool.and_eq_true, decide_eq_true_iff, bne_iff_ne]; omega
    show searchS K.nd K.vd σ (.gl K.nd) [.str x] = _
    exact if_pos ⟨Nat.le_trans hx.1 (by decide), .inl ⟨rfl, hs⟩⟩
  refine call_of (v := .str x) (τ' := σ) (ρ := [("self", some h), ("value", some (.str x)), ("name", some (.bool true)), ("regex", none)]) rfl (by rfl) ?_ (fin_same rfl rfl)
  apply Exists.intro
  dsimp only [fn_Hconvert_string_type]
  walk_at "EV"
theorem conv_val {n : Nat} {σ : Store} {h : V} {x : Tx} (hx : VlOk x) : Q K (n+1) "Headers._convert_string_type" [h, .str x] [(nmK, .bool false)] σ = some (.str x, σ) := by
  have h1 := id_search (σ := σ) (Or.inr rfl : K.vd = K.nd ∨ K.vd = K.vd)
  have h2 : smV K.nd K.vd "search" σ (.gl K.vd) [.str x] = some (.none, σ) := by
    have hs : x.all (fun c => (decide (32 ≤ c) || c == 9) && c != 127) = true := List.all_eq_true.mpr fun c hc => by
      have := hx.2 c hc
      rw [Bool.and_eq_true, Bool.or_eq_true, decide_eq_true_iff, beq_iff_eq, bne_iff_ne]; exact this.2
    show searchS K.nd K.vd σ (.gl K.vd) [.str x] = _
    exact if_pos ⟨Nat.le_trans hx.1 (by decide), .inr ⟨rfl, hs⟩⟩
  refine call_of (v := .str x) (τ' := σ) (ρ := [("self", some h), ("value", some (.str x)), ("name", some (.bool false)), ("regex", none)]) rfl (by rfl) ?_ (fin_same rfl rfl)
  apply Exists.intro
  dsimp only [fn_Hconvert_string_type]
  walk_at "EV"
theorem init_ok {n : Nat} {σ : Store} : Q K (n+1) "Headers.__init__" [.own (σ.length + 1)] [] (σ ++ [.attrs none, .inst σ.length]) = some (.none, S3 σ []) := by
  have hl : (σ ++ [OObj.attrs none, .inst σ.length]).length = σ.length + 2 := List.length_append
  have g1 : (σ ++ [OObj.attrs none, .inst σ.length] ++ [OObj.lst []])[σ.length + 2]? = some (.lst []) := hl ▸ get_last
  have g2 : (σ ++ [OObj.attrs none, .inst σ.length] ++ [OObj.lst []])[σ.length + 1]? = some (.inst σ.length) := get_pre (get_at rfl)
  have g3 : (σ ++ [OObj.attrs none, .inst σ.length] ++ [OObj.lst []])[σ.length]? = some (.attrs none) := get_pre get_last
  have q0 : newL true [] (σ ++ [OObj.attrs none, .inst σ.length]) = some (.own (σ.length + 2), σ ++ [OObj.attrs none, .inst σ.length] ++ [OObj.lst []]) := by
    have : newL true [] (σ ++ [OObj.attrs none, .inst σ.length]) = some (.own (σ ++ [OObj.attrs none, .inst σ.length]).length, σ ++ [OObj.attrs none, .inst σ.length] ++ [OObj.lst []]) := rfl
    rw [this, hl]
  have hset : (σ ++ [OObj.attrs none, .inst σ.length] ++ [OObj.lst []]).set σ.length (.attrs (some (.own (σ.length + 2)))) = S3 σ [] := by rw [List.append_assoc]; exact set_last
  have q1 : biV "type" (σ ++ [OObj.attrs none, .inst σ.length] ++ [OObj.lst []]) [.own (σ.length + 2)] = some (.ty "list", σ ++ [OObj.attrs none, .inst σ.length] ++ [OObj.lst []]) := by
    show (Option.map _ (lstOf _ _)) = _
    rw [lo_own g1]; rfl
  have q3 := (S3_tb (σ := σ) (hs := [])).l
  have q4 : execM K (Q K n) [("self", some (.own (σ.length + 1))), ("headers", some (.own (σ.length + 2))), ("k", none), ("v", none)] (S3 σ []) (.for (.tup ["k", "v"]) (.var "headers") (.cons (.expr (.meth (.var "self") "_convert_string_type" (.cons (.var "k") .nil) (.cons [110, 97, 109, 101] (.bool true) .nil))) (.cons (.expr (.meth (.var "self") "_convert_string_type" (.cons (.var "v") .nil) (.cons [110, 97, 109, 101] (.bool false) .nil))) .nil))) = some (.next, [("self", some (.own (σ.length + 1))), ("headers", some (.own (σ.length + 2))), ("k", none), ("v", none)], S3 σ []) :=
    x_for (e_var rfl) (show iterOf _ (.own _) = some [] from lo_own q3) (if_pos (still_own q3))
  have e1 : execM K (Q K n) [("self", some (.own (σ.length + 1))), ("headers", some (.own (σ.length + 2))), ("k", none), ("v", none)] (σ ++ [OObj.attrs none, .inst σ.length] ++ [OObj.lst []]) (.setattr (.var "self") (.var "headers")) = some (.next, [("self", some (.own (σ.length + 1))), ("headers", some (.own (σ.length + 2))), ("k", none), ("v", none)], S3 σ []) := hset ▸ x_setattr (e_var rfl) (e_var rfl) g2 g3
  refine call_next (τ' := S3 σ []) (ρ := [("self", some (.own (σ.length + 1))), ("headers", some .none), ("k", none), ("v", none)]) rfl (by rfl) ?_ (fin_open ?_)
  · refine ⟨[("self", some (.own (σ.length + 1))), ("headers", some (.own (σ.length + 2))), ("k", none), ("v", none)], ?_⟩
    dsimp only [fn_H_init]
    refine x_cons (x_assign (e_ife_f (by walk_at "EV") (e_list es_nil q0)) (by walk_at "EV")) ?_
    refine x_cons (x_ite_f (by walk_at "EV") x_nil) ?_
    refine x_cons e1 ?_
    exact x_cons (x_ite_t t_bool (x_cons q4 x_nil)) x_nil
  · rw [hl]
    unfold S3
    rw [List.take_append, List.take_of_length_le (Nat.le_add_right ..), Nat.add_sub_cancel_left, List.all_append]
    show (_ && (decide (σ.length + 2 < σ.length + 2) && _)) = false
    rw [decide_eq_false (Nat.lt_irrefl _), Bool.false_and, Bool.and_false]
theorem new_ok {n : Nat} {ρ : Rho} {σ : Store} : evalM K (Q K (n+1)) ρ σ (.new .nil) = some (.own (σ.length + 1), S3 σ []) := e_new es_nil rfl init_ok
theorem b_pct {σ : Store} {f x y z : Tx} (hx : x.length ≤ 100000) (hy : y.length ≤ 100000) (h : fmt2 f x y = some z) : binV σ .Mod (.str f) (.tuple [.str x, .str y]) = some (.str z) := by
  show (if x.length ≤ 100000 ∧ y.length ≤ 100000 then (fmt2 f x y).map V.str else none) = _
  rw [if_pos ⟨hx, hy⟩, h]; rfl
theorem fp_ok {n : Nat} {σ : Store} {x : Tx} {t : Tx} (hw : x.length ≤ 4) (ht : t.length ≤ 3) : Q K (n+1) "_formatparam" [.str (fo x), .str t] [] σ = some (.str (par (x, some t)), σ) := by
  rw [← fo_len] at hw
  have l1 := len_str (σ := σ) (x := t) (Nat.le_trans ht (by decide))
  have c0 : cmpV σ .Gt (.int (t.length : Int)) (.int 0) = some (.bool (decide ((0 : Int) < t.length))) := rfl
  cases t with
  | nil =>
    refine call_of (v := .str (fo x)) (τ' := σ) (ρ := [("param", some (.str (fo x))), ("value", some (.str [])), ("quote", some (.int 1))]) rfl (by rfl) ?_ (fin_same rfl rfl)
    apply Exists.intro
    dsimp only [fn_formatparam]
    walk_at "EV"
  | cons c t =>
    have c1 : cmpV σ .Gt (.int ((c :: t).length : Int)) (.int 0) = some (.bool true) := by rw [c0, decide_eq_true (by rw [List.length_cons]; omega)]
    have r1 : (replT 92 [92, 92] (c :: t)).length ≤ 10000 := by
      have := esc_len (t := c :: t)
      have l : ∀ x : Tx, (replT 92 [92, 92] x).length ≤ 2 * x.length := fun x => by
        induction x with
        | nil => exact Nat.le_refl _
        | cons d x ih => rw [replT_cons, List.length_append, List.length_cons]; split <;> simp only [List.length_cons, List.length_nil] <;> omega
      exact Nat.le_trans (l _) (by omega)
    have hl := esc_len (t := c :: t)
    have p1 : (fo x).length ≤ 100000 ∧ (esc (c :: t)).length ≤ 100000 ∧ [61, 34].length ≤ 100 ∧ [34].length ≤ 100 := ⟨Nat.le_trans hw (by decide), by omega, by decide, by decide⟩
    have r2 : evalM K (Q K n) [("param", some (.str (fo x))), ("value", some (.str (c :: t))), ("quote", some (.int 1))] σ (.repl (.repl (.var "value") 92 [92, 92]) 34 [92, 34]) = some (.str (esc (c :: t)), σ) := e_repl (e_repl (e_var rfl) (by decide) (Nat.le_trans ht (by decide)) (by decide) rfl) (by decide) r1 (by decide) rfl
    refine call_of (v := .str (fo x ++ [61, 34] ++ esc (c :: t) ++ [34])) (τ' := σ) (ρ := [("param", some (.str (fo x))), ("value", some (.str (c :: t))), ("quote", some (.int 1))]) rfl (by rfl) ?_ (fin_same rfl rfl)
    apply Exists.intro
    dsimp only [fn_formatparam]
    walk_at "EV"
end

section

variable {K : Cfg}
theorem sum_le {B : Nat} : ∀ {ss : List Tx}, (∀ y ∈ ss, y.length ≤ B) → (ss.map (·.length)).sum ≤ ss.length * B
  | [], _ => Nat.zero_le _
  | y :: r, h => by
    rw [List.map_cons, List.sum_cons, List.length_cons, Nat.succ_mul, Nat.add_comm]
    exact Nat.add_le_add (sum_le fun z hz => h z (.tail _ hz)) (h y (.head _))
theorem strs_map : ∀ (ss : List Tx), strsOf (ss.map .str) = some ss
  | [] => rfl
  | x :: r => by show Option.map _ (strsOf (r.map .str)) = _; rw [strs_map r]; rfl
theorem sm_join {σ : Store} {x : Tx} {v : V} {ss : List Tx} {B : Nat} (hl : lstOf σ v = some (ss.map .str)) (hB : ∀ y ∈ ss, y.length ≤ B) (hb : ss.length * B + ss.length * x.length ≤ 16777216) : smV K.nd K.vd "join" σ (.str x) [v] = some (.str (joinT x ss), σ) := by
  show Option.bind (lstOf σ v) _ = _
  rw [hl, Option.bind_some, strs_map, Option.bind_some]
  exact if_pos (Nat.le_trans (Nat.add_le_add_right (sum_le hB) _) hb)
noncomputable def kw (ps : List Par) : List (Tx × V) := ps.map fun p => (p.1, ov p.2)
theorem id_items {σ : Store} {k : Nat} {es : List (Tx × V)} (h : σ[k]? = some (.dct es)) : smId K.nd K.vd "items" σ (.own k) = some "dict.items" := by
  show Option.or (lstK σ k _) (dctK σ k _) = _
  rw [dctK_at h]
  unfold lstK; rw [h]; rfl
theorem sm_items {σ : Store} {k : Nat} {es : List (Tx × V)} (h : σ[k]? = some (.dct es)) : smV K.nd K.vd "items" σ (.own k) [] = some (.items k, σ) := by
  show dctK σ k _ = _
  rw [dctK_at h]; rfl
theorem it_items {σ : Store} {k : Nat} {ps : List Par} (h : σ[k]? = some (.dct (kw ps))) (hl : ps.length ≤ 1000) : iterOf σ (.items k) = some (ps.map pv) := by
  show dctK σ k _ = _
  rw [dctK_at h]
  unfold kw
  rw [List.length_map, if_pos hl, List.map_map]; rfl
theorem still_items {σ : Store} {k : Nat} {ps : List Par} (h : σ[k]? = some (.dct (kw ps))) (hl : ps.length ≤ 1000) : still (.items k) (ps.map pv) σ = true := by
  show Option.elim (iterOf σ (.items k)) false (V.eqbs (ps.map pv)) = true
  rw [it_items h hl]; exact V.eqbs_refl _
noncomputable def adR (h w v p q : V) (a b : Option V) : Rho := [("self", some h), ("_name", some w), ("_value", some v), ("_params", some p), ("parts", some q), ("k", a), ("v", b)]
noncomputable def adB : MSs := (.cons (.assign (.one "k") (.meth (.var "self") "_convert_string_type" (.cons (.var "k") .nil) (.cons [110, 97, 109, 101] (.bool true) .nil))) (.cons (.ite (.cmp .Is (.var "v") .none) (.cons (.expr (.sm (.var "parts") "append" (.cons (.repl (.var "k") 95 [45]) .nil))) .nil) (.cons (.assign (.one "v") (.meth (.var "self") "_convert_string_type" (.cons (.var "v") .nil) (.cons [110, 97, 109, 101] (.bool false) .nil))) (.cons (.expr (.sm (.var "parts") "append" (.cons (.call "_formatparam" (.cons (.repl (.var "k") 95 [45]) (.cons (.var "v") .nil))) .nil))) .nil))) .nil))
theorem w_nm {w : Tx} (h : WOk w) : NmOk w := ⟨Nat.le_trans h.2.1 (by decide), fun c m => ⟨Nat.le_trans (by decide) (h.2.2 c m).1, (h.2.2 c m).2.1⟩⟩
theorem s_vl {t : Tx} (h : SOk t) : VlOk t := ⟨Nat.le_trans h.1 (by decide), h.2⟩
theorem ad_turn {n : Nat} {τ : Store} {h k : Nat} {P : List Tx} {p : Par} {w v q : V} (hi : isInst (τ ++ [.lst (P.map .str)]) h = true) (hk : k = τ.length) (hp : POk p) (hl : P.length ≤ 1000) :
    execsM K (Q K (n+1)) (adR (.own h) w v q (.own k) (some (.str p.1)) (some (ov p.2))) (τ ++ [.lst (P.map .str)]) adB = some (.next, adR (.own h) w v q (.own k) (some (.str p.1)) (some (ov p.2)), τ ++ [.lst ((P ++ [par p]).map .str)]) := by
  subst hk
  obtain ⟨x, t⟩ := p
  obtain ⟨h1, h2⟩ := hp
  have l1 : x.length ≤ 4 := h1.2.1
  have c1 := conv_name (K := K) (n := n) (σ := τ ++ [.lst (P.map .str)]) (h := .own h) (w_nm h1)
  have i1 := id_app (K := K) (get_last (τ := τ) (a := .lst (P.map .str)) (r := []))
  have hl' : (P.map V.str).length ≤ 1000 := by rw [List.length_map]; exact hl
  have a1 : ∀ y, smV K.nd K.vd "append" (τ ++ [.lst (P.map .str)]) (.own τ.length) [.str y] = some (.none, τ ++ [.lst ((P ++ [y]).map .str)]) := fun y => by
    rw [sm_app (get_last (τ := τ) (r := [])) hl', set_last, List.map_append]; rfl
  have r1 : ∀ b, evalM K (Q K (n+1)) (adR (.own h) w v q (.own τ.length) (some (.str x)) b) (τ ++ [.lst (P.map .str)]) (.repl (.var "k") 95 [45]) = some (.str (fo x), τ ++ [.lst (P.map .str)]) := fun b => e_repl (e_var rfl) (by decide) (Nat.le_trans l1 (by decide)) (by decide) rfl
  unfold adB
  cases t with
  | none =>
    have r1 := r1 (some .none)
    have a1 := a1 (fo x)
    unfold adR at *
    dsimp only [ov, par] at *
    walk_at "EV"
  | some t =>
    have ht := h2 t rfl
    have c2 := conv_val (K := K) (n := n) (σ := τ ++ [.lst (P.map .str)]) (h := .own h) (s_vl ht)
    have f1 := fp_ok (K := K) (n := n) (σ := τ ++ [.lst (P.map .str)]) (x := x) (t := t) l1 ht.1
    have r1 := r1 (some (.str t))
    have a1 := a1 (par (x, some t))
    unfold adR at *
    dsimp only [ov] at *
    walk_at "EV"
theorem tol (o : Option Tx) : o.toList.length ≤ 1 := by
  cases o with
  | none => exact Nat.zero_le _
  | some _ => exact Nat.le_refl _
theorem kw_ok {ps : List Par} (h : ∀ p ∈ ps, POk p) : ((kw ps).all fun p => p.1.head? == some 107) = true := List.all_eq_true.mpr fun q hq => by
  obtain ⟨p, hp, rfl⟩ := List.mem_map.mp hq
  exact beq_iff_eq.mpr (h p hp).1.1
theorem kw_fst (ps : List Par) : (kw ps).map (·.1) = ps.map (·.1) := by unfold kw; rw [List.map_map]; rfl
theorem add_ok {n : Nat} {σ : Store} {hs : Hs} {h : Hd} (hcl : Closed σ) (H : HOk h) (hl : hs.length ≤ 900) :
    Q K (n+2) "Headers.add_header" [.own (σ.length + 1), .str h.1, ov h.2.1] (kw h.2.2) (S3 σ hs) = some (.none, S3 σ (hs ++ [(h.1, val h)])) := by
  obtain ⟨x, o, ps⟩ := h
  have H1 := H.n
  have H2 := H.o
  have H3 := H.p
  have H4 := H.l
  have lk : (kw ps).length ≤ 1000 := by unfold kw; rw [List.length_map]; exact Nat.le_trans H4 (by decide)
  have hvl := (val_ok H).1
  have hC := S3_closed (hs := hs ++ [(x, val (x, o, ps))]) hcl
  have lS := S3_len (σ := σ) (hs := hs)
  have TB := S3_tb (σ := σ) (hs := hs)
  have hset : ∀ r, (S3 σ hs ++ r).set (σ.length + 2) (.lst (hs.map pr ++ [.tuple [.str x, .str (val (x, o, ps))]])) = S3 σ (hs ++ [(x, val (x, o, ps))]) ++ r := fun r => by
    have e := S3_set (σ := σ) (hs := hs) (hs' := hs ++ [(x, val (x, o, ps))]) (r := r)
    rw [List.map_append] at e; exact e
  generalize S3 σ hs = τ at *
  have hτ : (τ ++ [OObj.dct (kw ps)]).length = τ.length + 1 := List.length_append
  have gd : ∀ r, (τ ++ [OObj.dct (kw ps)] ++ r)[τ.length]? = some (.dct (kw ps)) := fun r => get_pre get_last
  have gi : ∀ r, isInst (τ ++ [OObj.dct (kw ps)] ++ r) (σ.length + 1) = true := fun r => TB.pre.pre.inst
  -- the own value
  have e1 : execM K (Q K (n+1)) [("self", some (.own (σ.length + 1))), ("_name", some (.str x)), ("_value", some (ov o)), ("_params", some (.own τ.length)), ("parts", none), ("k", none), ("v", none)] (τ ++ [OObj.dct (kw ps)]) (.assign (.one "parts") (.list true .nil)) =
      some (.next, adR (.own (σ.length + 1)) (.str x) (ov o) (.own τ.length) (.own (τ.length + 1)) none none, τ ++ [OObj.dct (kw ps)] ++ [.lst ([].map .str)]) := by
    have nl : newL true [] (τ ++ [OObj.dct (kw ps)]) = some (.own (τ.length + 1), τ ++ [OObj.dct (kw ps)] ++ [.lst ([].map .str)]) := by rw [nl_own (Nat.zero_le _), hτ]; rfl
    unfold adR
    walk_at "EV"
  have e2 : execM K (Q K (n+1)) (adR (.own (σ.length + 1)) (.str x) (ov o) (.own τ.length) (.own (τ.length + 1)) none none) (τ ++ [OObj.dct (kw ps)] ++ [.lst ([].map .str)]) (.ite (.cmp .IsNot (.var "_value") .none) (.cons (.assign (.one "_value") (.meth (.var "self") "_convert_string_type" (.cons (.var "_value") .nil) (.cons [110, 97, 109, 101] (.bool false) .nil))) (.cons (.expr (.sm (.var "parts") "append" (.cons (.var "_value") .nil))) .nil)) .nil) =
      some (.next, adR (.own (σ.length + 1)) (.str x) (ov o) (.own τ.length) (.own (τ.length + 1)) none none, τ ++ [OObj.dct (kw ps)] ++ [.lst (o.toList.map .str)]) := by
    have i0 := gi [.lst ([].map .str)]
    cases o with
    | none => unfold adR; dsimp only [ov]; walk_at "EV"
    | some t =>
      have c2 := conv_val (K := K) (n := n) (σ := τ ++ [OObj.dct (kw ps)] ++ [.lst ([].map .str)]) (h := .own (σ.length + 1)) (s_vl (H2 t rfl).1)
      have g1 : (τ ++ [OObj.dct (kw ps)] ++ [OObj.lst ([].map .str)])[τ.length + 1]? = some (.lst ([].map .str)) := hτ ▸ get_last
      have i1 := id_app (K := K) g1
      have a1 : smV K.nd K.vd "append" (τ ++ [OObj.dct (kw ps)] ++ [.lst ([].map .str)]) (.own (τ.length + 1)) [.str t] = some (.none, τ ++ [OObj.dct (kw ps)] ++ [.lst ([t].map .str)]) := by
        rw [sm_app g1 (Nat.zero_le _), ← hτ, set_last]; rfl
      unfold adR; dsimp only [ov, Option.toList]; walk_at "EV"
  -- the parameters
  obtain ⟨ρ', σ', e3, a, b, rfl, rfl⟩ := x_fold (K := K) (O := Q K (n+1)) (ρ := adR (.own (σ.length + 1)) (.str x) (ov o) (.own τ.length) (.own (τ.length + 1)) none none) (σ₀ := τ ++ [OObj.dct (kw ps)] ++ [.lst (o.toList.map .str)]) (t := .tup ["k", "v"]) (it := .sm (.var "_params") "items" .nil) (ms := adB) pv (r := ps)
    (fun d ρ σ' => ∃ a b, ρ = adR (.own (σ.length + 1)) (.str x) (ov o) (.own τ.length) (.own (τ.length + 1)) a b ∧ σ' = τ ++ [OObj.dct (kw ps)] ++ [.lst ((o.toList ++ d.map par).map .str)])
    (e_sm (e_var rfl) (id_items (gd _)) es_nil (sm_items (gd _))) (it_items (gd _) (Nat.le_trans H4 (by decide))) (fun d ρ σ' ⟨a, b, _, e⟩ => by rw [e]; exact still_items (gd _) (Nat.le_trans H4 (by decide)))
    (fun d p e hw ρ σ' ⟨a, b, e1, e2⟩ => by
      subst e1 e2
      have hd : d.length ≤ 9 := by rw [hw, List.length_append] at H4; exact Nat.le_trans (Nat.le_add_right ..) H4
      refine ⟨adR (.own (σ.length + 1)) (.str x) (ov o) (.own τ.length) (.own (τ.length + 1)) (some (.str p.1)) (some (ov p.2)), _, _, ?_, ad_turn (gi _) hτ.symm (H3 p (hw ▸ List.mem_append_right _ (.head _))) ?_, _, _, rfl, ?_⟩
      · unfold adR pv; walk_at "EV"
      · rw [List.length_append, List.length_map]
        have := tol o
        omega
      · rw [List.append_assoc o.toList, show d.map par ++ [par p] = (d ++ [p]).map par by rw [List.map_append]; rfl]) ⟨none, none, rfl, by rw [List.map_nil, List.append_nil]⟩
  -- the table
  have B2 : Tb (τ ++ [OObj.dct (kw ps)] ++ [.lst ((o.toList ++ ps.map par).map .str)]) (σ.length + 1) (σ.length + 2) hs := TB.pre.pre
  have i4 := B2.inst
  have hset := hset ([OObj.dct (kw ps)] ++ [.lst ((o.toList ++ ps.map par).map .str)])
  rw [← List.append_assoc] at hset
  have g1 : (τ ++ [OObj.dct (kw ps)] ++ [OObj.lst ((o.toList ++ ps.map par).map .str)])[τ.length + 1]? = some (.lst ((o.toList ++ ps.map par).map .str)) := hτ ▸ get_last
  have j1 : smV K.nd K.vd "join" (τ ++ [OObj.dct (kw ps)] ++ [.lst ((o.toList ++ ps.map par).map .str)]) (.str [59, 32]) [.own (τ.length + 1)] = some (.str (val (x, o, ps)), τ ++ [OObj.dct (kw ps)] ++ [.lst ((o.toList ++ ps.map par).map .str)]) := by
    refine sm_join (B := 13) (lo_own g1) (fun y hy => ?_) ?_
    · rcases List.mem_append.mp hy with hy | hy
      · cases o with
        | none => cases hy
        | some t =>
          have e : y = t := List.mem_singleton.mp hy
          rw [e]; exact Nat.le_trans (H2 t rfl).1.1 (by decide)
      · obtain ⟨p, hp, rfl⟩ := List.mem_map.mp hy
        exact (par_ok (H3 p hp)).1
    · have := tol o
      have H4 : ps.length ≤ 9 := H4
      show (o.toList ++ ps.map par).length * 13 + (o.toList ++ ps.map par).length * 2 ≤ _
      rw [List.length_append, List.length_map]
      omega
  obtain ⟨d, h1, h2⟩ := B2.d
  have h3 := B2.l
  have hl1 : (hs.map pr).length ≤ 1000 := by rw [List.length_map]; omega
  have i5 := id_app (K := K) h3
  have a5 := sm_app (K := K) (v := .tuple [.str x, .str (val (x, o, ps))]) h3 hl1
  rw [hset] at a5
  have c5 := conv_name (K := K) (n := n) (σ := τ ++ [OObj.dct (kw ps)] ++ [.lst ((o.toList ++ ps.map par).map .str)]) (h := .own (σ.length + 1)) (n5_nm H1)
  have e5 : execM K (Q K (n+1)) (adR (.own (σ.length + 1)) (.str x) (ov o) (.own τ.length) (.own (τ.length + 1)) a b) (τ ++ [OObj.dct (kw ps)] ++ [.lst ((o.toList ++ ps.map par).map .str)]) (.expr (.sm (.attr (.var "self")) "append" (.cons (.tuple (.cons (.meth (.var "self") "_convert_string_type" (.cons (.var "_name") .nil) (.cons [110, 97, 109, 101] (.bool true) .nil)) (.cons (.sm (.str [59, 32]) "join" (.cons (.var "parts") .nil)) .nil))) .nil))) =
      some (.next, adR (.own (σ.length + 1)) (.str x) (ov o) (.own τ.length) (.own (τ.length + 1)) a b, S3 σ (hs ++ [(x, val (x, o, ps))]) ++ ([OObj.dct (kw ps)] ++ [.lst ((o.toList ++ ps.map par).map .str)])) := by
    dsimp only at c5
    unfold adR
    walk_at "EV"
  refine call_next (fn := fn_H_add_header K) (ρ := [("self", some (.own (σ.length + 1))), ("_name", some (.str x)), ("_value", some (ov o)), ("_params", some (.own τ.length)), ("parts", none), ("k", none), ("v", none)]) (τ := τ ++ [OObj.dct (kw ps)]) rfl ?_ ⟨_, x_cons e1 (x_cons e2 (x_cons e3 (x_cons e5 x_nil)))⟩ (fin_cut hC ?_ rfl)
  · show (if _ then some _ else none) = _
    rw [if_pos ⟨rfl, lk, by rw [kw_fst]; exact H.d, kw_ok H3⟩]; rfl
  · rw [lS, S3_len]
end

section

variable {K : Cfg}
noncomputable def HOks (H : List Hd) : Prop := H.length ≤ 10 ∧ ∀ h ∈ H, HOk h
noncomputable def rows (H : List Hd) : Hs := H.map fun h => (h.1, val h)
theorem rows_app (H : List Hd) (h : Hd) : rows (H ++ [h]) = rows H ++ [(h.1, val h)] := List.map_append
theorem pairs_of : ∀ ps : List Par, pairsOf (ps.map pv) = some (kw ps)
  | [] => rfl
  | p :: r => by show Option.map _ (pairsOf (r.map pv)) = _; rw [pairs_of r]; rfl
noncomputable def tbR (l : V) (t a b c : Option V) : Rho := [("heads", some l), ("table", t), ("word", a), ("own", b), ("params", c)]
theorem table_ok {n : Nat} {σ : Store} {H : List Hd} (hcl : Closed σ) (hH : HOks H) : Q K (n+3) "_law_table" [.list (H.map hv)] [] σ = some (.own (σ.length + 1), S3 σ (rows H)) := by
  have e1 : execM K (Q K (n+2)) (tbR (.list (H.map hv)) none none none none) σ (.assign (.one "table") (.new .nil)) = some (.next, tbR (.list (H.map hv)) (some (.own (σ.length + 1))) none none none, S3 σ (rows [])) := x_assign new_ok (by unfold tbR; walk_at "EV")
  obtain ⟨ρ', σ', e2, a, b, c, rfl, rfl⟩ := x_fold (K := K) (O := Q K (n+2)) (ρ := tbR (.list (H.map hv)) (some (.own (σ.length + 1))) none none none) (σ₀ := S3 σ (rows [])) (t := .tup ["word", "own", "params"]) (it := .var "heads") (ms := .cons (.expr (.methD (.var "table") "add_header" (.cons (.var "word") (.cons (.var "own") .nil)) (.var "params"))) .nil) hv (r := H)
    (fun d ρ σ' => ∃ a b c, ρ = tbR (.list (H.map hv)) (some (.own (σ.length + 1))) a b c ∧ σ' = S3 σ (rows d)) (e_var rfl) rfl (fun _ _ _ _ => rfl)
    (fun d h e hw ρ σ' ⟨a, b, c, e1, e2⟩ => by
      subst e1 e2
      have hd : d.length ≤ 10 := by have := hH.1; rw [hw, List.length_append] at this; exact Nat.le_trans (Nat.le_add_right ..) this
      have ok := hH.2 h (hw ▸ List.mem_append_right _ (.head _))
      have i1 := (S3_tb (σ := σ) (hs := rows d)).inst
      have ad := add_ok (K := K) (n := n) (hs := rows d) hcl ok (by unfold rows; rw [List.length_map]; omega)
      rw [← rows_app] at ad
      refine ⟨tbR (.list (H.map hv)) (some (.own (σ.length + 1))) (some (.str h.1)) (some (ov h.2.1)) (some (.list (h.2.2.map pv))), _, _, ?_, x_cons (x_expr (e_methD (e_var rfl) i1 (es_cons (e_var rfl) (es_cons (e_var rfl) es_nil)) (e_var rfl) rfl (pairs_of _) ⟨?_, ?_⟩ hm_add ad)) x_nil, _, _, _, rfl, rfl⟩
      · unfold tbR hv; walk_at "EV"
      · unfold kw; rw [List.length_map]; exact Nat.le_trans ok.l (by decide)
      · rw [kw_fst]; exact ok.d) ⟨none, none, none, rfl, rfl⟩
  refine call_of (fn := fn_law_table K) (ρ := tbR (.list (H.map hv)) none none none none) (τ := σ) (v := .own (σ.length + 1)) rfl (by rfl) ⟨_, x_cons e1 (x_cons e2 (x_stop (x_ret (e_var rfl))))⟩ (fin_none ?_)
  show (if σ.length + 1 < σ.length then _ else lstK _ _ _) = none
  rw [if_neg (by omega)]
  unfold lstK S3
  rw [get_at rfl]; rfl

noncomputable def txt (H : List Hd) : Tx := joinT [13, 10] (H.map ln ++ [[], []])
theorem joinT_len {sep : Tx} {B : Nat} : ∀ {ss : List Tx}, (∀ y ∈ ss, y.length ≤ B) → (joinT sep ss).length ≤ ss.length * (B + sep.length)
  | [], _ => Nat.zero_le _
  | [y], h => by
    show y.length ≤ 1 * (B + sep.length)
    have := h y (.head _)
    omega
  | y :: z :: r, h => by
    have := joinT_len (sep := sep) (ss := z :: r) fun x hx => h x (.tail _ hx)
    have hy := h y (.head _)
    show (y ++ sep ++ joinT sep (z :: r)).length ≤ ((z :: r).length + 1) * (B + sep.length)
    rw [List.length_append, List.length_append, Nat.succ_mul]
    omega
theorem joinT_mem {sep : Tx} {c : Nat} : ∀ {ss : List Tx}, c ∈ joinT sep ss → c ∈ sep ∨ ∃ s ∈ ss, c ∈ s
  | [], h => nomatch h
  | [y], h => .inr ⟨y, .head _, h⟩
  | y :: z :: r, h => by
    rcases List.mem_append.mp (show c ∈ y ++ sep ++ joinT sep (z :: r) from h) with h | h
    · rcases List.mem_append.mp h with h | h
      · exact .inr ⟨y, .head _, h⟩
      · exact .inl h
    · rcases joinT_mem h with h | ⟨s, hs, h⟩
      · exact .inl h
      · exact .inr ⟨s, .tail _ hs, h⟩
theorem ln_ok {h : Hd} (H : HOk h) : (ln h).length ≤ 204 ∧ ∀ c ∈ ln h, c < 256 ∧ (32 ≤ c ∨ c = 9) ∧ c ≠ 127 := by
  obtain ⟨a, b⟩ := n5_ok H.n
  obtain ⟨c, d⟩ := val_ok H
  constructor
  · show (h.1 ++ [58, 32] ++ val h).length ≤ 204
    rw [List.length_append, List.length_append]
    show _ + 2 + _ ≤ _
    omega
  · intro x hx
    rcases List.mem_append.mp (show x ∈ h.1 ++ [58, 32] ++ val h from hx) with hx | hx
    · rcases List.mem_append.mp hx with hx | hx
      · obtain ⟨e, f⟩ := b x hx; exact ⟨Nat.lt_trans f (by decide), .inl e, Nat.ne_of_lt f⟩
      · exact (by decide : ∀ d ∈ [58, 32], d < 256 ∧ (32 ≤ d ∨ d = 9) ∧ d ≠ 127) x hx
    · exact d x hx
theorem lns_ok {H : List Hd} (hH : HOks H) : ∀ y ∈ H.map ln ++ [[], []], y.length ≤ 204 ∧ ∀ c ∈ y, c < 256 ∧ (32 ≤ c ∨ c = 9) ∧ c ≠ 127 := fun y hy => by
  rcases List.mem_append.mp hy with hy | hy
  · obtain ⟨h, hh, rfl⟩ := List.mem_map.mp hy
    exact ln_ok (hH.2 h hh)
  · rcases List.mem_cons.mp hy with rfl | hy
    · exact ⟨Nat.zero_le _, fun _ m => nomatch m⟩
    · cases List.mem_singleton.mp hy; exact ⟨Nat.zero_le _, fun _ m => nomatch m⟩
theorem lns_len {H : List Hd} (hH : HOks H) : (H.map ln ++ [[], []]).length ≤ 12 := by rw [List.length_append, List.length_map]; exact Nat.add_le_add_right hH.1 2
theorem txt_ok {H : List Hd} (hH : HOks H) : (txt H).length ≤ 10000 ∧ ∀ c ∈ txt H, c < 256 := by
  constructor
  · have := joinT_len (sep := [13, 10]) (B := 204) fun y hy => (lns_ok hH y hy).1
    have h2 := lns_len hH
    refine Nat.le_trans this (Nat.le_trans (Nat.mul_le_mul_right _ h2) (by decide))
  · intro c hc
    rcases joinT_mem hc with h | ⟨s, hs, h⟩
    · exact (by decide : ∀ d ∈ [13, 10], d < 256) c h
    · exact ((lns_ok hH s hs).2 c h).1
theorem flat_one {α : Type} (g : α → V) (l : List α) : l.flatMap (fun x => [g x]) = l.map g := (List.map_eq_flatMap ..).symm
theorem str_ok {n : Nat} {σ : Store} {H : List Hd} (hH : HOks H) : Q K (n+1) "Headers.__str__" [.own (σ.length + 1)] [] (S3 σ (rows H)) = some (.str (txt H), S3 σ (rows H)) := by
  have TB := S3_tb (σ := σ) (hs := rows H)
  generalize S3 σ (rows H) = τ at *
  obtain ⟨d, h1, h2⟩ := TB.d
  have lH : H.length ≤ 1000 := Nat.le_trans hH.1 (by decide)
  have hit := it_own TB.l
  have hst := still_own TB.l
  unfold rows at hit hst
  rw [List.map_map] at hit hst
  have c1 : evalM K (Q K n) [("self", some (.own (σ.length + 1)))] τ (.comp (.bin .Mod (.str [37, 115, 58, 32, 37, 115]) (.var "kv")) (.one "kv") (.attr (.var "self")) .nil) = some (.list ((H.map ln).map .str), τ) := by
    refine e_comp1 (fun ρ => ∃ a, ρ = [(".0", none), ("kv", a), ("self", some (.own (σ.length + 1)))]) _ (fun h => [V.str (ln h)]) (by walk_at "EV") hit hst (fun h hh ρ ⟨a, e⟩ => ?_) ⟨_, rfl⟩ lH (by rw [flat_one, List.map_map]; rfl)
    subst e
    have ok := hH.2 h hh
    have p1 : binV τ .Mod (.str [37, 115, 58, 32, 37, 115]) (.tuple [.str h.1, .str (val h)]) = some (.str (ln h)) := b_pct (Nat.le_trans (n5_ok ok.n).1 (by decide)) (Nat.le_trans (val_ok ok).1 (by decide)) rfl
    refine tr_yes (w := .str (ln h)) (ρ₁ := [(".0", none), ("kv", some (.tuple [.str h.1, .str (val h)])), ("self", some (.own (σ.length + 1)))]) ?_ ⟨_, rfl⟩ if_nil ?_ rfl
    · dsimp only [Function.comp, pr]; walk_at "EV"
    · walk_at "EV"
  have ll : ((H.map ln).map V.str).length ≤ 10 := by rw [List.length_map, List.length_map]; exact hH.1
  have c2 : binV τ .Add (.list ((H.map ln).map .str)) (.list [.str [], .str []]) = some (.list ((H.map ln ++ [[], []]).map .str)) := by
    show Option.or (if ((H.map ln).map V.str).length + 2 ≤ 1000 then some (V.list ((H.map ln).map V.str ++ [.str [], .str []])) else none) _ = _
    rw [if_pos (by omega), List.map_append]; rfl
  have c3 : smV K.nd K.vd "join" τ (.str [13, 10]) [V.list ((H.map ln ++ [[], []]).map .str)] = some (.str (txt H), τ) := sm_join (B := 204) rfl (fun y hy => (lns_ok hH y hy).1) (by
    have := lns_len hH
    show _ * 204 + _ * 2 ≤ _
    omega)
  refine call_of (fn := fn_H_str K) (ρ := [("self", some (.own (σ.length + 1)))]) (τ := τ) (v := .str (txt H)) rfl (by rfl) ?_ (fin_same rfl rfl)
  apply Exists.intro
  dsimp only [fn_H_str]
  walk_at "EV"
theorem bytes_ok {n : Nat} {σ : Store} {H : List Hd} (hH : HOks H) : Q K (n+2) "Headers.__bytes__" [.own (σ.length + 1)] [] (S3 σ (rows H)) = some (.bytes (txt H), S3 σ (rows H)) := by
  have i1 := (S3_tb (σ := σ) (hs := rows H)).inst
  have s1 := str_ok (K := K) (n := n) (σ := σ) hH
  obtain ⟨t1, t2⟩ := txt_ok hH
  have c1 : smV K.nd K.vd "encode" (S3 σ (rows H)) (.str (txt H)) [.str [105, 115, 111, 45, 56, 56, 53, 57, 45, 49]] = some (.bytes (txt H), S3 σ (rows H)) := by
    show encS _ (.str (txt H)) [.str latin1] = _
    exact if_pos ⟨rfl, Nat.le_trans t1 (by decide), List.all_eq_true.mpr fun c hc => decide_eq_true (t2 c hc)⟩
  refine call_of (fn := fn_H_bytes K) (ρ := [("self", some (.own (σ.length + 1)))]) (τ := S3 σ (rows H)) (v := .bytes (txt H)) rfl (by rfl) ?_ (fin_same rfl rfl)
  apply Exists.intro
  dsimp only [fn_H_bytes]
  walk_at "EV"
noncomputable def lw (x : Tx) : Tx := x.map lowerN
theorem sm_low {σ : Store} {x : Tx} (h : NmOk x) : smV K.nd K.vd "lower" σ (.str x) [] = some (.str (lw x), σ) := by
  show (lowerT x).map _ = _
  unfold lowerT
  rw [if_pos ⟨List.all_eq_true.mpr fun c hc => decide_eq_true (Nat.lt_trans (h.2 c hc).2 (by decide)), Nat.le_trans h.1 (by decide)⟩]; rfl
theorem lw_nm {x : Tx} (h : NmOk x) : NmOk (lw x) := by
  refine ⟨by unfold lw; rw [List.length_map]; exact h.1, fun c hc => ?_⟩
  obtain ⟨d, hd, e⟩ := List.mem_map.mp hc
  have := h.2 d hd
  unfold lowerN at e
  split at e <;> omega
theorem nm_256 {x : Tx} (h : NmOk x) : ∀ c ∈ x, c < 256 := fun c hc => Nat.lt_trans (h.2 c hc).2 (by decide)
theorem flat_if {α : Type} (P : α → Bool) (g : α → V) : ∀ l : List α, l.flatMap (fun x => if P x then [g x] else []) = (l.filter P).map g
  | [] => rfl
  | x :: r => by
    rw [List.flatMap_cons, flat_if P g r, List.filter_cons]
    cases P x <;> rfl
theorem getall_ok {n : Nat} {σ : Store} {H : List Hd} {a : Tx} (ha : NmOk a) (hH : HOks H) : Q K (n+2) "Headers.get_all" [.own (σ.length + 1), .str a] [] (S3 σ (rows H)) = some (.list ((H.filter fun h => lw h.1 == lw a).map fun h => .str (val h)), S3 σ (rows H)) := by
  have TB := S3_tb (σ := σ) (hs := rows H)
  generalize S3 σ (rows H) = τ at *
  have i1 := TB.inst
  obtain ⟨d, h1, h2⟩ := TB.d
  have lH : H.length ≤ 1000 := Nat.le_trans hH.1 (by decide)
  have hit := it_own TB.l
  have hst := still_own TB.l
  unfold rows at hit hst
  rw [List.map_map] at hit hst
  have s1 := sm_low (K := K) (σ := τ) ha
  have cn := conv_name (K := K) (n := n) (σ := τ) (h := .own (σ.length + 1)) (lw_nm ha)
  have c1 : evalM K (Q K (n+1)) [("self", some (.own (σ.length + 1))), ("name", some (.str (lw a)))] τ (.comp (.idx (.var "kv") (.int 1)) (.one "kv") (.attr (.var "self")) (.cons (.cmp .Eq (.sm (.idx (.var "kv") (.int 0)) "lower" .nil) (.var "name")) .nil)) = some (.list ((H.filter fun h => lw h.1 == lw a).map fun h => .str (val h)), τ) := by
    refine e_comp1 (fun ρ => ∃ b, ρ = [(".0", none), ("kv", b), ("self", some (.own (σ.length + 1))), ("name", some (.str (lw a)))]) _ (fun h => if lw h.1 == lw a then [V.str (val h)] else []) (by walk_at "EV") hit hst (fun h hh ρ ⟨b, e⟩ => ?_) ⟨_, rfl⟩ lH (flat_if _ _ _)
    subst e
    have nn := n5_nm (hH.2 h hh).n
    have s2 := sm_low (K := K) (σ := τ) nn
    have q2 := c_str (σ := τ) (nm_256 (lw_nm nn)) (nm_256 (lw_nm ha))
    have st : setT [(".0", none), ("kv", b), ("self", some (.own (σ.length + 1))), ("name", some (.str (lw a)))] (.one "kv") ((pr ∘ fun h => (h.1, val h)) h) = some [(".0", none), ("kv", some (.tuple [.str h.1, .str (val h)])), ("self", some (.own (σ.length + 1))), ("name", some (.str (lw a)))] := rfl
    cases e : lw h.1 == lw a with
    | true =>
      rw [e] at q2
      refine tr_yes (w := .str (val h)) st ⟨_, rfl⟩ ?_ ?_ rfl
      · walk_at "EV"
      · walk_at "EV"
    | false =>
      rw [e] at q2
      refine tr_no st ⟨_, rfl⟩ ?_ rfl
      walk_at "EV"
  refine call_of (fn := fn_H_get_all K) (ρ := [("self", some (.own (σ.length + 1))), ("name", some (.str a))]) (τ := τ) (v := .list ((H.filter fun h => lw h.1 == lw a).map fun h => .str (val h))) rfl (by rfl) ?_ (fin_same rfl (fz_list (mapM_some fun h _ => fz_str _)))
  apply Exists.intro
  dsimp only [fn_H_get_all]
  walk_at "EV"
end

section

variable {K : Cfg}
noncomputable def rdR (r o f e w t a : Option V) : Rho := [("rest", r), ("own", o), ("found", f), ("end", e), ("word", w), ("told", t), ("at", a)]
theorem has_one {x : Tx} {c : Nat} : hasT x [c] = decide (c ∈ x) := by
  have := StrLaws.found_one (strV x) c
  rw [sv_tl] at this
  exact this
theorem in_str {σ : Store} {x y : Tx} : cmpV σ .In (.str x) (.str y) = some (.bool (hasT y x)) := rfl
theorem notin_str {σ : Store} {x y : Tx} : cmpV σ .NotIn (.str x) (.str y) = some (.bool !(hasT y x)) := rfl
theorem lt_int {σ : Store} {x y : Nat} : cmpV σ .Lt (.int (x : Int)) (.int (y : Int)) = some (.bool (decide ((x : Int) < y))) := rfl
theorem lt_yes {σ : Store} {x y : Nat} (h : x < y) : cmpV σ .Lt (.int (x : Int)) (.int (y : Int)) = some (.bool true) := by rw [lt_int, decide_eq_true (Int.ofNat_lt.mpr h)]
theorem lt_no {σ : Store} {x y : Nat} (h : y ≤ x) : cmpV σ .Lt (.int (x : Int)) (.int (y : Int)) = some (.bool false) := by rw [lt_int, decide_eq_false (Int.not_lt.mpr (Int.ofNat_le.mpr h))]
theorem ge_no {σ : Store} {x y : Nat} (h : x < y) : cmpV σ .GtE (.int (x : Int)) (.int (y : Int)) = some (.bool false) := by
  show some (V.bool (decide ((y : Int) ≤ x))) = _
  rw [decide_eq_false (Int.not_le.mpr (Int.ofNat_lt.mpr h))]
theorem idx_str {σ : Store} {a b : Tx} {c k : Nat} (hk : k = a.length) (h : a.length ≤ 1000000) : idxV σ (.str (a ++ c :: b)) (.int (k : Int)) = some (.str [c]) := by
  subst hk
  show Option.or (Option.map _ (seqAt (a ++ c :: b) (a.length : Int))) _ = _
  rw [at_mid a b c h]; rfl

noncomputable def scC : ME := (.and (.cons (.cmp .Lt (.var "end") (.bi "len" (.cons (.var "rest") .nil))) (.cons (.cmp .NotIn (.idx (.var "rest") (.var "end")) (.str [61, 59])) .nil)))
noncomputable def scB : MSs := (.cons (.aug "end" .Add (.int 1)) .nil)
theorem sc_test {O : Orc} {σ : Store} {A B : Tx} {c k : Nat} {o f w t a : Option V} (hk : k = A.length) (hl : (A ++ c :: B).length ≤ 1000000) :
    testM K O (rdR (some (.str (A ++ c :: B))) o f (some (.int (k : Int))) w t a) σ scC = some (!(decide (c ∈ [61, 59])), σ) := by
  have l1 := len_str (σ := σ) hl
  have hlt : k < (A ++ c :: B).length := by rw [hk, List.length_append]; exact Nat.lt_add_of_pos_right (Nat.succ_pos _)
  have c1 := lt_yes (σ := σ) hlt
  have i1 := idx_str (σ := σ) (b := B) (c := c) hk (by rw [hk] at hlt; omega)
  have n1 := notin_str (σ := σ) (x := [c]) (y := [61, 59])
  rw [has_one] at n1
  unfold scC rdR
  cases q : decide (c ∈ [61, 59]) with
  | true =>
    rw [q] at n1
    show testM K O _ σ _ = some (false, σ)
    walk_at "EV"
  | false =>
    rw [q] at n1
    show testM K O _ σ _ = some (true, σ)
    walk_at "EV"
theorem sc_loop {O : Orc} {σ : Store} {A W q : Tx} {o f w t a : Option V} (hW : ∀ c ∈ W, c ≠ 61 ∧ c ≠ 59) (hq : q = [] ∨ ∃ c r, q = c :: r ∧ (c = 59 ∨ c = 61)) (hl : (A ++ W ++ q).length ≤ 900) :
    execM K O (rdR (some (.str (A ++ W ++ q))) o f (some (.int (A.length : Int))) w t a) σ (.while scC scB) = some (.next, rdR (some (.str (A ++ W ++ q))) o f (some (.int ((A.length + W.length : Nat) : Int))) w t a, σ) := by
  have hll : (A ++ W ++ q).length ≤ 1000000 := Nat.le_trans hl (by decide)
  have hw : W.length ≤ 900 := by rw [List.length_append, List.length_append] at hl; omega
  obtain ⟨ρ', σ', h, rfl, rfl⟩ := x_loop (K := K) (O := O) (ρ := rdR (some (.str (A ++ W ++ q))) o f (some (.int (A.length : Int))) w t a) (σ := σ) (c := scC) (ms := scB)
    (fun i ρ σ' => ρ = rdR (some (.str (A ++ W ++ q))) o f (some (.int ((A.length + i : Nat) : Int))) w t a ∧ σ' = σ) W.length (by omega) (fun i hi ρ σ' ⟨e1, e2⟩ => by
      subst e1 e2
      refine ⟨?_, _, _, ?_, rfl, rfl⟩
      · have e : A ++ W ++ q = (A ++ W.take i) ++ W[i] :: (W.drop (i + 1) ++ q) := by
          rw [List.append_assoc A (W.take i), ← List.cons_append, ← List.append_assoc (W.take i), ← List.drop_eq_getElem_cons hi, List.take_append_drop, List.append_assoc]
        rw [e]
        have hc := hW W[i] (List.getElem_mem hi)
        rw [sc_test (by rw [List.length_append, List.length_take, Nat.min_eq_left (Nat.le_of_lt hi)]) (e ▸ hll), decide_eq_false]
        · rfl
        · intro m
          rcases List.mem_cons.mp m with m | m
          · exact hc.1 m
          · exact hc.2 (List.mem_singleton.mp m)
      · unfold scB rdR
        walk_at "EV") (fun ρ σ' ⟨e1, e2⟩ => by
      subst e1 e2
      rcases hq with rfl | ⟨c, r, rfl, hc⟩
      · have l1 := len_str (σ := σ') hll
        have c1 := lt_no (σ := σ') (x := A.length + W.length) (y := (A ++ W ++ []).length) (by rw [List.append_nil, List.length_append]; exact Nat.le_refl _)
        unfold scC rdR
        walk_at "EV"
      · rw [sc_test (List.length_append ..).symm hll, decide_eq_true]
        · rfl
        · rcases hc with rfl | rfl <;> decide) ⟨rfl, rfl⟩
  exact h

noncomputable def vlC : ME := (.and (.cons (.cmp .Lt (.var "at") (.bi "len" (.cons (.var "rest") .nil))) (.cons (.cmp .NotEq (.idx (.var "rest") (.var "at")) (.str [34])) .nil)))
noncomputable def vlB : MSs := (.cons (.ite (.cmp .Eq (.idx (.var "rest") (.var "at")) (.str [92])) (.cons (.aug "at" .Add (.int 1)) (.cons (.ite (.cmp .NotIn (.slice (.var "rest") (.yes (.var "at")) (.yes (.bin .Add (.var "at") (.int 1)))) (.list false (.cons (.str [34]) (.cons (.str [92]) .nil)))) (.cons (.ret .none) .nil) .nil) .nil)) .nil) (.cons (.aug "told" .Add (.slice (.var "rest") (.yes (.var "at")) (.yes (.bin .Add (.var "at") (.int 1))))) (.cons (.aug "at" .Add (.int 1)) .nil)))
theorem one_256 {c : Nat} (h : c < 256) : ∀ d ∈ [c], d < 256 := fun d m => by cases List.mem_singleton.mp m; exact h
theorem vl_test {O : Orc} {σ : Store} {A B : Tx} {c : Nat} {o f d w t : Option V} (hc : c < 256) (hl : (A ++ c :: B).length ≤ 1000000) :
    testM K O (rdR (some (.str (A ++ c :: B))) o f d w t (some (.int (A.length : Int)))) σ vlC = some (!([c] == [34]), σ) := by
  have l1 := len_str (σ := σ) hl
  have hlt : A.length < (A ++ c :: B).length := by rw [List.length_append]; exact Nat.lt_add_of_pos_right (Nat.succ_pos _)
  have c1 := lt_yes (σ := σ) hlt
  have i1 := idx_str (σ := σ) (b := B) (c := c) (rfl : A.length = A.length) (by omega)
  have n1 := c_strn (σ := σ) (one_256 hc) (by decide : ∀ d ∈ [34], d < 256)
  unfold vlC rdR
  cases q : ([c] == [34]) with
  | true =>
    rw [q] at n1
    show testM K O _ σ _ = some (false, σ)
    walk_at "EV"
  | false =>
    rw [q] at n1
    show testM K O _ σ _ = some (true, σ)
    walk_at "EV"
theorem sl_one {σ : Store} {A B : Tx} {c : Nat} (hl : (A ++ c :: B).length ≤ 1000000) : sliceV σ (.str (A ++ c :: B)) (some (A.length : Int)) (some ((A.length : Int) + 1)) = some (.str [c]) :=
  sl_str hl (by have := pk_mid A [c] B; rwa [List.append_assoc] at this)
theorem vl_turn {O : Orc} {σ : Store} {A B u : Tx} {c : Nat} {o f d w : Option V} (hc : c < 256) (hl : (A ++ (e1 c ++ B)).length ≤ 900) (hu : u.length ≤ 900) :
    execsM K O (rdR (some (.str (A ++ (e1 c ++ B)))) o f d w (some (.str u)) (some (.int (A.length : Int)))) σ vlB =
      some (.next, rdR (some (.str (A ++ (e1 c ++ B)))) o f d w (some (.str (u ++ [c]))) (some (.int ((A ++ e1 c).length : Int))), σ) := by
  have hll : (A ++ (e1 c ++ B)).length ≤ 1000000 := Nat.le_trans hl (by decide)
  have hA : A.length ≤ 900 := by rw [List.length_append] at hl; omega
  have au : augV .Add (.str u) (.str [c]) = some (.str (u ++ [c])) := aug_str (by show _ + 1 ≤ _; omega) rfl
  by_cases hs : c = 92 ∨ c = 34
  · have e2 : e1 c = [92, c] := by rcases hs with rfl | rfl <;> rfl
    rw [e2] at hl hll ⊢
    have i1 := idx_str (σ := σ) (a := A) (b := c :: B) (c := 92) rfl (by omega)
    have q1 : cmpV σ .Eq (.str [92]) (.str [92]) = some (.bool true) := c_str (by decide) (by decide)
    have s1 : sliceV σ (.str (A ++ ([92, c] ++ B))) (some ((A.length : Int) + 1)) (some ((A.length : Int) + 1 + 1)) = some (.str [c]) := by
      have := sl_one (σ := σ) (A := A ++ [92]) (B := B) (c := c) (by rw [List.append_assoc]; exact hll)
      rw [List.append_assoc, List.length_append] at this
      exact this
    have n1 : cmpV σ .NotIn (.str [c]) (.list [.str [34], .str [92]]) = some (.bool false) := by rcases hs with rfl | rfl <;> rfl
    have lA : (((A ++ [92, c]).length : Nat) : Int) = (A.length : Int) + 1 + 1 := by rw [List.length_append]; rfl
    rw [lA]
    have i1 : idxV σ (.str (A ++ ([92, c] ++ B))) (.int (A.length : Int)) = some (.str [92]) := i1
    unfold vlB rdR
    walk_at "EV"
  · have e2 : e1 c = [c] := by
      unfold e1
      rw [if_neg fun e => hs (.inl e), if_neg fun e => hs (.inr e)]
    rw [e2] at hl hll ⊢
    have i1 : idxV σ (.str (A ++ ([c] ++ B))) (.int (A.length : Int)) = some (.str [c]) := idx_str (σ := σ) (a := A) (b := B) (c := c) rfl (by omega)
    have q1 : cmpV σ .Eq (.str [c]) (.str [92]) = some (.bool false) := by
      rw [c_str (one_256 hc) (by decide)]
      have : ([c] == [92]) = false := beq_eq_false_iff_ne.mpr fun e => hs (.inl (List.cons.inj e).1)
      rw [this]
    have s1 : sliceV σ (.str (A ++ ([c] ++ B))) (some (A.length : Int)) (some ((A.length : Int) + 1)) = some (.str [c]) := sl_one hll
    have lA : (((A ++ [c]).length : Nat) : Int) = (A.length : Int) + 1 := by rw [List.length_append]; rfl
    rw [lA]
    unfold vlB rdR
    walk_at "EV"
theorem vl_loop {O : Orc} {σ : Store} {A B t : Tx} {o f d w : Option V} (ht : ∀ c ∈ t, c < 256) (hl : (A ++ esc t ++ 34 :: B).length ≤ 900) (hu : t.length ≤ 900) :
    execM K O (rdR (some (.str (A ++ esc t ++ 34 :: B))) o f d w (some (.str [])) (some (.int (A.length : Int)))) σ (.while vlC vlB) = some (.next, rdR (some (.str (A ++ esc t ++ 34 :: B))) o f d w (some (.str t)) (some (.int ((A ++ esc t).length : Int))), σ) := by
  obtain ⟨ρ', σ', h, rfl, rfl⟩ := x_loop (K := K) (O := O) (ρ := rdR (some (.str (A ++ esc t ++ 34 :: B))) o f d w (some (.str [])) (some (.int (A.length : Int)))) (σ := σ) (c := vlC) (ms := vlB)
    (fun i ρ σ' => ρ = rdR (some (.str (A ++ esc t ++ 34 :: B))) o f d w (some (.str (t.take i))) (some (.int ((A ++ esc (t.take i)).length : Int))) ∧ σ' = σ) t.length (by omega) (fun i hi ρ σ' ⟨e1', e2⟩ => by
      subst e1' e2
      have hc := ht t[i] (List.getElem_mem hi)
      have e : A ++ esc t ++ 34 :: B = (A ++ esc (t.take i)) ++ (e1 t[i] ++ (esc (t.drop (i + 1)) ++ 34 :: B)) := by
        rw [List.append_assoc A (esc (t.take i)), ← List.append_assoc (e1 t[i]), ← List.append_assoc (esc (t.take i)), List.append_assoc A]
        congr 2
        rw [esc_eq, esc_eq, esc_eq, ← List.flatMap_cons, ← List.flatMap_append, ← List.drop_eq_getElem_cons hi, List.take_append_drop]
      obtain ⟨x, xs, ex, hx, hx2⟩ : ∃ x xs, e1 t[i] = x :: xs ∧ x < 256 ∧ ([x] == [34]) = false := by
        unfold e1
        by_cases h1 : t[i] = 92
        · exact ⟨92, [92], if_pos h1, by decide, rfl⟩
        · by_cases h2 : t[i] = 34
          · exact ⟨92, [34], by rw [if_neg h1, if_pos h2], by decide, rfl⟩
          · exact ⟨t[i], [], by rw [if_neg h1, if_neg h2], hc, beq_eq_false_iff_ne.mpr fun e => h2 (List.cons.inj e).1⟩
      have ht1 : t.take (i + 1) = t.take i ++ [t[i]] := (List.take_append_getElem hi).symm
      refine ⟨?_, rdR (some (.str (A ++ esc t ++ 34 :: B))) o f d w (some (.str (t.take i ++ [t[i]]))) (some (.int ((A ++ esc (t.take i) ++ e1 t[i]).length : Int))), σ', ?_, ?_, rfl⟩
      · rw [e, ex] at hl ⊢
        have := vl_test (K := K) (O := O) (σ := σ') (A := A ++ esc (t.take i)) (B := xs ++ (esc (t.drop (i + 1)) ++ 34 :: B)) (o := o) (f := f) (d := d) (w := w) (t := some (.str (t.take i))) hx (Nat.le_trans hl (by decide))
        rw [hx2] at this
        exact this
      · rw [e] at hl ⊢
        exact vl_turn hc hl (Nat.le_trans (List.length_take_le' ..) hu)
      · rw [ht1, esc_eq (t.take i ++ _), List.flatMap_append, ← esc_eq, List.flatMap_cons, List.flatMap_nil, List.append_nil, List.append_assoc A (esc (t.take i))]) (fun ρ σ' ⟨e1', e2⟩ => by
      subst e1' e2
      rw [List.take_length, vl_test (by decide) (Nat.le_trans hl (by decide))]
      rfl) ⟨by rw [List.take_zero]; show rdR _ _ _ _ _ _ (some (.int (A.length : Int))) = rdR _ _ _ _ _ _ (some (.int ((A ++ []).length : Int))); rw [List.append_nil], rfl⟩
  rw [List.take_length] at h
  exact h
end

section

variable {K : Cfg}
noncomputable def rdI : MSs := (.cons (.assign (.one "told") (.str [])) (.cons (.assign (.one "at") (.int 2)) (.cons (.while vlC vlB) (.cons (.ite (.cmp .GtE (.var "at") (.bi "len" (.cons (.var "rest") .nil))) (.cons (.ret .none) .nil) .nil) (.cons (.assign (.one "rest") (.slice (.var "rest") (.yes (.bin .Add (.var "at") (.int 1))) .no)) .nil)))))
noncomputable def rdT : MSs := (.cons (.assign (.one "rest") (.slice (.var "rest") (.yes (.var "end")) .no)) (.cons (.assign (.one "told") .none) (.cons (.ite (.cmp .Eq (.slice (.var "rest") .no (.yes (.int 2))) (.str [61, 34])) rdI .nil) (.cons (.expr (.sm (.var "found") "append" (.cons (.tuple (.cons (.repl (.var "word") 45 [95]) (.cons (.var "told") .nil))) .nil))) .nil))))
noncomputable def rdB : MSs := (.cons (.ite (.cmp .NotEq (.slice (.var "rest") .no (.yes (.int 2))) (.str [59, 32])) (.cons (.ret .none) .nil) .nil) (.cons (.assign (.one "end") (.int 2)) (.cons (.while scC scB) (.cons (.assign (.one "word") (.slice (.var "rest") (.yes (.int 2)) (.yes (.var "end")))) (.cons (.ite (.cmp .In (.str [95]) (.var "word")) (.cons (.ret .none) .nil) .nil) rdT)))))
theorem pk_from1 {α : Type} (xs : List α) (k : Nat) : pickL xs (some ((k : Int) + 1)) none = xs.drop (k + 1) := pk_from xs (k + 1)
theorem rd_value {O : Orc} {σ : Store} {t B : Tx} {o f d w a : Option V} (ht : SOk t) (hl : ([61, 34] ++ esc t ++ 34 :: B).length ≤ 900) :
    execM K O (rdR (some (.str ([61, 34] ++ esc t ++ 34 :: B))) o f d w (some .none) a) σ (.ite (.cmp .Eq (.slice (.var "rest") .no (.yes (.int 2))) (.str [61, 34])) rdI .nil) =
      some (.next, rdR (some (.str B)) o f d w (some (.str t)) (some (.int (([61, 34] ++ esc t).length : Int))), σ) := by
  have hll : ([61, 34] ++ esc t ++ 34 :: B).length ≤ 1000000 := Nat.le_trans hl (by decide)
  have s1 : sliceV σ (.str ([61, 34] ++ esc t ++ 34 :: B)) none (some 2) = some (.str [61, 34]) := sl_str hll (pk_to _ 2)
  have q1 : cmpV σ .Eq (.str [61, 34]) (.str [61, 34]) = some (.bool true) := c_str (by decide) (by decide)
  have w1 := vl_loop (K := K) (O := O) (σ := σ) (A := [61, 34]) (B := B) (t := t) (o := o) (f := f) (d := d) (w := w) (fun c m => (ht.2 c m).1) hl (Nat.le_trans ht.1 (by decide))
  have l1 := len_str (σ := σ) hll
  have g1 := ge_no (σ := σ) (x := ([61, 34] ++ esc t).length) (y := ([61, 34] ++ esc t ++ 34 :: B).length) (by rw [List.length_append (as := [61, 34] ++ esc t)]; exact Nat.lt_add_of_pos_right (Nat.succ_pos _))
  have s2 : sliceV σ (.str ([61, 34] ++ esc t ++ 34 :: B)) (some ((([61, 34] ++ esc t).length : Int) + 1)) none = some (.str B) := sl_str hll ((pk_from1 _ _).trans (by rw [← List.drop_drop, List.drop_left]; rfl))
  generalize hx : [61, 34] ++ esc t ++ 34 :: B = X at *
  have w1 : execM K O (rdR (some (.str X)) o f d w (some (.str [])) (some (.int 2))) σ (.while vlC vlB) = some (.next, rdR (some (.str X)) o f d w (some (.str t)) (some (.int (([61, 34] ++ esc t).length : Int))), σ) := w1
  generalize (([61, 34] ++ esc t).length : Int) = k at *
  have w2 : execsM K O (rdR (some (.str X)) o f d w (some (.str t)) (some (.int k))) σ (.cons (.ite (.cmp .GtE (.var "at") (.bi "len" (.cons (.var "rest") .nil))) (.cons (.ret .none) .nil) .nil) (.cons (.assign (.one "rest") (.slice (.var "rest") (.yes (.bin .Add (.var "at") (.int 1))) .no)) .nil)) = some (.next, rdR (some (.str B)) o f d w (some (.str t)) (some (.int k)), σ) := by
    clear w1 s1 q1
    unfold rdR
    walk_at "EV"
  unfold rdI
  refine x_ite_t (t_cmp (e_slice (e_var rfl) o_no (o_yes e_int) rfl rfl s1) e_str q1) ?_
  clear s1 q1 l1 g1 s2
  refine x_cons (x_assign e_str (by unfold rdR; walk_at "EV")) (x_cons (x_assign e_int (by unfold rdR; walk_at "EV")) (x_cons w1 w2))
noncomputable def pt : Option Tx → Tx
  | some (c :: t) => [61, 34] ++ esc (c :: t) ++ [34]
  | _ => []
theorem par_pt (p : Par) : par p = fo p.1 ++ pt p.2 := by
  obtain ⟨w, t⟩ := p
  rcases t with _ | _ | ⟨c, t⟩
  · exact (List.append_nil _).symm
  · exact (List.append_nil _).symm
  · show fo w ++ [61, 34] ++ esc (c :: t) ++ [34] = fo w ++ ([61, 34] ++ esc (c :: t) ++ [34])
    rw [List.append_assoc, List.append_assoc, List.append_assoc]
theorem tl_head : ∀ r : List Par, tl r = [] ∨ ∃ u, tl r = 59 :: 32 :: u
  | [] => .inl rfl
  | p :: r => .inr ⟨_, rfl⟩
theorem rd_told {O : Orc} {σ : Store} {t : Option Tx} {r : List Par} {o f d w a : Option V} (ht : ∀ u, t = some u → SOk u) (hl : (pt t ++ tl r).length ≤ 900) :
    ∃ a', execM K O (rdR (some (.str (pt t ++ tl r))) o f d w (some .none) a) σ (.ite (.cmp .Eq (.slice (.var "rest") .no (.yes (.int 2))) (.str [61, 34])) rdI .nil) =
      some (.next, rdR (some (.str (tl r))) o f d w (some (ov (dn t))) a', σ) := by
  have no : pt t = [] → dn t = none → ∃ a', execM K O (rdR (some (.str (pt t ++ tl r))) o f d w (some .none) a) σ (.ite (.cmp .Eq (.slice (.var "rest") .no (.yes (.int 2))) (.str [61, 34])) rdI .nil) =
      some (.next, rdR (some (.str (tl r))) o f d w (some (ov (dn t))) a', σ) := by
    intro e1 e2
    rw [e1, List.nil_append] at hl ⊢
    rw [e2]
    obtain ⟨x, hx, hx2⟩ : ∃ x, (tl r).take 2 = x ∧ cmpV σ .Eq (.str x) (.str [61, 34]) = some (.bool false) := by
      rcases tl_head r with e | ⟨u, e⟩ <;> rw [e]
      · exact ⟨[], rfl, c_str (by decide) (by decide)⟩
      · exact ⟨[59, 32], rfl, c_str (by decide) (by decide)⟩
    have s1 : sliceV σ (.str (tl r)) none (some 2) = some (.str x) := sl_str (Nat.le_trans hl (by decide)) ((pk_to _ 2).trans hx)
    refine ⟨a, ?_⟩
    unfold rdR ov
    walk_at "EV"
  rcases t with _ | _ | ⟨c, t⟩
  · exact no rfl rfl
  · exact no rfl rfl
  · have e : pt (some (c :: t)) ++ tl r = [61, 34] ++ esc (c :: t) ++ 34 :: tl r := by
      show [61, 34] ++ esc (c :: t) ++ [34] ++ tl r = _
      rw [List.append_assoc]; rfl
    rw [e] at hl ⊢
    exact ⟨_, rd_value (ht _ rfl) hl⟩
theorem rd_turn {O : Orc} {σ : Store} {p : Par} {r : List Par} {P : List Par} {o e w t a : Option V} {k : Nat} (hp : POk p) (hk : k = σ.length) (hP : P.length ≤ 900) (hl : (tl (p :: r)).length ≤ 900) :
    ∃ e' w' t' a', execsM K O (rdR (some (.str (tl (p :: r)))) o (some (.own k)) e w t a) (σ ++ [.lst (P.map pv)]) rdB = some (.next, rdR (some (.str (tl r))) o (some (.own k)) e' w' t' a', σ ++ [.lst ((P ++ [dp p]).map pv)]) := by
  subst hk
  have hll : (tl (p :: r)).length ≤ 1000000 := Nat.le_trans hl (by decide)
  obtain ⟨x, u⟩ := p
  obtain ⟨⟨hw1, hw2, hw3⟩, hu⟩ := hp
  have hw2 : x.length ≤ 4 := hw2
  have ex : tl ((x, u) :: r) = [59, 32] ++ fo x ++ (pt u ++ tl r) := by
    rw [tl_cons, par_pt, List.append_assoc, List.append_assoc]; rfl
  rw [ex] at hl hll ⊢
  have lx := fo_len x
  -- what is told
  have hq : pt u ++ tl r = [] ∨ ∃ c q, pt u ++ tl r = c :: q ∧ (c = 59 ∨ c = 61) := by
    have no : pt u = [] → pt u ++ tl r = [] ∨ ∃ c q, pt u ++ tl r = c :: q ∧ (c = 59 ∨ c = 61) := fun e => by
      rw [e, List.nil_append]
      rcases tl_head r with e | ⟨v, e⟩
      · exact .inl e
      · exact .inr ⟨59, _, e, .inl rfl⟩
    rcases u with _ | _ | ⟨c, u⟩
    · exact no rfl
    · exact no rfl
    · exact .inr ⟨61, _, rfl, .inr rfl⟩
  have hW : ∀ c ∈ fo x, c ≠ 61 ∧ c ≠ 59 := fun c m => by
    rcases fo_mem m with rfl | ⟨m, -⟩
    · decide
    · exact ⟨(hw3 c m).2.2.2, (hw3 c m).2.2.1⟩
  have n45 : 45 ∉ x := fun m => absurd (hw3 45 m).1 (by decide)
  have n95 : 95 ∉ fo x := fun m => by
    rcases fo_mem m with e | ⟨-, e⟩
    · cases e
    · exact e rfl
  have w1 := sc_loop (K := K) (O := O) (σ := σ ++ [.lst (P.map pv)]) (A := [59, 32]) (o := o) (f := some (.own σ.length)) (w := w) (t := t) (a := a) hW hq hl
  have lq : (pt u ++ tl r).length ≤ 900 := by rw [List.length_append] at hl; exact Nat.le_trans (Nat.le_add_left ..) hl
  obtain ⟨a', v1⟩ := rd_told (K := K) (O := O) (σ := σ ++ [.lst (P.map pv)]) (o := o) (f := some (.own σ.length)) (d := some (.int (([59, 32].length + (fo x).length : Nat) : Int))) (w := some (.str (fo x))) (a := a) hu lq
  have s1 : sliceV (σ ++ [.lst (P.map pv)]) (.str ([59, 32] ++ fo x ++ (pt u ++ tl r))) none (some 2) = some (.str [59, 32]) := sl_str hll (pk_to _ 2)
  have q1 : cmpV (σ ++ [.lst (P.map pv)]) .NotEq (.str [59, 32]) (.str [59, 32]) = some (.bool false) := c_strn (by decide) (by decide)
  have s2 : sliceV (σ ++ [.lst (P.map pv)]) (.str ([59, 32] ++ fo x ++ (pt u ++ tl r))) (some 2) (some (([59, 32].length + (fo x).length : Nat) : Int)) = some (.str (fo x)) := sl_str hll (pk_mid [59, 32] (fo x) (pt u ++ tl r))
  have s3 : sliceV (σ ++ [.lst (P.map pv)]) (.str ([59, 32] ++ fo x ++ (pt u ++ tl r))) (some (([59, 32].length + (fo x).length : Nat) : Int)) none = some (.str (pt u ++ tl r)) := sl_str hll (by rw [pk_from, ← List.length_append, List.drop_left])
  have m1 : cmpV (σ ++ [.lst (P.map pv)]) .In (.str [95]) (.str (fo x)) = some (.bool false) := by rw [in_str, has_one, decide_eq_false n95]
  have r1 : evalM K O (rdR (some (.str (tl r))) o (some (.own σ.length)) (some (.int (([59, 32].length + (fo x).length : Nat) : Int))) (some (.str (fo x))) (some (ov (dn u))) a') (σ ++ [.lst (P.map pv)]) (.repl (.var "word") 45 [95]) = some (.str x, σ ++ [.lst (P.map pv)]) := e_repl (e_var rfl) (by decide) (by rw [lx]; exact Nat.le_trans hw2 (by decide)) (by decide) (un_fo n45)
  have g1 : (σ ++ [OObj.lst (P.map pv)])[σ.length]? = some (.lst (P.map pv)) := get_last
  have i1 := id_app (K := K) g1
  have a1 : smV K.nd K.vd "append" (σ ++ [.lst (P.map pv)]) (.own σ.length) [.tuple [.str x, ov (dn u)]] = some (.none, σ ++ [.lst ((P ++ [dp (x, u)]).map pv)]) := by
    rw [sm_app g1 (by rw [List.length_map]; omega), set_last, List.map_append]; rfl
  have w1 : execM K O (rdR (some (.str ([59, 32] ++ fo x ++ (pt u ++ tl r)))) o (some (.own σ.length)) (some (.int 2)) w t a) (σ ++ [.lst (P.map pv)]) (.while scC scB) = some (.next, rdR (some (.str ([59, 32] ++ fo x ++ (pt u ++ tl r)))) o (some (.own σ.length)) (some (.int (([59, 32].length + (fo x).length : Nat) : Int))) w t a, σ ++ [.lst (P.map pv)]) := w1
  generalize (([59, 32].length + (fo x).length : Nat) : Int) = d at *
  generalize [59, 32] ++ fo x ++ (pt u ++ tl r) = X at *
  generalize σ ++ [OObj.lst (P.map pv)] = τ at *
  refine ⟨some (.int d), some (.str (fo x)), some (ov (dn u)), a', ?_⟩
  unfold rdB rdT
  unfold rdR at *
  walk_at "EV"

theorem par_head {p : Par} (h : POk p) : ∃ u, par p = 107 :: u := by
  obtain ⟨w, t⟩ := p
  obtain ⟨⟨h1, -, -⟩, -⟩ := h
  cases w with
  | nil => cases h1
  | cons c w =>
    have h1 : c = 107 := Option.some.inj h1
    subst h1
    exact ⟨fo w ++ pt t, par_pt _⟩
noncomputable def ownC : ME := (.cmp .Eq (.slice (.var "rest") .no (.yes (.int 1))) (.str [107]))
noncomputable def ownA : MSs := (.cons (.assign (.one "rest") (.bin .Add (.str [59, 32]) (.var "rest"))) .nil)
noncomputable def ownB : MSs := (.cons (.assign (.one "own") (.slice (.var "rest") .no (.yes (.sm (.bin .Add (.var "rest") (.str [59])) "index" (.cons (.str [59]) .nil))))) (.cons (.assign (.one "rest") (.slice (.var "rest") (.yes (.bi "len" (.cons (.var "own") .nil))) .no)) .nil))
theorem own_read {O : Orc} {σ : Store} {h : Hd} (H : HOk h) : execM K O (rdR (some (.str (val h))) (some .none) none none none none none) σ (.ite ownC ownA ownB) = some (.next, rdR (some (.str (tl h.2.2))) (some (ov (du h).2.1)) none none none none none, σ) := by
  have hl := (val_ok H).1
  have hll : (val h).length ≤ 1000000 := Nat.le_trans hl (by decide)
  rcases val_shape H with ⟨p, ps, -, e1, e2, e3⟩ | ⟨o, e1, h1, h2, h3, e2⟩
  · obtain ⟨u, hu⟩ := par_head (H.p p (e1 ▸ .head _))
    rw [e1, e3, tl_cons]
    rw [e2] at hl hll ⊢
    have s1 : sliceV σ (.str (par p ++ tl ps)) none (some 1) = some (.str [107]) := sl_str hll (by rw [show (1 : Int) = ((1 : Nat) : Int) from rfl, pk_to, hu]; rfl)
    have q1 : cmpV σ .Eq (.str [107]) (.str [107]) = some (.bool true) := c_str (by decide) (by decide)
    have a1 : binV σ .Add (.str [59, 32]) (.str (par p ++ tl ps)) = some (.str (59 :: 32 :: (par p ++ tl ps))) := add_str (by show 2 + _ ≤ _; omega) rfl
    unfold ownC ownA ownB rdR ov
    walk_at "EV"
  · rw [e1]
    rw [e2] at hl hll ⊢
    obtain ⟨x, hx, hx2⟩ : ∃ x, (o ++ tl h.2.2).take 1 = x ∧ cmpV σ .Eq (.str x) (.str [107]) = some (.bool false) := by
      cases o with
      | nil =>
        rcases tl_head h.2.2 with e | ⟨u, e⟩ <;> rw [e]
        · exact ⟨[], rfl, c_str (by decide) (by decide)⟩
        · exact ⟨[59], rfl, c_str (by decide) (by decide)⟩
      | cons c o =>
        refine ⟨[c], rfl, ?_⟩
        rw [c_str (one_256 (h1.2 c (.head _)).1) (by decide)]
        have : ([c] == [107]) = false := beq_eq_false_iff_ne.mpr fun e => h3 (congrArg some (List.cons.inj e).1)
        rw [this]
    have s1 : sliceV σ (.str (o ++ tl h.2.2)) none (some 1) = some (.str x) := sl_str hll ((pk_to _ 1).trans hx)
    have a1 : binV σ .Add (.str (o ++ tl h.2.2)) (.str [59]) = some (.str (o ++ tl h.2.2 ++ [59])) := add_str (by show _ + 1 ≤ _; omega) rfl
    have i0 : smId K.nd K.vd "index" σ (.str (o ++ tl h.2.2 ++ [59])) = some "str.index" := rfl
    have i1 : smV K.nd K.vd "index" σ (.str (o ++ tl h.2.2 ++ [59])) [.str [59]] = some (.int (o.length : Nat), σ) := by
      obtain ⟨v, hv⟩ : ∃ v, tl h.2.2 ++ [59] = [59] ++ v := by
        rcases tl_head h.2.2 with e | ⟨u, e⟩ <;> rw [e]
        · exact ⟨[], rfl⟩
        · exact ⟨_, rfl⟩
      show Option.map _ (Builtin.Str.occurrences (strV (o ++ tl h.2.2 ++ [59])) (strV [59]) 0 (strV (o ++ tl h.2.2 ++ [59])).length 1).head? = _
      rw [List.append_assoc, hv, index_of (y := []) (r := v) h2]; rfl
    have s2 : sliceV σ (.str (o ++ tl h.2.2)) none (some (o.length : Int)) = some (.str o) := sl_str hll (by rw [pk_to, List.take_left])
    have l1 := len_str (σ := σ) (x := o) (Nat.le_trans h1.1 (by decide))
    have s3 : sliceV σ (.str (o ++ tl h.2.2)) (some (o.length : Int)) none = some (.str (tl h.2.2)) := sl_str hll (by rw [pk_from, List.drop_left])
    generalize o ++ tl h.2.2 = X at *
    generalize (o.length : Int) = k at *
    unfold ownC ownA ownB rdR ov
    walk_at "EV"
theorem read_ok {n : Nat} {σ : Store} {h : Hd} (hcl : Closed σ) (H : HOk h) : Q K (n+1) "_law_read" [.str (val h)] [] σ = some (.tuple [ov (du h).2.1, .list ((du h).2.2.map pv)], σ) := by
  have t1 := tl_ok H.p
  have lt : ∀ i, (tl (h.2.2.drop i)).length ≤ 900 := fun i => by
    have := (tl_ok (ps := h.2.2.drop i) fun p hp => H.p p (List.mem_of_mem_drop hp)).1
    have hl := H.l
    rw [List.length_drop] at this
    omega
  have e0 : execM K (Q K n) (rdR (some (.str (val h))) none none none none none none) σ (.assign (.one "own") .none) = some (.next, rdR (some (.str (val h))) (some .none) none none none none none, σ) := by unfold rdR; walk_at "EV"
  have e2 : execM K (Q K n) (rdR (some (.str (tl h.2.2))) (some (ov (du h).2.1)) none none none none none) σ (.assign (.one "found") (.list true .nil)) = some (.next, rdR (some (.str (tl h.2.2))) (some (ov (du h).2.1)) (some (.own σ.length)) none none none none, σ ++ [.lst ([].map pv)]) := by unfold rdR; walk_at "EV"
  obtain ⟨ρ', σ', e3, e, w, t, a, rfl, rfl⟩ := x_loop (K := K) (O := Q K n) (ρ := rdR (some (.str (tl h.2.2))) (some (ov (du h).2.1)) (some (.own σ.length)) none none none none) (σ := σ ++ [.lst ([].map pv)]) (c := .cmp .NotEq (.var "rest") (.str [])) (ms := rdB)
    (fun i ρ σ' => ∃ e w t a, ρ = rdR (some (.str (tl (h.2.2.drop i)))) (some (ov (du h).2.1)) (some (.own σ.length)) e w t a ∧ σ' = σ ++ [.lst (((h.2.2.take i).map dp).map pv)]) h.2.2.length (Nat.lt_of_le_of_lt H.l (by decide)) (fun i hi ρ σ' ⟨e, w, t, a, q1, q2⟩ => by
      subst q1 q2
      have t2 := (tl_ok (ps := h.2.2.drop i) fun p hp => H.p p (List.mem_of_mem_drop hp)).2
      have l2 := lt i
      rw [List.drop_eq_getElem_cons hi] at t2 l2 ⊢
      have n1 := c_strn (σ := σ ++ [.lst (((h.2.2.take i).map dp).map pv)]) (fun c m => (t2 c m).1) (by decide : ∀ c ∈ ([] : Tx), c < 256)
      rw [show (tl (h.2.2[i] :: h.2.2.drop (i + 1)) == []) = false from rfl] at n1
      obtain ⟨e', w', t', a', q⟩ := rd_turn (K := K) (O := Q K n) (σ := σ) (r := h.2.2.drop (i + 1)) (P := (h.2.2.take i).map dp) (o := some (ov (du h).2.1)) (e := e) (w := w) (t := t) (a := a) (H.p _ (List.getElem_mem hi)) rfl (by
        rw [List.length_map]; exact Nat.le_trans (List.length_take_le' ..) (Nat.le_trans H.l (by decide))) l2
      refine ⟨?_, _, _, q, e', w', t', a', rfl, ?_⟩
      · unfold rdR
        show testM K _ _ _ _ = some (true, _)
        have n1 : cmpV (σ ++ [.lst (((h.2.2.take i).map dp).map pv)]) .NotEq (.str (tl (h.2.2[i] :: h.2.2.drop (i + 1)))) (.str []) = some (.bool true) := n1
        walk_at "EV"
      · rw [← List.take_append_getElem hi, List.map_append (f := dp) (l₁ := h.2.2.take i) (l₂ := [h.2.2[i]])]; rfl) (fun ρ σ' ⟨e, w, t, a, q1, q2⟩ => by
      subst q1 q2
      rw [List.drop_length]
      unfold rdR
      exact t_cmp (e_var rfl) e_str (c_strn (by decide : ∀ c ∈ ([] : Tx), c < 256) (by decide))) ⟨none, none, none, none, rfl, rfl⟩
  rw [List.drop_length, List.take_length] at e3
  refine call_of (fn := fn_law_read K) (ρ := rdR (some (.str (val h))) none none none none none none) (τ := σ) (v := .tuple [ov (du h).2.1, .own σ.length]) rfl (by rfl) ⟨_, x_cons e0 (x_cons (own_read H) (x_cons e2 (x_cons e3 (x_stop (x_ret (e_tuple (es_cons (e_var rfl) (es_cons (e_var rfl) es_nil)) (by show 2 ≤ 1000; decide)))))))⟩ (fin_cut hcl rfl ?_)
  exact fz_tup (mapM2 (fz_ov _) (fz_own (Nat.lt_irrefl _) get_last (mapM_some fun p _ => fz_pv p)))
end

section

variable {K : Cfg}
theorem du_fst (h : Hd) : (du h).1 = h.1 := rfl
theorem under_ov (n : Nat) (o : Option Tx) : (ov o).under n = true := by cases o <;> rfl
theorem unders_pv (n : Nat) : ∀ ps : List Par, V.unders n (ps.map pv) = true
  | [] => rfl
  | p :: r => by
    show ((true && ((ov p.2).under n && true)) && V.unders n (r.map pv)) = true
    rw [unders_pv n r, under_ov]; rfl
theorem unders_fv (n : Nat) : ∀ H : List Hd, V.unders n (H.map fv) = true
  | [] => rfl
  | h :: r => by
    show ((true && (((ov h.2.1).under n && (V.unders n (h.2.2.map pv) && true)) && true)) && V.unders n (r.map fv)) = true
    rw [unders_fv n r, under_ov, unders_pv]; rfl
theorem closed_fv {σ : Store} {H : List Hd} (h : Closed σ) : Closed (σ ++ [.lst (H.map fv)]) := by
  unfold Closed at *
  rw [List.all_append, Bool.and_eq_true]
  constructor
  · rw [List.all_eq_true] at h ⊢
    exact fun o ho => OObj.under_mono (by rw [List.length_append]; exact Nat.le_add_right ..) (h o ho)
  · show (V.unders _ (H.map fv) && true) = true
    rw [unders_fv]; rfl

noncomputable def duR (l : V) (d a b c : Option V) : Rho := [("heads", some l), ("due", d), ("word", a), ("own", b), ("params", c)]
noncomputable def duB : MSs := (.cons (.ite (.and (.cons (.cmp .Is (.var "own") .none) (.cons (.cmp .Eq (.var "params") (.list false .nil)) .nil))) (.cons (.assign (.one "own") (.str [])) .nil) .nil) (.cons (.expr (.sm (.var "due") "append" (.cons (.tuple (.cons (.var "word") (.cons (.tuple (.cons (.var "own") (.cons (.comp (.tuple (.cons (.var "name") (.cons (.or (.cons (.var "told") (.cons .none .nil))) .nil))) (.tup ["name", "told"]) (.var "params") .nil) .nil))) .nil))) .nil))) .nil))
theorem plain_ov {o : Option Tx} (h : ∀ t, o = some t → SOk t) : (ov o).plain = true := by
  cases o with
  | none => rfl
  | some t => exact str_plain fun c m => ((h t rfl).2 c m).1
theorem deep_ov (o : Option Tx) : (ov o).deep = 0 := by cases o <;> rfl
theorem plains_pv : ∀ {ps : List Par}, (∀ p ∈ ps, POk p) → V.plains (ps.map pv) = true ∧ V.deeps (ps.map pv) ≤ 1
  | [], _ => ⟨rfl, Nat.zero_le _⟩
  | p :: r, h => by
    obtain ⟨a, b⟩ := plains_pv fun q hq => h q (.tail _ hq)
    have hp := h p (.head _)
    constructor
    · show (((V.str p.1).plain && ((ov p.2).plain && true)) && V.plains (r.map pv)) = true
      rw [a, plain_ov hp.2, str_plain fun c m => Nat.lt_trans (hp.1.2.2 c m).2.1 (by decide)]; rfl
    · show max (max 0 (max (ov p.2).deep 0) + 1) (V.deeps (r.map pv)) ≤ 1
      rw [deep_ov]
      exact Nat.max_le.mpr ⟨Nat.le_refl _, b⟩
theorem du_turn {O : Orc} {σ : Store} {h : Hd} {P : List Hd} {k : Nat} {l : V} (H : HOk h) (hk : k = σ.length) (hP : P.length ≤ 900) :
    execsM K O (duR l (some (.own k)) (some (.str h.1)) (some (ov h.2.1)) (some (.list (h.2.2.map pv)))) (σ ++ [.lst (P.map fv)]) duB =
      some (.next, duR l (some (.own k)) (some (.str h.1)) (some (ov (du h).2.1)) (some (.list (h.2.2.map pv))), σ ++ [.lst ((P ++ [du h]).map fv)]) := by
  subst hk
  have g1 : (σ ++ [OObj.lst (P.map fv)])[σ.length]? = some (.lst (P.map fv)) := get_last
  have i1 := id_app (K := K) g1
  have a1 : smV K.nd K.vd "append" (σ ++ [.lst (P.map fv)]) (.own σ.length) [fv (du h)] = some (.none, σ ++ [.lst ((P ++ [du h]).map fv)]) := by
    rw [sm_app g1 (by rw [List.length_map]; omega), set_last, List.map_append]; rfl
  generalize hτ : σ ++ [OObj.lst (P.map fv)] = τ at *
  have c1 : evalM K O (duR l (some (.own σ.length)) (some (.str h.1)) (some (ov (du h).2.1)) (some (.list (h.2.2.map pv)))) τ (.comp (.tuple (.cons (.var "name") (.cons (.or (.cons (.var "told") (.cons .none .nil))) .nil))) (.tup ["name", "told"]) (.var "params") .nil) = some (.list ((h.2.2.map dp).map pv), τ) := by
    refine e_comp1 (fun ρ => ∃ a b, ρ = [(".0", none), ("name", a), ("told", b)] ++ duR l (some (.own σ.length)) (some (.str h.1)) (some (ov (du h).2.1)) (some (.list (h.2.2.map pv)))) pv (fun p => [pv (dp p)]) (e_var rfl) rfl rfl (fun p hp ρ ⟨a, b, e⟩ => ?_) ⟨none, none, rfl⟩ (Nat.le_trans H.l (by decide)) (by rw [flat_one, List.map_map]; rfl)
    subst e
    obtain ⟨w, t⟩ := p
    have st : setT ([(".0", none), ("name", a), ("told", b)] ++ duR l (some (.own σ.length)) (some (.str h.1)) (some (ov (du h).2.1)) (some (.list (h.2.2.map pv)))) (.tup ["name", "told"]) (pv (w, t)) = some ([(".0", none), ("name", some (.str w)), ("told", some (ov t))] ++ duR l (some (.own σ.length)) (some (.str h.1)) (some (ov (du h).2.1)) (some (.list (h.2.2.map pv)))) := rfl
    refine tr_yes (w := pv (dp (w, t))) st ⟨_, _, rfl⟩ if_nil ?_ rfl
    have or1 : evalM K O ([(".0", none), ("name", some (.str w)), ("told", some (ov t))] ++ duR l (some (.own σ.length)) (some (.str h.1)) (some (ov (du h).2.1)) (some (.list (h.2.2.map pv)))) τ (.or (.cons (.var "told") (.cons .none .nil))) = some (ov (dn t), τ) := by
      rcases t with _ | _ | ⟨c, t⟩
      · exact e_or (b_go_f (e_var rfl) rfl (b_one e_none))
      · exact e_or (b_go_f (e_var rfl) rfl (b_one e_none))
      · refine e_or (b_stop_f (e_var rfl) ?_)
        have : (c :: t).length ≤ 1000000 := Nat.le_trans ((H.p _ hp).2 _ rfl).1 (by decide)
        show Option.or (if (c :: t).length ≤ 1000000 then some true else none) _ = _
        rw [if_pos this]; rfl
    exact e_tuple (es_cons (e_var rfl) (es_cons or1 es_nil)) (by show 2 ≤ 1000; decide)
  have e1 : execM K O (duR l (some (.own σ.length)) (some (.str h.1)) (some (ov h.2.1)) (some (.list (h.2.2.map pv)))) τ (.ite (.and (.cons (.cmp .Is (.var "own") .none) (.cons (.cmp .Eq (.var "params") (.list false .nil)) .nil))) (.cons (.assign (.one "own") (.str [])) .nil) .nil) =
      some (.next, duR l (some (.own σ.length)) (some (.str h.1)) (some (ov (du h).2.1)) (some (.list (h.2.2.map pv))), τ) := by
    obtain ⟨x, o, ps⟩ := h
    cases o with
    | some o => unfold duR; show execM K O _ τ _ = some (Fl.next, [("heads", some l), ("due", some (.own σ.length)), ("word", some (.str x)), ("own", some (.str o)), ("params", some (.list (ps.map pv)))], τ); exact x_ite_f (t_and (al_stop_t (t_cmp (e_var rfl) e_none rfl))) x_nil
    | none =>
      have hp := plains_pv H.p
      have q1 : cmpV τ .Eq (.list (ps.map pv)) (.list []) = some (.bool (V.eqbs (ps.map pv) [])) := by
        show (eqV (.list (ps.map pv)) (.list [])).map _ = _
        rw [eqV_plain (a := .list (ps.map pv)) (b := .list []) hp.1 rfl (Nat.le_trans (Nat.succ_le_succ hp.2) (by decide)) (by decide)]; rfl
      cases ps with
      | nil => unfold duR; exact x_ite_t (t_and (al_go_t (t_cmp (e_var rfl) e_none rfl) (al_go_t (t_cmp (e_var rfl) (e_list es_nil (nl_not (Nat.zero_le _))) q1) al_nil))) (x_cons (x_assign e_str rfl) x_nil)
      | cons p ps => unfold duR; exact x_ite_f (t_and (al_go_t (t_cmp (e_var rfl) e_none rfl) (al_stop_t (t_cmp (e_var rfl) (e_list es_nil (nl_not (Nat.zero_le _))) q1)))) x_nil
  exact x_cons e1 (x_cons (x_expr (e_sm (e_var rfl) i1 (es_cons (e_tuple (es_cons (e_var rfl) (es_cons (e_tuple (es_cons (e_var rfl) (es_cons c1 es_nil)) (by show 2 ≤ 1000; decide)) es_nil)) (by show 2 ≤ 1000; decide)) es_nil) a1)) x_nil)
theorem due_ok {n : Nat} {σ : Store} {H : List Hd} (hcl : Closed σ) (hH : HOks H) : Q K (n+1) "_law_due" [.list (H.map hv)] [] σ = some (.list ((H.map du).map fv), σ) := by
  have e1 : execM K (Q K n) (duR (.list (H.map hv)) none none none none) σ (.assign (.one "due") (.list true .nil)) = some (.next, duR (.list (H.map hv)) (some (.own σ.length)) none none none, σ ++ [.lst ([].map fv)]) := x_assign (e_list es_nil (nl_own (Nat.zero_le _))) rfl
  obtain ⟨ρ', σ', e2, a, b, c, rfl, rfl⟩ := x_fold (K := K) (O := Q K n) (ρ := duR (.list (H.map hv)) (some (.own σ.length)) none none none) (σ₀ := σ ++ [.lst ([].map fv)]) (t := .tup ["word", "own", "params"]) (it := .var "heads") (ms := duB) hv (r := H)
    (fun d ρ σ' => ∃ a b c, ρ = duR (.list (H.map hv)) (some (.own σ.length)) a b c ∧ σ' = σ ++ [.lst ((d.map du).map fv)]) (e_var rfl) rfl (fun _ _ _ _ => rfl)
    (fun d h e hw ρ σ' ⟨a, b, c, e1, e2⟩ => by
      subst e1 e2
      have hd : d.length ≤ 10 := by have := hH.1; rw [hw, List.length_append] at this; exact Nat.le_trans (Nat.le_add_right ..) this
      refine ⟨duR (.list (H.map hv)) (some (.own σ.length)) (some (.str h.1)) (some (ov h.2.1)) (some (.list (h.2.2.map pv))), _, _, rfl, du_turn (hH.2 h (hw ▸ List.mem_append_right _ (.head _))) rfl (by rw [List.length_map]; omega), _, _, _, rfl, ?_⟩
      rw [List.map_append (f := du)]; rfl) ⟨none, none, none, rfl, rfl⟩
  refine call_of (fn := fn_law_due K) (ρ := duR (.list (H.map hv)) none none none none) (τ := σ) (v := .own σ.length) rfl (by rfl) ⟨_, x_cons e1 (x_cons e2 (x_stop (x_ret (e_var rfl))))⟩ (fin_cut hcl rfl (fz_own (Nat.lt_irrefl _) get_last (mapM_some fun h _ => fz_fv h)))
end

section

variable {K : Cfg}
noncomputable def HSum (H : List Hd) : Nat := (H.map fun h => 1 + h.2.2.length).sum
theorem ln_short {h : Hd} (H : HOk h) : (ln h).length + 2 ≤ 15 * (1 + h.2.2.length) := by
  have a := (n5_ok H.n).1
  have b : (val h).length ≤ 3 + 15 * h.2.2.length := by
    have t := fun {ps : List Par} (hp : ∀ p ∈ ps, POk p) => (tl_ok hp).1
    rcases val_shape H with ⟨p, ps, -, e, q, -⟩ | ⟨o, -, ⟨h1, -⟩, -, -, q⟩
    · have hp := H.p
      rw [e] at hp
      have := t fun q hq => hp q (.tail _ hq)
      have p1 := (par_ok (hp p (.head _))).1
      rw [q, e, List.length_append, List.length_cons]
      omega
    · rw [q, List.length_append]
      have := t H.p
      omega
  show (h.1 ++ [58, 32] ++ val h).length + 2 ≤ _
  rw [List.length_append, List.length_append]
  show _ + 2 + _ + 2 ≤ _
  omega
theorem joinT_le {sep : Tx} : ∀ {ss : List Tx}, (joinT sep ss).length ≤ (ss.map fun s => s.length + sep.length).sum
  | [] => Nat.zero_le _
  | [y] => by show y.length ≤ y.length + sep.length + 0; omega
  | y :: z :: r => by
    have := joinT_le (sep := sep) (ss := z :: r)
    show (y ++ sep ++ joinT sep (z :: r)).length ≤ y.length + sep.length + ((z :: r).map fun s => s.length + sep.length).sum
    rw [List.length_append, List.length_append]
    omega
theorem txt_short {H : List Hd} (hH : HOks H) (hs : HSum H ≤ 10) : (txt H).length ≤ 200 := by
  refine Nat.le_trans joinT_le ?_
  have key : ∀ {L : List Hd}, (∀ h ∈ L, HOk h) → ((L.map ln ++ [[], []]).map fun (s : Tx) => s.length + 2).sum ≤ 15 * HSum L + 4 := by
    intro L
    induction L with
    | nil => intro _; exact Nat.le_refl 4
    | cons h r ih =>
      intro hh
      have := ih fun x hx => hh x (.tail _ hx)
      have a := ln_short (hh h (.head _))
      show (ln h).length + 2 + ((r.map ln ++ [[], []]).map fun (s : Tx) => s.length + 2).sum ≤ 15 * (1 + h.2.2.length + HSum r) + 4
      omega
  have := key hH.2
  show ((H.map ln ++ [[], []]).map fun (s : Tx) => s.length + 2).sum ≤ 200
  omega

theorem join_ones : ∀ x : Tx, joinT [] (x.map fun c => [c]) = x
  | [] => rfl
  | [c] => rfl
  | c :: d :: x => by
    show [c] ++ [] ++ joinT [] ((d :: x).map fun c => [c]) = _
    rw [join_ones (d :: x)]; rfl
theorem find_ln {h : Hd} (H : HOk h) : Txt.find (strV (ln h)) (strV [58, 32]) = (h.1.length : Int) := by
  have e : ln h = h.1 ++ ([58, 32] ++ val h) := List.append_assoc ..
  rw [e]
  refine find_of (at_app ..) fun k hk ha => ?_
  rw [at_iff] at ha
  have key : ∀ x ∈ N5, ∀ k < x.length, ((x ++ [58]).drop k).take 2 ≠ [58, 32] := by decide
  refine key h.1 H.n k hk ?_
  have h2 := ha.2
  have e2 : h.1 ++ ([58, 32] ++ val h) = (h.1 ++ [58]) ++ (32 :: val h) := by rw [List.append_assoc]; rfl
  rw [e2, List.drop_append_of_le_length (by rw [List.length_append]; exact Nat.le_trans (Nat.le_of_lt hk) (Nat.le_add_right ..)), List.take_append_of_le_length (by rw [List.length_drop, List.length_append]; show 2 ≤ _ + 1 - k; omega)] at h2
  exact h2
theorem pk_init {α : Type} (a : List α) (x y : α) : pickL (a ++ [x, y]) none (some (-2)) = a := by
  show ((a ++ [x, y]).take (clipAt (a ++ [x, y]).length (-2))).drop 0 = a
  rw [show (-2 : Int) = -((2 : Nat) : Int) from rfl, clipAt_neg _ _ (by decide), List.length_append]
  show (a ++ [x, y]).take (a.length + 2 - 2) = a
  rw [Nat.add_sub_cancel, List.take_left]
theorem pk_ends {α : Type} (a : List α) (x y : α) : pickL (a ++ [x, y]) (some (-2)) none = [x, y] := by
  show ((a ++ [x, y]).take (a ++ [x, y]).length).drop (clipAt (a ++ [x, y]).length (-2)) = _
  rw [show (-2 : Int) = -((2 : Nat) : Int) from rfl, clipAt_neg _ _ (by decide), List.take_length, List.length_append]
  show (a ++ [x, y]).drop (a.length + 2 - 2) = _
  rw [Nat.add_sub_cancel, List.drop_left]
noncomputable def lnR (x : V) (l b a c : Option V) : Rho := [("octets", some x), ("lines", l), ("back", b), ("line", a), ("cut", c)]
noncomputable def lnB : MSs := (.cons (.assign (.one "cut") (.sm (.var "line") "find" (.cons (.str [58, 32]) .nil))) (.cons (.expr (.sm (.var "back") "append" (.cons (.tuple (.cons (.slice (.var "line") .no (.yes (.var "cut"))) (.cons (.call "_law_read" (.cons (.slice (.var "line") (.yes (.bin .Add (.var "cut") (.int 2))) .no) .nil)) .nil))) .nil))) .nil))
theorem ln_turn {n : Nat} {σ : Store} {h : Hd} {P : List Hd} {k : Nat} {x : V} {l c : Option V} (hcl : Closed σ) (H : HOk h) (hk : k = σ.length) (hP : P.length ≤ 900) :
    execsM K (Q K (n+1)) (lnR x l (some (.own k)) (some (.str (ln h))) c) (σ ++ [.lst (P.map fv)]) lnB = some (.next, lnR x l (some (.own k)) (some (.str (ln h))) (some (.int (h.1.length : Int))), σ ++ [.lst ((P ++ [du h]).map fv)]) := by
  subst hk
  have g1 : (σ ++ [OObj.lst (P.map fv)])[σ.length]? = some (.lst (P.map fv)) := get_last
  have i1 := id_app (K := K) g1
  have a1 : smV K.nd K.vd "append" (σ ++ [.lst (P.map fv)]) (.own σ.length) [.tuple [.str h.1, .tuple [ov (du h).2.1, .list ((du h).2.2.map pv)]]] = some (.none, σ ++ [.lst ((P ++ [du h]).map fv)]) := by
    rw [sm_app g1 (by rw [List.length_map]; omega), set_last, List.map_append]; rfl
  have r1 := read_ok (K := K) (n := n) (closed_fv (H := P) hcl) H
  generalize σ ++ [OObj.lst (P.map fv)] = τ at *
  have hl := (ln_ok H).1
  have f0 : smId K.nd K.vd "find" τ (.str (ln h)) = some "str.find" := rfl
  have f1 : smV K.nd K.vd "find" τ (.str (ln h)) [.str [58, 32]] = some (.int (h.1.length : Int), τ) := by
    show some (V.int (Txt.find (strV (ln h)) (strV [58, 32])), τ) = _
    rw [find_ln H]
  have hll : (ln h).length ≤ 1000000 := Nat.le_trans hl (by decide)
  have s1 : sliceV τ (.str (ln h)) none (some (h.1.length : Int)) = some (.str h.1) := sl_str hll (by
    rw [pk_to, show ln h = h.1 ++ ([58, 32] ++ val h) from List.append_assoc .., List.take_left])
  have s2 : sliceV τ (.str (ln h)) (some ((h.1.length : Int) + 2)) none = some (.str (val h)) := sl_str hll ((pk_from _ (h.1.length + 2)).trans (by
    rw [show ln h = (h.1 ++ [58, 32]) ++ val h from rfl, show h.1.length + 2 = (h.1 ++ [58, 32]).length by (rw [List.length_append]; rfl), List.drop_left]))
  unfold lnB lnR
  walk_at "EV"
theorem lines_ok {n : Nat} {σ : Store} {H : List Hd} (hcl : Closed σ) (hH : HOks H) (hs : HSum H ≤ 10) : Q K (n+2) "_law_lines" [.bytes (txt H)] [] σ = some (.list ((H.map du).map fv), σ) := by
  have hsh := txt_short hH hs
  obtain ⟨-, tok⟩ := txt_ok hH
  have c1 : evalM K (Q K (n+1)) (lnR (.bytes (txt H)) none none none none) σ (.comp (.bi "chr" (.cons (.var "octet") .nil)) (.one "octet") (.var "octets") .nil) = some (.list ((txt H).map fun c => .str [c]), σ) := by
    refine e_comp1 (fun ρ => ∃ a, ρ = [(".0", none), ("octet", a)] ++ lnR (.bytes (txt H)) none none none none) (fun c : Nat => V.int (c : Int)) (fun c => [V.str [c]]) (e_var rfl) rfl rfl (fun c hc ρ ⟨a, e⟩ => ?_) ⟨none, rfl⟩ (Nat.le_trans hsh (by decide)) (flat_one _ _)
    subst e
    have b1 : biV "chr" σ [.int (c : Int)] = some (.str [c], σ) := by
      show (if (0 : Int) ≤ (c : Int) ∧ (c : Int) < 256 then some (V.str [(c : Int).toNat], σ) else none) = _
      rw [if_pos ⟨Int.natCast_nonneg _, Int.ofNat_lt.mpr (tok c hc)⟩]; rfl
    exact tr_yes (w := .str [c]) (ρ₁ := [(".0", none), ("octet", some (.int (c : Int)))] ++ lnR (.bytes (txt H)) none none none none) rfl ⟨_, rfl⟩ if_nil (e_bi (es_cons (e_var rfl) es_nil) b1) rfl
  have j1 : smV K.nd K.vd "join" σ (.str []) [V.list ((txt H).map fun c => .str [c])] = some (.str (txt H), σ) := by
    have := sm_join (K := K) (σ := σ) (x := []) (v := .list ((txt H).map fun c => .str [c])) (ss := (txt H).map fun c => [c]) (B := 1) (by rw [List.map_map]; rfl) (fun y hy => by obtain ⟨c, -, rfl⟩ := List.mem_map.mp hy; exact Nat.le_refl 1) (by
      rw [List.length_map]; show _ * 1 + _ * 0 ≤ _; omega)
    rwa [join_ones] at this
  have j0 : smId K.nd K.vd "join" σ (.str []) = some "str.join" := rfl
  have p0 : smId K.nd K.vd "split" σ (.str (txt H)) = some "str.split" := rfl
  have p1 : smV K.nd K.vd "split" σ (.str (txt H)) [.str [13, 10]] = some (V.list ((H.map ln).map V.str ++ [V.str [], V.str []]), σ) := by
    show (if (txt H).length ≤ 100000 then some (V.list ((splitT (txt H) [13, 10]).map .str), σ) else none) = _
    rw [if_pos (Nat.le_trans hsh (by decide))]
    have : splitT (txt H) [13, 10] = H.map ln ++ [[], []] := by
      obtain ⟨p, ps, e⟩ : ∃ p ps, H.map ln ++ [[], []] = p :: ps := by
        cases H with
        | nil => exact ⟨_, _, rfl⟩
        | cons h r => exact ⟨_, _, rfl⟩
      have ok := lns_ok hH
      unfold txt
      rw [e] at ok ⊢
      refine split_join (fun q hq m => ?_) (by decide)
      have := ((ok q hq).2 13 m).2.1
      omega
    rw [this, List.map_append]; rfl
  have ll : ((H.map ln).map V.str ++ [V.str [], V.str []]).length ≤ 1000 := by
    rw [List.length_append, List.length_map, List.length_map]; exact Nat.le_trans (Nat.add_le_add_right hH.1 2) (by decide)
  have sl : ∀ {lo hi : Option Int} {r : List V} {τ : Store}, pickL ((H.map ln).map V.str ++ [V.str [], V.str []]) lo hi = r → sliceV τ (V.list ((H.map ln).map V.str ++ [V.str [], V.str []])) lo hi = some (V.list r) := by
    intro lo hi r τ e
    show Option.or (if _ then some _ else none) _ = _
    rw [if_pos ll, e]; rfl
  have s1 := sl (τ := σ) (pk_ends ((H.map ln).map V.str) (V.str []) (V.str []))
  have q1 : cmpV σ .NotEq (.list [.str [], .str []]) (.list [.str [], .str []]) = some (.bool false) := rfl
  have a1 : execM K (Q K (n+1)) (lnR (.bytes (txt H)) none none none none) σ (.assign (.one "lines") (.sm (.sm (.str []) "join" (.cons (.comp (.bi "chr" (.cons (.var "octet") .nil)) (.one "octet") (.var "octets") .nil) .nil)) "split" (.cons (.str [13, 10]) .nil))) = some (.next, lnR (.bytes (txt H)) (some (V.list ((H.map ln).map V.str ++ [V.str [], V.str []]))) none none none, σ) :=
    x_assign (e_sm (e_sm e_str j0 (es_cons c1 es_nil) j1) p0 (es_cons e_str es_nil) p1) rfl
  have a2 : execM K (Q K (n+1)) (lnR (.bytes (txt H)) (some (V.list ((H.map ln).map V.str ++ [V.str [], V.str []]))) none none none) σ (.ite (.cmp .NotEq (.slice (.var "lines") (.yes (.neg (.int 2))) .no) (.list false (.cons (.str []) (.cons (.str []) .nil)))) (.cons (.ret .none) .nil) .nil) = some (.next, lnR (.bytes (txt H)) (some (V.list ((H.map ln).map V.str ++ [V.str [], V.str []]))) none none none, σ) :=
    x_ite_f (t_cmp (e_slice (e_var rfl) (o_yes (e_neg e_int)) o_no rfl rfl s1) (e_list (es_cons e_str (es_cons e_str es_nil)) (nl_not (by show 2 ≤ 1000; decide))) q1) x_nil
  have a3 : execM K (Q K (n+1)) (lnR (.bytes (txt H)) (some (V.list ((H.map ln).map V.str ++ [V.str [], V.str []]))) none none none) σ (.assign (.one "back") (.list true .nil)) = some (.next, lnR (.bytes (txt H)) (some (V.list ((H.map ln).map V.str ++ [V.str [], V.str []]))) (some (.own σ.length)) none none, σ ++ [.lst ([].map fv)]) := x_assign (e_list es_nil (nl_own (Nat.zero_le _))) rfl
  obtain ⟨ρ', σ', a4, a, c, rfl, rfl⟩ := x_fold (K := K) (O := Q K (n+1)) (ρ := lnR (.bytes (txt H)) (some (V.list ((H.map ln).map V.str ++ [V.str [], V.str []]))) (some (.own σ.length)) none none) (σ₀ := σ ++ [.lst ([].map fv)]) (t := .one "line") (it := .slice (.var "lines") .no (.yes (.neg (.int 2)))) (ms := lnB) (x := V.list ((H.map ln).map V.str)) (fun h => V.str (ln h)) (r := H)
    (fun d ρ σ' => ∃ a c, ρ = lnR (.bytes (txt H)) (some (V.list ((H.map ln).map V.str ++ [V.str [], V.str []]))) (some (.own σ.length)) a c ∧ σ' = σ ++ [.lst ((d.map du).map fv)]) (e_slice (e_var rfl) o_no (o_yes (e_neg e_int)) rfl rfl (sl (pk_init ((H.map ln).map V.str) (V.str []) (V.str [])))) (by rw [List.map_map]; rfl) (fun _ _ _ _ => rfl)
    (fun d h e hw ρ σ' ⟨a, c, e1, e2⟩ => by
      subst e1 e2
      have hd : d.length ≤ 10 := by have := hH.1; rw [hw, List.length_append] at this; exact Nat.le_trans (Nat.le_add_right ..) this
      refine ⟨lnR (.bytes (txt H)) (some (V.list ((H.map ln).map V.str ++ [V.str [], V.str []]))) (some (.own σ.length)) (some (.str (ln h))) c, _, _, rfl, ln_turn hcl (hH.2 h (hw ▸ List.mem_append_right _ (.head _))) rfl (by rw [List.length_map]; omega), _, _, rfl, ?_⟩
      rw [List.map_append (f := du)]; rfl) ⟨none, none, rfl, rfl⟩
  refine call_of (fn := fn_law_lines K) (ρ := lnR (.bytes (txt H)) none none none none) (τ := σ) (v := .own σ.length) rfl (by rfl) ⟨_, x_cons a1 (x_cons a2 (x_cons a3 (x_cons a4 (x_stop (x_ret (e_var rfl))))))⟩ (fin_cut hcl rfl (fz_own (Nat.lt_irrefl _) get_last (mapM_some fun h _ => fz_fv h)))
end

section

variable {K : Cfg}
theorem fmod_nat (x : Int) (m : Nat) (h : 0 < m) : ∃ r : Nat, r < m ∧ Int.fmod x m = r := by
  have h1 := Int.emod_nonneg x (b := (m : Int)) (by omega)
  have h2 := Int.emod_lt_of_pos x (b := (m : Int)) (by omega)
  rw [Int.fmod_eq_emod_of_nonneg x (by omega)]
  exact ⟨(x % m).toNat, by omega, by omega⟩
theorem fdiv_cast (r m : Nat) : Int.fdiv (r : Int) (m : Int) = ((r / m : Nat) : Int) := by
  rw [Int.fdiv_eq_ediv_of_nonneg _ (by omega)]; simp
theorem fmod_cast (r m : Nat) : Int.fmod (r : Int) (m : Int) = ((r % m : Nat) : Int) := by
  rw [Int.fmod_eq_emod_of_nonneg _ (by omega)]; simp
theorem b_mod {σ : Store} {x y z : Int} (hy : y ≠ 0) (e : Int.fmod x y = z) : binV σ .Mod (.int x) (.int y) = some (.int z) := by
  show Option.or (if y = 0 then none else some (V.int (Int.fmod x y))) _ = _; rw [if_neg hy, e]; rfl
theorem b_div {σ : Store} {x y z : Int} (hy : ¬ (y = 0 ∨ y.natAbs ≥ 1073741824)) (e : Int.fdiv x y = z) : binV σ .FloorDiv (.int x) (.int y) = some (.int z) := by
  show (if y = 0 ∨ y.natAbs ≥ 1073741824 then none else some (V.int (Int.fdiv x y))) = _; rw [if_neg hy, e]
theorem m_nat {σ : Store} {x m : Nat} (hm : 0 < m) : binV σ .Mod (.int (x : Int)) (.int (m : Int)) = some (.int ((x % m : Nat) : Int)) := b_mod (by omega) (fmod_cast x m)
theorem d_nat {σ : Store} {x m : Nat} (hm : 0 < m) (h2 : m < 1073741824) : binV σ .FloorDiv (.int (x : Int)) (.int (m : Int)) = some (.int ((x / m : Nat) : Int)) := b_div (by omega) (fdiv_cast x m)
theorem eq_int {σ : Store} {a b : Int} : cmpV σ .Eq (.int a) (.int b) = some (.bool (a == b)) := rfl
theorem it_range {σ : Store} {m : Nat} (h : m ≤ 16) : iterOf σ (.rng m) = some ((List.range m).map fun (i : Nat) => V.int (i : Int)) := if_pos h
theorem idx_in {σ : Store} {x : Tx} {k : Nat} (h : k < x.length) (hl : x.length ≤ 1000000) : idxV σ (.str x) (.int (k : Int)) = some (.str [x[k]]) := by
  have e : x = x.take k ++ x[k] :: x.drop (k + 1) := by rw [← List.drop_eq_getElem_cons h, List.take_append_drop]
  have lk : k = (x.take k).length := by rw [List.length_take, Nat.min_eq_left (Nat.le_of_lt h)]
  have := idx_str (σ := σ) (a := x.take k) (b := x.drop (k + 1)) (c := x[k]) lk (by omega)
  rw [← e] at this
  exact this

noncomputable def txR (a s : V) (t l p : Option V) : Rho := [("number", some a), ("signs", some s), ("text", t), ("left", l), ("step", p)]
noncomputable def txB : MSs := (.cons (.aug "text" .Add (.idx (.var "signs") (.bin .Mod (.var "left") (.bi "len" (.cons (.var "signs") .nil))))) (.cons (.assign (.one "left") (.bin .FloorDiv (.var "left") (.bi "len" (.cons (.var "signs") .nil)))) .nil))
theorem tx_turn {O : Orc} {σ : Store} {S t : Tx} {l : Nat} {a : V} {p : Option V} (hS : 0 < S.length) (hS2 : S.length ≤ 16) (ht : t.length ≤ 100) :
    ∃ c ∈ S, execsM K O (txR a (.str S) (some (.str t)) (some (.int (l : Int))) p) σ txB = some (.next, txR a (.str S) (some (.str (t ++ [c]))) (some (.int ((l / S.length : Nat) : Int))) p, σ) := by
  have lt : l % S.length < S.length := Nat.mod_lt _ hS
  have l1 := len_str (σ := σ) (x := S) (Nat.le_trans hS2 (by decide))
  have m1 := m_nat (σ := σ) (x := l) hS
  have d1 := d_nat (σ := σ) (x := l) hS (Nat.lt_of_le_of_lt hS2 (by decide))
  have i1 := idx_in (σ := σ) lt (Nat.le_trans hS2 (by decide))
  have a1 : augV .Add (.str t) (.str [S[l % S.length]]) = some (.str (t ++ [S[l % S.length]])) := aug_str (by show _ + 1 ≤ _; omega) rfl
  refine ⟨S[l % S.length], List.getElem_mem lt, ?_⟩
  generalize S[l % S.length] = c at *
  unfold txB txR
  walk_at "EV"
theorem text_ok {n : Nat} {σ : Store} {S : Tx} (r : Nat) (hS : 0 < S.length) (hS2 : S.length ≤ 16) : ∃ t : Tx, t.length ≤ 3 ∧ (∀ c ∈ t, c ∈ S) ∧ Q K (n+1) "_law_text" [.int (r : Int), .str S] [] σ = some (.str t, σ) := by
  have e1 : execM K (Q K n) (txR (.int (r : Int)) (.str S) none none none) σ (.assign (.one "text") (.str [])) = some (.next, txR (.int (r : Int)) (.str S) (some (.str [])) none none, σ) := x_assign e_str rfl
  have e2 : execM K (Q K n) (txR (.int (r : Int)) (.str S) (some (.str [])) none none) σ (.assign (.one "left") (.bin .FloorDiv (.var "number") (.int 4))) = some (.next, txR (.int (r : Int)) (.str S) (some (.str [])) (some (.int ((r / 4 : Nat) : Int))) none, σ) := x_assign (e_bin (e_var rfl) e_int (d_nat (m := 4) (by decide) (by decide))) rfl
  have hm : r % 4 < 4 := Nat.mod_lt _ (by decide)
  have rg : biV "range" σ [.int ((r % 4 : Nat) : Int)] = some (.rng (r % 4), σ) := by
    show (if (0 : Int) ≤ ((r % 4 : Nat) : Int) ∧ ((r % 4 : Nat) : Int) ≤ 16 then some (V.rng (((r % 4 : Nat) : Int)).toNat, σ) else none) = _
    rw [if_pos ⟨Int.natCast_nonneg _, Int.ofNat_le.mpr (by omega : r % 4 ≤ 16)⟩]; rfl
  obtain ⟨ρ', σ', e3, t, l, p, h1, h2, rfl, rfl⟩ := x_fold (K := K) (O := Q K n) (ρ := txR (.int (r : Int)) (.str S) (some (.str [])) (some (.int ((r / 4 : Nat) : Int))) none) (σ₀ := σ) (t := .one "step") (it := .bi "range" (.cons (.bin .Mod (.var "number") (.int 4)) .nil)) (ms := txB) (x := .rng (r % 4)) (fun i : Nat => V.int (i : Int)) (r := List.range (r % 4))
    (fun d ρ σ' => ∃ (t : Tx) (l : Nat) (p : Option V), t.length = d.length ∧ (∀ c ∈ t, c ∈ S) ∧ ρ = txR (.int (r : Int)) (.str S) (some (.str t)) (some (.int (l : Int))) p ∧ σ' = σ)
    (e_bi (es_cons (e_bin (e_var rfl) e_int (m_nat (m := 4) (by decide))) es_nil) rg) (it_range (σ := σ) (by omega)) (fun _ _ _ _ => rfl)
    (fun d x e hw ρ σ' ⟨t, l, p, h1, h2, q1, q2⟩ => by
      subst q1 q2
      have hd : d.length ≤ 4 := by
        have := congrArg List.length hw
        rw [List.length_range, List.length_append] at this
        omega
      obtain ⟨c, hc, q⟩ := tx_turn (K := K) (O := Q K n) (σ := σ') (S := S) (t := t) (l := l) (a := .int (r : Int)) (p := some (.int (x : Int))) hS hS2 (by omega)
      refine ⟨_, _, _, rfl, q, t ++ [c], _, _, ?_, fun x hx => ?_, rfl, rfl⟩
      · rw [List.length_append, List.length_append, h1]; rfl
      · rcases List.mem_append.mp hx with hx | hx
        · exact h2 x hx
        · rw [List.mem_singleton.mp hx]; exact hc) ⟨[], _, _, rfl, fun _ m => (nomatch m), rfl, rfl⟩
  rw [List.length_range] at h1
  exact ⟨t, by omega, h2, call_of (fn := fn_law_text K) (ρ := txR (.int (r : Int)) (.str S) none none none) (τ := σ') (v := .str t) rfl (by rfl) ⟨_, x_cons e1 (x_cons e2 (x_cons e3 (x_stop (x_ret (e_var rfl)))))⟩ (fin_same rfl rfl)⟩

noncomputable def hd0 (k : Nat) (h : Hd) : V := .tuple [.str h.1, ov h.2.1, .own k]
noncomputable def ents (k : Nat) : List Hd → List V
  | [] => []
  | h :: r => hd0 k h :: ents (k + 1) r
theorem ents_app : ∀ (H : List Hd) (k : Nat) (h : Hd), ents k (H ++ [h]) = ents k H ++ [hd0 (k + H.length) h]
  | [], k, h => rfl
  | g :: r, k, h => by
    show hd0 k g :: ents (k + 1) (r ++ [h]) = hd0 k g :: (ents (k + 1) r ++ [hd0 (k + (r.length + 1)) h])
    rw [ents_app r (k + 1) h, Nat.add_assoc, Nat.add_comm 1]
theorem ents_len : ∀ (H : List Hd) (k : Nat), (ents k H).length = H.length
  | [], _ => rfl
  | h :: r, k => congrArg (· + 1) (ents_len r (k + 1))
noncomputable def pl (h : Hd) : OObj := .lst (h.2.2.map pv)
noncomputable def SH (H : List Hd) : Store := .lst (ents 1 H) :: H.map pl
theorem SH_len (H : List Hd) : (SH H).length = H.length + 1 := by show (H.map pl).length + 1 = _; rw [List.length_map]
theorem fz_ents {n f : Nat} {τ : Store} : ∀ (H : List Hd) (k : Nat), n ≤ k → (∀ j h, H[j]? = some h → τ[k + j]? = some (pl h)) → (ents k H).mapM (frz n τ (f + 4)) = some (H.map hv)
  | [], _, _, _ => rfl
  | h :: r, k, hk, hj => by
    show (hd0 k h :: ents (k + 1) r).mapM _ = _
    have e1 : frz n τ (f + 4) (hd0 k h) = some (hv h) := fz_tup (mapM3 (fz_str _) (fz_ov _) (fz_own (Nat.not_lt.mpr hk) (hj 0 h rfl) (mapM_some fun p _ => fz_pv p)))
    rw [List.mapM_cons, e1, fz_ents r (k + 1) (Nat.le_succ_of_le hk) fun j g e => by
        have := hj (j + 1) g e
        rwa [show k + (j + 1) = k + 1 + j by omega] at this]
    rfl

noncomputable def heR (l : V) (hs nu re ow pa wo te : Option V) : Rho := [("numbers", some l), ("heads", hs), ("number", nu), ("rest", re), ("own", ow), ("params", pa), ("word", wo), ("told", te)]
noncomputable def heN : MSs := (.cons (.assign (.one "own") (.call "_law_text" (.cons (.bin .FloorDiv (.var "rest") (.int 5)) (.cons (.str [97, 47, 44, 32, 61, 58, 34, 92, 233]) .nil)))) (.cons (.ite (.and (.cons (.cmp .Eq (.var "own") (.str [])) (.cons (.cmp .Eq (.bin .Mod (.bin .FloorDiv (.var "rest") (.int 20)) (.int 2)) (.int 1)) .nil))) (.cons (.assign (.one "own") .none) .nil) .nil) (.cons (.expr (.sm (.var "heads") "append" (.cons (.tuple (.cons (.idx (.list false (.cons (.str [65]) (.cons (.str [97]) (.cons (.str [65, 98]) (.cons (.str [98, 58]) (.cons (.str []) .nil)))))) (.bin .Mod (.var "rest") (.int 5))) (.cons (.var "own") (.cons (.list true .nil) .nil)))) .nil))) .nil)))
noncomputable def heP : MSs := (.cons (.assign (.one "params") (.idx (.idx (.var "heads") (.neg (.int 1))) (.int 2))) (.cons (.assign (.one "word") (.bin .Add (.bin .Add (.str [107]) (.bin .Mult (.str [95]) (.bin .Sub (.bin .Mod (.var "number") (.int 4)) (.int 1)))) (.idx (.str [48, 49, 50, 51, 52, 53, 54, 55, 56, 57]) (.bi "len" (.cons (.var "params") .nil))))) (.cons (.assign (.one "told") (.call "_law_text" (.cons (.var "rest") (.cons (.str [97, 34, 92, 59, 32, 61, 44, 58, 9, 233, 255, 107]) .nil)))) (.cons (.ite (.and (.cons (.cmp .Eq (.var "told") (.str [])) (.cons (.cmp .Eq (.bin .Mod (.bin .FloorDiv (.var "rest") (.int 4)) (.int 2)) (.int 1)) .nil))) (.cons (.assign (.one "told") .none) .nil) .nil) (.cons (.expr (.sm (.var "params") "append" (.cons (.tuple (.cons (.var "word") (.cons (.var "told") .nil))) .nil))) .nil)))))
noncomputable def heB : MSs := (.cons (.assign (.one "rest") (.bin .FloorDiv (.bin .Mod (.var "number") (.int 65536)) (.int 4))) (.cons (.ite (.cmp .Eq (.bin .Mod (.var "number") (.int 4)) (.int 0)) heN heP) .nil))
end

section

variable {K : Cfg}
theorem at_last {α : Type} (a : List α) (x : α) : seqAt (a ++ [x]) (-1) = some x := by
  unfold seqAt
  rw [if_pos (by decide)]
  have : seqIndex? (-1) (a ++ [x]).length = some a.length := by
    rw [StrLaws.seqIndex_neg (by decide) (by rw [List.length_append]; show -((a.length + 1 : Nat) : Int) ≤ -1; omega), List.length_append]
    congr 1
    show ((-1 : Int) + ((a.length + 1 : Nat) : Int)).toNat = a.length
    omega
  rw [this]
  show (a ++ [x])[a.length]? = some x
  exact get_last
theorem maybe {O : Orc} {σ : Store} {ρ ρ₁ : Rho} {q : String} {t : Tx} {r m : Nat} (h1 : look ρ q = some (.str t)) (h2 : look ρ "rest" = some (.int (r : Int))) (h3 : setv ρ q .none = some ρ₁) (hm : 0 < m) (hm2 : m < 1073741824) (ht : ∀ c ∈ t, c < 256) :
    ∃ b : Bool, execM K O ρ σ (.ite (.and (.cons (.cmp .Eq (.var q) (.str [])) (.cons (.cmp .Eq (.bin .Mod (.bin .FloorDiv (.var "rest") (.int (m : Int))) (.int 2)) (.int 1)) .nil))) (.cons (.assign (.one q) .none) .nil) .nil) = some (.next, if b then ρ₁ else ρ, σ) := by
  have q1 := c_str (σ := σ) ht (by decide : ∀ c ∈ ([] : Tx), c < 256)
  have e2 : evalM K O ρ σ (.bin .Mod (.bin .FloorDiv (.var "rest") (.int (m : Int))) (.int 2)) = some (.int ((r / m % 2 : Nat) : Int), σ) := e_bin (e_bin (e_var h2) e_int (d_nat hm hm2)) e_int (m_nat (m := 2) (by decide))
  have q2 := eq_int (σ := σ) (a := ((r / m % 2 : Nat) : Int)) (b := 1)
  cases a : (t == []) with
  | false =>
    rw [a] at q1
    exact ⟨false, x_ite_f (t_and (al_stop_t (t_cmp (e_var h1) e_str q1))) x_nil⟩
  | true =>
    rw [a] at q1
    cases b : (((r / m % 2 : Nat) : Int) == 1) with
    | false =>
      rw [b] at q2
      exact ⟨false, x_ite_f (t_and (al_go_t (t_cmp (e_var h1) e_str q1) (al_stop_t (t_cmp e2 e_int q2)))) x_nil⟩
    | true =>
      rw [b] at q2
      exact ⟨true, x_ite_t (t_and (al_go_t (t_cmp (e_var h1) e_str q1) (al_go_t (t_cmp e2 e_int q2) al_nil))) (x_cons (x_assign e_none h3) x_nil)⟩
noncomputable def S9 : Tx := [97, 47, 44, 32, 61, 58, 34, 92, 233]
noncomputable def S12 : Tx := [97, 34, 92, 59, 32, 61, 44, 58, 9, 233, 255, 107]
noncomputable def OwnOk (o : Option Tx) : Prop := ∀ t, o = some t → SOk t ∧ 59 ∉ t ∧ t.head? ≠ some 107
theorem own_sok {t : Tx} (l : t.length ≤ 3) (h : ∀ c ∈ t, c ∈ S9) : OwnOk (some t) := fun u e => by
  cases e
  have key := (by decide : ∀ c ∈ S9, (c < 256 ∧ (32 ≤ c ∨ c = 9) ∧ c ≠ 127) ∧ c ≠ 59 ∧ c ≠ 107)
  refine ⟨⟨l, fun c m => (key c (h c m)).1⟩, fun m => (key 59 (h 59 m)).2.1 rfl, fun e => ?_⟩
  exact (key 107 (h 107 (List.mem_of_head? e))).2.2 rfl
theorem told_sok {t : Tx} (l : t.length ≤ 3) (h : ∀ c ∈ t, c ∈ S12) : SOk t := ⟨l, fun c m => (by decide : ∀ c ∈ S12, c < 256 ∧ (32 ≤ c ∨ c = 9) ∧ c ≠ 127) c (h c m)⟩
theorem new_head {n : Nat} {H : List Hd} {l : V} {nu ow pa wo te : Option V} {r : Nat} (hl : H.length ≤ 900) : ∃ x o, x ∈ N5 ∧ OwnOk o ∧
    execsM K (Q K (n+1)) (heR l (some (.own 0)) nu (some (.int (r : Int))) ow pa wo te) (SH H) heN = some (.next, heR l (some (.own 0)) nu (some (.int (r : Int))) (some (ov o)) pa wo te, SH (H ++ [(x, o, [])])) := by
  obtain ⟨t, t1, t2, tx⟩ := text_ok (K := K) (n := n) (σ := SH H) (S := S9) (r / 5) (by decide) (by decide)
  have ok := own_sok t1 t2
  have t256 : ∀ c ∈ t, c < 256 := fun c m => ((ok t rfl).1.2 c m).1
  have e1 : execM K (Q K (n+1)) (heR l (some (.own 0)) nu (some (.int (r : Int))) ow pa wo te) (SH H) (.assign (.one "own") (.call "_law_text" (.cons (.bin .FloorDiv (.var "rest") (.int 5)) (.cons (.str [97, 47, 44, 32, 61, 58, 34, 92, 233]) .nil)))) =
      some (.next, heR l (some (.own 0)) nu (some (.int (r : Int))) (some (.str t)) pa wo te, SH H) := x_assign (e_call (es_cons (e_bin (e_var rfl) e_int (d_nat (m := 5) (by decide) (by decide))) (es_cons e_str es_nil)) tx) rfl
  obtain ⟨b, e2⟩ := maybe (K := K) (O := Q K (n+1)) (σ := SH H) (ρ := heR l (some (.own 0)) nu (some (.int (r : Int))) (some (.str t)) pa wo te) (ρ₁ := heR l (some (.own 0)) nu (some (.int (r : Int))) (some .none) pa wo te) (q := "own") (t := t) (r := r) (m := 20) rfl rfl rfl (by decide) (by decide) t256
  obtain ⟨o, ho, eo⟩ : ∃ o, OwnOk o ∧ (if b then heR l (some (.own 0)) nu (some (.int (r : Int))) (some .none) pa wo te else heR l (some (.own 0)) nu (some (.int (r : Int))) (some (.str t)) pa wo te) = heR l (some (.own 0)) nu (some (.int (r : Int))) (some (ov o)) pa wo te := by
    cases b with
    | true => exact ⟨none, nofun, rfl⟩
    | false => exact ⟨some t, ok, rfl⟩
  rw [eo] at e2
  obtain ⟨x, hx, ix⟩ : ∃ x ∈ N5, idxV (SH H) (.list [.str [65], .str [97], .str [65, 98], .str [98, 58], .str []]) (.int ((r % 5 : Nat) : Int)) = some (.str x) := by
    have h5 : r % 5 < 5 := Nat.mod_lt _ (by decide)
    generalize r % 5 = k at h5
    match k, h5 with
    | 0, _ => exact ⟨[65], by decide, rfl⟩
    | 1, _ => exact ⟨[97], by decide, rfl⟩
    | 2, _ => exact ⟨[65, 98], by decide, rfl⟩
    | 3, _ => exact ⟨[98, 58], by decide, rfl⟩
    | 4, _ => exact ⟨[], by decide, rfl⟩
  refine ⟨x, o, hx, ho, ?_⟩
  have nl : newL true [] (SH H) = some (.own (H.length + 1), SH H ++ [.lst []]) := by rw [nl_own (Nat.zero_le _), SH_len]
  have a1 : smV K.nd K.vd "append" (SH H ++ [.lst []]) (.own 0) [.tuple [.str x, ov o, .own (H.length + 1)]] = some (.none, SH (H ++ [(x, o, [])])) := by
    rw [sm_app (vs := ents 1 H) rfl (by rw [ents_len]; omega)]
    show some (V.none, OObj.lst (ents 1 H ++ [hd0 (H.length + 1) (x, o, [])]) :: (H.map pl ++ [.lst []])) = some (V.none, OObj.lst (ents 1 (H ++ [(x, o, [])])) :: (H ++ [(x, o, [])]).map pl)
    rw [ents_app, Nat.add_comm 1, List.map_append]; rfl
  have e3 : execM K (Q K (n+1)) (heR l (some (.own 0)) nu (some (.int (r : Int))) (some (ov o)) pa wo te) (SH H) (.expr (.sm (.var "heads") "append" (.cons (.tuple (.cons (.idx (.list false (.cons (.str [65]) (.cons (.str [97]) (.cons (.str [65, 98]) (.cons (.str [98, 58]) (.cons (.str []) .nil)))))) (.bin .Mod (.var "rest") (.int 5))) (.cons (.var "own") (.cons (.list true .nil) .nil)))) .nil))) =
      some (.next, heR l (some (.own 0)) nu (some (.int (r : Int))) (some (ov o)) pa wo te, SH (H ++ [(x, o, [])])) :=
    x_expr (e_sm (e_var rfl) (id_app (vs := ents 1 H) rfl) (es_cons (e_tuple (es_cons (e_idx (e_list (es_cons e_str (es_cons e_str (es_cons e_str (es_cons e_str (es_cons e_str es_nil))))) (nl_not (by show 5 ≤ 1000; decide))) (e_bin (e_var rfl) e_int (m_nat (m := 5) (by decide))) ix) (es_cons (e_var rfl) (es_cons (e_list es_nil nl) es_nil))) (by show 3 ≤ 1000; decide)) es_nil) a1)
  exact x_cons e1 (x_cons e2 (x_cons e3 x_nil))
theorem SH_at (G : List Hd) (h : Hd) : (SH (G ++ [h]))[G.length + 1]? = some (pl h) := by
  show ((G ++ [h]).map pl)[G.length]? = _
  rw [List.map_append, ← List.length_map (as := G) (f := pl)]; exact get_last
theorem SH_set (G : List Hd) (x : Tx) (o : Option Tx) (ps qs : List Par) : (SH (G ++ [(x, o, ps)])).set (G.length + 1) (.lst (qs.map pv)) = SH (G ++ [(x, o, qs)]) := by
  show OObj.lst (ents 1 (G ++ [(x, o, ps)])) :: ((G ++ [(x, o, ps)]).map pl).set G.length (.lst (qs.map pv)) = OObj.lst (ents 1 (G ++ [(x, o, qs)])) :: (G ++ [(x, o, qs)]).map pl
  rw [ents_app, ents_app, List.map_append, List.map_append, ← List.length_map (as := G) (f := pl)]
  congr 1
  exact set_last
theorem new_par {n : Nat} {G : List Hd} {x : Tx} {o : Option Tx} {ps : List Par} {l : V} {ow pa wo te : Option V} {r m : Nat} {y : Int} (hy : Int.fmod y 4 = (m : Int)) (hm : m = 1 ∨ m = 2 ∨ m = 3) (hl : ps.length < 10) : ∃ p, POk p ∧ p.1.getLast? = some (48 + ps.length) ∧ ∃ pa' wo' te',
    execsM K (Q K (n+1)) (heR l (some (.own 0)) (some (.int y)) (some (.int (r : Int))) ow pa wo te) (SH (G ++ [(x, o, ps)])) heP = some (.next, heR l (some (.own 0)) (some (.int y)) (some (.int (r : Int))) ow pa' wo' te', SH (G ++ [(x, o, ps ++ [p])])) := by
  obtain ⟨t, t1, t2, tx⟩ := text_ok (K := K) (n := n) (σ := SH (G ++ [(x, o, ps)])) (S := S12) r (by decide) (by decide)
  have ok := told_sok t1 t2
  obtain ⟨u, lu, cu, mu⟩ : ∃ u : Tx, u.length ≤ 2 ∧ (∀ c ∈ u, c = 95) ∧ binV (SH (G ++ [(x, o, ps)])) .Mult (.str [95]) (.int ((m : Int) - 1)) = some (.str u) := by
    rcases hm with rfl | rfl | rfl
    · exact ⟨[], by decide, by decide, rfl⟩
    · exact ⟨[95], by decide, by decide, rfl⟩
    · exact ⟨[95, 95], by decide, by decide, rfl⟩
  have id1 : idxV (SH (G ++ [(x, o, ps)])) (.str [48, 49, 50, 51, 52, 53, 54, 55, 56, 57]) (.int (ps.length : Int)) = some (.str [48 + ps.length]) := by
    rw [idx_in (x := [48, 49, 50, 51, 52, 53, 54, 55, 56, 57]) (k := ps.length) hl (by decide)]
    have : ∀ k (h : k < 10), ([48, 49, 50, 51, 52, 53, 54, 55, 56, 57] : List Nat)[k] = 48 + k := by decide
    rw [this _ hl]
  have g1 := SH_at G (x, o, ps)
  have g1 : (SH (G ++ [(x, o, ps)]))[G.length + 1]? = some (.lst (ps.map pv)) := g1
  have i0 : idxV (SH (G ++ [(x, o, ps)])) (.own 0) (.int (-1)) = some (hd0 (G.length + 1) (x, o, ps)) := by
    show Option.bind (some (ents 1 (G ++ [(x, o, ps)]))) (fun vs => seqAt vs (-1)) = _
    rw [Option.bind_some, ents_app, at_last, Nat.add_comm]
  have a1 : smV K.nd K.vd "append" (SH (G ++ [(x, o, ps)])) (.own (G.length + 1)) [pv ([107] ++ u ++ [48 + ps.length], none)] = some (.none, SH (G ++ [(x, o, ps ++ [([107] ++ u ++ [48 + ps.length], none)])])) ∧
      smV K.nd K.vd "append" (SH (G ++ [(x, o, ps)])) (.own (G.length + 1)) [pv ([107] ++ u ++ [48 + ps.length], some t)] = some (.none, SH (G ++ [(x, o, ps ++ [([107] ++ u ++ [48 + ps.length], some t)])])) := by
    have hl2 : (ps.map pv).length ≤ 1000 := by rw [List.length_map]; omega
    have e : ∀ p : Par, ps.map pv ++ [pv p] = (ps ++ [p]).map pv := fun p => by rw [List.map_append]; rfl
    rw [sm_app g1 hl2, sm_app g1 hl2, e, e, SH_set, SH_set]
    exact ⟨rfl, rfl⟩
  have wok : WOk ([107] ++ u ++ [48 + ps.length]) := by
    refine ⟨rfl, by rw [List.length_append, List.length_append]; show 1 + _ + 1 ≤ 4; omega, fun c hc => ?_⟩
    rcases List.mem_append.mp hc with hc | hc
    · rcases List.mem_append.mp hc with hc | hc
      · rw [List.mem_singleton.mp hc]; decide
      · rw [cu c hc]; decide
    · rw [List.mem_singleton.mp hc]; omega
  have lst : ([107] ++ u ++ [48 + ps.length]).getLast? = some (48 + ps.length) := List.getLast?_concat
  have bi1 : biV "len" (SH (G ++ [(x, o, ps)])) [.own (G.length + 1)] = some (.int (ps.length : Int), SH (G ++ [(x, o, ps)])) := by
    show Option.or (Option.bind (lstOf _ (.own (G.length + 1))) _) _ = _
    rw [lo_own g1, Option.bind_some, if_pos (by rw [List.length_map]; omega), List.length_map]; rfl
  have sb : binV (SH (G ++ [(x, o, ps)])) .Sub (.int (m : Int)) (.int 1) = some (.int ((m : Int) - 1)) := rfl
  have e1 : execM K (Q K (n+1)) (heR l (some (.own 0)) (some (.int y)) (some (.int (r : Int))) ow pa wo te) (SH (G ++ [(x, o, ps)])) (.assign (.one "params") (.idx (.idx (.var "heads") (.neg (.int 1))) (.int 2))) =
      some (.next, heR l (some (.own 0)) (some (.int y)) (some (.int (r : Int))) ow (some (.own (G.length + 1))) wo te, SH (G ++ [(x, o, ps)])) := x_assign (e_idx (e_idx (e_var rfl) (e_neg e_int) i0) e_int rfl) rfl
  have e2 : execM K (Q K (n+1)) (heR l (some (.own 0)) (some (.int y)) (some (.int (r : Int))) ow (some (.own (G.length + 1))) wo te) (SH (G ++ [(x, o, ps)])) (.assign (.one "word") (.bin .Add (.bin .Add (.str [107]) (.bin .Mult (.str [95]) (.bin .Sub (.bin .Mod (.var "number") (.int 4)) (.int 1)))) (.idx (.str [48, 49, 50, 51, 52, 53, 54, 55, 56, 57]) (.bi "len" (.cons (.var "params") .nil))))) =
      some (.next, heR l (some (.own 0)) (some (.int y)) (some (.int (r : Int))) ow (some (.own (G.length + 1))) (some (.str ([107] ++ u ++ [48 + ps.length]))) te, SH (G ++ [(x, o, ps)])) :=
    x_assign (e_bin (e_bin e_str (e_bin e_str (e_bin (e_bin (e_var rfl) e_int (b_mod (by decide) hy)) e_int sb) mu) (add_str (by show 1 + _ ≤ _; omega) rfl)) (e_idx e_str (e_bi (es_cons (e_var rfl) es_nil) bi1) id1) (add_str (by rw [List.length_append]; show 1 + _ + 1 ≤ _; omega) rfl)) rfl
  have e3 : execM K (Q K (n+1)) (heR l (some (.own 0)) (some (.int y)) (some (.int (r : Int))) ow (some (.own (G.length + 1))) (some (.str ([107] ++ u ++ [48 + ps.length]))) te) (SH (G ++ [(x, o, ps)])) (.assign (.one "told") (.call "_law_text" (.cons (.var "rest") (.cons (.str [97, 34, 92, 59, 32, 61, 44, 58, 9, 233, 255, 107]) .nil)))) =
      some (.next, heR l (some (.own 0)) (some (.int y)) (some (.int (r : Int))) ow (some (.own (G.length + 1))) (some (.str ([107] ++ u ++ [48 + ps.length]))) (some (.str t)), SH (G ++ [(x, o, ps)])) := x_assign (e_call (es_cons (e_var rfl) (es_cons e_str es_nil)) tx) rfl
  obtain ⟨b, e4⟩ := maybe (K := K) (O := Q K (n+1)) (σ := SH (G ++ [(x, o, ps)])) (ρ := heR l (some (.own 0)) (some (.int y)) (some (.int (r : Int))) ow (some (.own (G.length + 1))) (some (.str ([107] ++ u ++ [48 + ps.length]))) (some (.str t)))
    (ρ₁ := heR l (some (.own 0)) (some (.int y)) (some (.int (r : Int))) ow (some (.own (G.length + 1))) (some (.str ([107] ++ u ++ [48 + ps.length]))) (some .none)) (q := "told") (t := t) (r := r) (m := 4) rfl rfl rfl (by decide) (by decide) (fun c m => (ok.2 c m).1)
  have ia := id_app (K := K) g1
  cases b with
  | true =>
    rw [if_pos rfl] at e4
    exact ⟨([107] ++ u ++ [48 + ps.length], none), ⟨wok, nofun⟩, lst, _, _, _, x_cons e1 (x_cons e2 (x_cons e3 (x_cons e4 (x_cons (x_expr (e_sm (e_var rfl) ia (es_cons (e_tuple (es_cons (e_var rfl) (es_cons (e_var rfl) es_nil)) (by show 2 ≤ 1000; decide)) es_nil) a1.1)) x_nil))))⟩
  | false =>
    rw [if_neg Bool.false_ne_true] at e4
    exact ⟨([107] ++ u ++ [48 + ps.length], some t), ⟨wok, fun v e => by cases e; exact ok⟩, lst, _, _, _, x_cons e1 (x_cons e2 (x_cons e3 (x_cons e4 (x_cons (x_expr (e_sm (e_var rfl) ia (es_cons (e_tuple (es_cons (e_var rfl) (es_cons (e_var rfl) es_nil)) (by show 2 ≤ 1000; decide)) es_nil) a1.2)) x_nil))))⟩

structure HI (h : Hd) : Prop where
  n : h.1 ∈ N5
  o : OwnOk h.2.1
  p : ∀ p ∈ h.2.2, POk p
  g : h.2.2.map (fun p => p.1.getLast?) = (List.range h.2.2.length).map (fun i => some (48 + i))
theorem HI.ok {h : Hd} (H : HI h) (l : h.2.2.length ≤ 9) : HOk h := by
  refine ⟨H.n, H.o, H.p, ?_, l⟩
  have e : (h.2.2.map (·.1)).map List.getLast? = (List.range h.2.2.length).map (fun i => some (48 + i)) := by rw [List.map_map]; exact H.g
  have nd : ((List.range h.2.2.length).map (fun i => some (48 + i))).Nodup := List.Pairwise.map _ (fun a b hab e => hab (by injection e with e; omega)) List.nodup_range
  rw [← e] at nd
  exact List.Pairwise.of_map List.getLast? (fun a b hab e => hab (congrArg _ e)) nd
theorem HI.add {x : Tx} {o : Option Tx} {ps : List Par} {p : Par} (H : HI (x, o, ps)) (hp : POk p) (hg : p.1.getLast? = some (48 + ps.length)) : HI (x, o, ps ++ [p]) := by
  refine ⟨H.n, H.o, fun q hq => ?_, ?_⟩
  · rcases List.mem_append.mp hq with hq | hq
    · exact H.p q hq
    · rw [List.mem_singleton.mp hq]; exact hp
  · show (ps ++ [p]).map (fun p => p.1.getLast?) = (List.range (ps ++ [p]).length).map (fun i => some (48 + i))
    rw [List.map_append, H.g, List.length_append]
    show _ = (List.range (ps.length + 1)).map (fun i => some (48 + i))
    rw [List.range_succ, List.map_append]
    show _ ++ [p.1.getLast?] = _
    rw [hg]; rfl
theorem HSum_app (H : List Hd) (h : Hd) : HSum (H ++ [h]) = HSum H + (1 + h.2.2.length) := by
  unfold HSum
  rw [List.map_append, List.sum_append]; rfl
theorem HSum_len : ∀ H : List Hd, H.length ≤ HSum H
  | [] => Nat.zero_le _
  | h :: r => by
    have := HSum_len r
    show r.length + 1 ≤ 1 + h.2.2.length + HSum r
    omega
theorem HSum_mem : ∀ {H : List Hd} {h : Hd}, h ∈ H → 1 + h.2.2.length ≤ HSum H
  | g :: r, h, hm => by
    show _ ≤ 1 + g.2.2.length + HSum r
    rcases List.mem_cons.mp hm with rfl | hm
    · omega
    · have := HSum_mem hm
      omega
theorem he_turn {n : Nat} {H : List Hd} {l : V} {y : Int} {nu re ow pa wo te : Option V} (hH : ∀ h ∈ H, HI h) (hs : HSum H ≤ 9) (hy : H = [] → y = 20) : ∃ H' re' ow' pa' wo' te', (∀ h ∈ H', HI h) ∧ HSum H' = HSum H + 1 ∧ H' ≠ [] ∧
    execsM K (Q K (n+1)) (heR l (some (.own 0)) (some (.int y)) re ow pa wo te) (SH H) heB = some (.next, heR l (some (.own 0)) (some (.int y)) re' ow' pa' wo' te', SH H') := by
  obtain ⟨r0, -, h0⟩ := fmod_nat y 65536 (by decide)
  obtain ⟨m, hm, h4⟩ := fmod_nat y 4 (by decide)
  have e1 : execM K (Q K (n+1)) (heR l (some (.own 0)) (some (.int y)) re ow pa wo te) (SH H) (.assign (.one "rest") (.bin .FloorDiv (.bin .Mod (.var "number") (.int 65536)) (.int 4))) =
      some (.next, heR l (some (.own 0)) (some (.int y)) (some (.int ((r0 / 4 : Nat) : Int))) ow pa wo te, SH H) := x_assign (e_bin (e_bin (e_var rfl) e_int (b_mod (by decide) h0)) e_int (d_nat (m := 4) (by decide) (by decide))) rfl
  have e2 : ∀ {σ : Store}, evalM K (Q K (n+1)) (heR l (some (.own 0)) (some (.int y)) (some (.int ((r0 / 4 : Nat) : Int))) ow pa wo te) σ (.bin .Mod (.var "number") (.int 4)) = some (.int (m : Int), σ) := e_bin (e_var rfl) e_int (b_mod (by decide) h4)
  by_cases hm0 : m = 0
  · subst hm0
    obtain ⟨x, o, hx, ho, q⟩ := new_head (K := K) (n := n) (H := H) (l := l) (nu := some (.int y)) (ow := ow) (pa := pa) (wo := wo) (te := te) (r := r0 / 4) (by have := HSum_len H; omega)
    refine ⟨H ++ [(x, o, [])], _, _, _, _, _, fun h hh => ?_, HSum_app .., by simp, x_cons e1 (x_cons (x_ite_t (t_cmp e2 e_int eq_int) q) x_nil)⟩
    rcases List.mem_append.mp hh with hh | hh
    · exact hH h hh
    · rw [List.mem_singleton.mp hh]; exact ⟨hx, ho, fun _ m => (nomatch m), rfl⟩
  · have q2 : cmpV (SH H) .Eq (.int (m : Int)) (.int 0) = some (.bool false) := by
      rw [eq_int]
      have : ((m : Int) == 0) = false := beq_eq_false_iff_ne.mpr (by omega)
      rw [this]
    have hc : H = [] ∨ ∃ G h, H = G ++ [h] := by
      rcases List.eq_nil_or_concat H with e | ⟨G, h, e⟩
      · exact .inl e
      · exact .inr ⟨G, h, by rw [e, List.concat_eq_append]⟩
    rcases hc with rfl | ⟨G, ⟨x, o, ps⟩, rfl⟩
    · rw [hy rfl] at h4
      exact absurd (Int.ofNat.inj h4).symm hm0
    · have hh := hH (x, o, ps) (List.mem_append_right _ (.head _))
      have hl : ps.length < 10 := by
        have := HSum_mem (H := G ++ [(x, o, ps)]) (h := (x, o, ps)) (List.mem_append_right _ (.head _))
        have this : 1 + ps.length ≤ HSum (G ++ [(x, o, ps)]) := this
        omega
      obtain ⟨p, hp, hg, pa', wo', te', q⟩ := new_par (K := K) (n := n) (G := G) (x := x) (o := o) (ps := ps) (l := l) (ow := ow) (pa := pa) (wo := wo) (te := te) (r := r0 / 4) (m := m) h4 (by omega) hl
      refine ⟨G ++ [(x, o, ps ++ [p])], _, _, _, _, _, fun h hh' => ?_, ?_, by simp, x_cons e1 (x_cons (x_ite_f (t_cmp e2 e_int q2) q) x_nil)⟩
      · rcases List.mem_append.mp hh' with hh' | hh'
        · exact hH h (List.mem_append_left _ hh')
        · rw [List.mem_singleton.mp hh']; exact hh.add hp hg
      · rw [HSum_app, HSum_app]
        show _ + (1 + (ps ++ [p]).length) = _ + (1 + ps.length) + 1
        rw [List.length_append]; rfl
theorem heads_ok {n : Nat} (r : List Int) (hr : r.length ≤ 9) : ∃ H, HOks H ∧ HSum H ≤ 10 ∧ Q K (n+2) "_law_heads" [.list (V.int 20 :: r.map V.int)] [] [] = some (.list (H.map hv), []) := by
  have e1 : execM K (Q K (n+1)) (heR (.list (V.int 20 :: r.map V.int)) none none none none none none none) [] (.assign (.one "heads") (.list true .nil)) = some (.next, heR (.list (V.int 20 :: r.map V.int)) (some (.own 0)) none none none none none none, SH []) := x_assign (e_list es_nil (nl_own (Nat.zero_le _))) rfl
  obtain ⟨ρ', σ', e2, H, nu, re, ow, pa, wo, te, h1, h2, h3, rfl, rfl⟩ := x_fold (K := K) (O := Q K (n+1)) (ρ := heR (.list (V.int 20 :: r.map V.int)) (some (.own 0)) none none none none none none) (σ₀ := SH []) (t := .one "number") (it := .var "numbers") (ms := heB) V.int (r := 20 :: r)
    (fun d ρ σ' => ∃ (H : List Hd) (nu re ow pa wo te : Option V), (∀ h ∈ H, HI h) ∧ HSum H = d.length ∧ (H = [] → d = []) ∧ ρ = heR (.list (V.int 20 :: r.map V.int)) (some (.own 0)) nu re ow pa wo te ∧ σ' = SH H) (e_var rfl) rfl (fun _ _ _ _ => rfl)
    (fun d y e hw ρ σ' ⟨H, nu, re, ow, pa, wo, te, h1, h2, h3, q1, q2⟩ => by
      subst q1 q2
      have hd : d.length ≤ 9 := by
        have := congrArg List.length hw
        rw [List.length_cons, List.length_append, List.length_cons] at this
        omega
      obtain ⟨H', re', ow', pa', wo', te', k1, k2, k3, q⟩ := he_turn (K := K) (n := n) (H := H) (l := .list (V.int 20 :: r.map V.int)) (y := y) (nu := nu) (re := re) (ow := ow) (pa := pa) (wo := wo) (te := te) h1 (by omega) (fun e => by
        have := h3 e
        subst this
        injection hw with hw _
        exact hw.symm)
      refine ⟨heR (.list (V.int 20 :: r.map V.int)) (some (.own 0)) (some (.int y)) re ow pa wo te, _, _, rfl, q, H', _, _, _, _, _, _, k1, ?_, fun e => absurd e k3, rfl, rfl⟩
      rw [k2, h2, List.length_append]; rfl) ⟨[], _, _, _, _, _, _, fun _ m => (nomatch m), rfl, fun _ => rfl, rfl, rfl⟩
  have hs : HSum H ≤ 10 := by rw [h2, List.length_cons]; omega
  refine ⟨H, ⟨Nat.le_trans (HSum_len H) hs, fun h hh => (h1 h hh).ok (by have := HSum_mem hh; omega)⟩, hs, call_of (fn := fn_law_heads K) (ρ := heR (.list (V.int 20 :: r.map V.int)) none none none none none none none) (τ := []) (v := .own 0) rfl (by rfl) ⟨_, x_cons e1 (x_cons e2 (x_stop (x_ret (e_var rfl))))⟩ (fin_cut (τ := []) rfl rfl (fz_own (vs := ents 1 H) (by decide) rfl (fz_ents H 1 (Nat.zero_le _) fun j h e => ?_)))⟩
  show (OObj.lst (ents 1 H) :: H.map pl)[1 + j]? = _
  rw [Nat.add_comm, List.getElem?_cons_succ, List.getElem?_map, e]; rfl
end

section

variable {K : Cfg}
noncomputable def rv (h : Hd) : V := .tuple [ov h.2.1, .list (h.2.2.map pv)]
theorem rv_plain {h : Hd} (H : HOk h) : (rv h).plain = true ∧ (rv h).deep ≤ 3 := by
  obtain ⟨a, b⟩ := plains_pv H.p
  constructor
  · show ((ov h.2.1).plain && (V.plains (h.2.2.map pv) && true)) = true
    rw [a, plain_ov fun t e => (H.o t e).1]; rfl
  · show max (ov h.2.1).deep (max (V.deeps (h.2.2.map pv) + 1) 0) + 1 ≤ 3
    rw [deep_ov]; omega
theorem fv_plain {h : Hd} (H : HOk h) : (fv h).plain = true ∧ (fv h).deep ≤ 4 := by
  obtain ⟨a, b⟩ := rv_plain H
  constructor
  · show ((V.str h.1).plain && ((rv h).plain && true)) = true
    rw [a, str_plain fun c m => Nat.lt_trans ((n5_ok H.n).2 c m).2 (by decide)]; rfl
  · show max 0 (max (rv h).deep 0) + 1 ≤ 4
    omega
theorem plains_of {α : Type} {g : α → V} {k : Nat} : ∀ {l : List α}, (∀ x ∈ l, (g x).plain = true ∧ (g x).deep ≤ k) → V.plains (l.map g) = true ∧ V.deeps (l.map g) ≤ k
  | [], _ => ⟨rfl, Nat.zero_le _⟩
  | x :: r, h => by
    obtain ⟨a, b⟩ := plains_of fun y hy => h y (.tail _ hy)
    obtain ⟨c, d⟩ := h x (.head _)
    constructor
    · show ((g x).plain && V.plains (r.map g)) = true
      rw [a, c]; rfl
    · exact Nat.max_le.mpr ⟨d, b⟩
theorem ne_self {σ : Store} {α : Type} {g : α → V} {k : Nat} {l : List α} (h : ∀ x ∈ l, (g x).plain = true ∧ (g x).deep ≤ k) (hk : k ≤ 7) : cmpV σ .NotEq (.list (l.map g)) (.list (l.map g)) = some (.bool false) := by
  obtain ⟨a, b⟩ := plains_of h
  have d : (V.list (l.map g)).deep ≤ 8 := by show V.deeps (l.map g) + 1 ≤ 8; omega
  have e : eqV (thawed σ (.list (l.map g))) (thawed σ (.list (l.map g))) = some (V.eqb (.list (l.map g)) (.list (l.map g))) := eqV_plain (a := .list (l.map g)) (b := .list (l.map g)) a a d d
  rw [V.eqb_refl] at e
  exact c_ne e
noncomputable def laR (a d f s w x y : Option V) : Rho := [("script", a), ("drawn", d), ("forms", f), ("sent", s), ("wire", w), ("asked", x), ("spelled", y)]
noncomputable def laB : MSs := (.cons (.ite (.cmp .NotEq (.comp (.call "_law_read" (.cons (.var "x") .nil)) (.one "x") (.meth (.var "sent") "get_all" (.cons (.var "asked") .nil) .nil) .nil) (.comp (.idx (.var "form") (.int 1)) (.one "form") (.var "forms") (.cons (.cmp .In (.idx (.var "form") (.int 0)) (.var "spelled")) .nil))) (.cons (.ret (.bool false)) .nil) .nil) .nil)
noncomputable def asks : List (Tx × List Tx) := [([65], [[65], [97]]), ([97, 66], [[65, 98]]), ([66, 58], [[98, 58]]), ([], [[]])]
noncomputable def av (p : Tx × List Tx) : V := .tuple [.str p.1, .list (p.2.map .str)]
theorem asks_ok {p : Tx × List Tx} (h : p ∈ asks) : NmOk p.1 ∧ (∀ x ∈ p.2, x ∈ N5) ∧ ∀ x ∈ N5, (lw x == lw p.1) = p.2.any fun y => y == x := by
  have key : ∀ p ∈ asks, (p.1.length ≤ 2 ∧ ∀ c ∈ p.1, 32 ≤ c ∧ c < 127) ∧ (∀ x ∈ p.2, x ∈ N5) ∧ ∀ x ∈ N5, (lw x == lw p.1) = p.2.any fun y => y == x := by decide
  obtain ⟨⟨a, b⟩, c⟩ := key p h
  exact ⟨⟨Nat.le_trans a (by decide), b⟩, c⟩
theorem in_strs {σ : Store} {x : Tx} {l : List Tx} (hx : x ∈ N5) (hl : ∀ y ∈ l, y ∈ N5) : cmpV σ .In (.str x) (.list (l.map .str)) = some (.bool (l.any fun y => y == x)) := by
  have n256 : ∀ y ∈ N5, (V.str y).plain = true := fun y hy => str_plain fun c m => Nat.lt_trans ((n5_ok hy).2 c m).2 (by decide)
  have hp : V.plains (l.map .str) = true ∧ V.deeps (l.map .str) ≤ 0 := plains_of fun y hy => ⟨n256 y (hl y hy), Nat.le_refl 0⟩
  show Option.map V.bool (Option.or (inV (.str x) (l.map .str)) _) = _
  unfold inV
  rw [if_pos (by rw [n256 x hx, hp.1, decide_eq_true (show (V.str x).deep ≤ 8 from Nat.zero_le _), decide_eq_true (Nat.le_trans hp.2 (Nat.zero_le 8))]; rfl), List.any_map]
  rfl
theorem la_turn {n : Nat} {H : List Hd} {a d w : Option V} {p : Tx × List Tx} (hH : HOks H) (hp : p ∈ asks) :
    execsM K (Q K (n+3)) (laR a d (some (.list ((H.map du).map fv))) (some (.own 1)) w (some (.str p.1)) (some (.list (p.2.map .str)))) (S3 [] (rows H)) laB = some (.next, laR a d (some (.list ((H.map du).map fv))) (some (.own 1)) w (some (.str p.1)) (some (.list (p.2.map .str))), S3 [] (rows H)) := by
  obtain ⟨ok1, ok2, ok3⟩ := asks_ok hp
  have hcl : Closed (S3 [] (rows H)) := S3_closed rfl
  have ga := getall_ok (K := K) (n := n + 1) (σ := []) ok1 hH
  have ii := (S3_tb (σ := []) (hs := rows H)).inst
  have lF : (H.filter fun h => lw h.1 == lw p.1).length ≤ 1000 := Nat.le_trans (List.length_filter_le ..) (Nat.le_trans hH.1 (by decide))
  have hF : ∀ h ∈ H.filter (fun h => lw h.1 == lw p.1), HOk h := fun h hh => hH.2 h (List.mem_filter.mp hh).1
  generalize S3 [] (rows H) = τ at *
  have c1 : evalM K (Q K (n+3)) (laR a d (some (.list ((H.map du).map fv))) (some (.own 1)) w (some (.str p.1)) (some (.list (p.2.map .str)))) τ (.comp (.call "_law_read" (.cons (.var "x") .nil)) (.one "x") (.meth (.var "sent") "get_all" (.cons (.var "asked") .nil) .nil) .nil) = some (.list ((H.filter fun h => lw h.1 == lw p.1).map fun h => rv (du h)), τ) := by
    refine e_comp1 (fun ρ => ∃ b, ρ = [(".0", none), ("x", b)] ++ laR a d (some (.list ((H.map du).map fv))) (some (.own 1)) w (some (.str p.1)) (some (.list (p.2.map .str)))) (fun h => V.str (val h)) (fun h => [rv (du h)]) (e_meth (e_var rfl) ii (es_cons (e_var rfl) es_nil) k_nil hm_getall ga) rfl rfl (fun h hh ρ ⟨b, e⟩ => ?_) ⟨none, rfl⟩ lF (flat_one _ _)
    subst e
    exact tr_yes (w := rv (du h)) (ρ₁ := [(".0", none), ("x", some (V.str (val h)))] ++ laR a d (some (.list ((H.map du).map fv))) (some (.own 1)) w (some (.str p.1)) (some (.list (p.2.map .str)))) rfl ⟨_, rfl⟩ if_nil (e_call (es_cons (e_var rfl) es_nil) (read_ok hcl (hF h hh))) rfl
  have c2 : evalM K (Q K (n+3)) (laR a d (some (.list ((H.map du).map fv))) (some (.own 1)) w (some (.str p.1)) (some (.list (p.2.map .str)))) τ (.comp (.idx (.var "form") (.int 1)) (.one "form") (.var "forms") (.cons (.cmp .In (.idx (.var "form") (.int 0)) (.var "spelled")) .nil)) = some (.list ((H.filter fun h => lw h.1 == lw p.1).map fun h => rv (du h)), τ) := by
    refine e_comp1 (fun ρ => ∃ b, ρ = [(".0", none), ("form", b)] ++ laR a d (some (.list ((H.map du).map fv))) (some (.own 1)) w (some (.str p.1)) (some (.list (p.2.map .str)))) (fun h => fv (du h)) (fun h => if lw h.1 == lw p.1 then [rv (du h)] else []) (vs := H) (e_var rfl) (by rw [List.map_map]; rfl) rfl (fun h hh ρ ⟨b, e⟩ => ?_) ⟨none, rfl⟩ (Nat.le_trans hH.1 (by decide)) (flat_if _ _ _)
    subst e
    have st : setT ([(".0", none), ("form", b)] ++ laR a d (some (.list ((H.map du).map fv))) (some (.own 1)) w (some (.str p.1)) (some (.list (p.2.map .str)))) (.one "form") (fv (du h)) = some ([(".0", none), ("form", some (fv (du h)))] ++ laR a d (some (.list ((H.map du).map fv))) (some (.own 1)) w (some (.str p.1)) (some (.list (p.2.map .str)))) := rfl
    have q1 := in_strs (σ := τ) (hH.2 h hh).n ok2
    rw [← ok3 h.1 (hH.2 h hh).n] at q1
    cases e : (lw h.1 == lw p.1) with
    | true =>
      rw [e] at q1
      exact tr_yes (w := rv (du h)) st ⟨_, rfl⟩ (if_one (t_cmp (e_idx (e_var rfl) e_int rfl) (e_var rfl) q1)) (e_idx (e_var rfl) e_int rfl) rfl
    | false =>
      rw [e] at q1
      exact tr_no st ⟨_, rfl⟩ (if_one (t_cmp (e_idx (e_var rfl) e_int rfl) (e_var rfl) q1)) rfl
  have q3 := ne_self (σ := τ) (g := fun h => rv (du h)) (k := 3) (fun h hh => rv_plain (du_ok (hF h hh))) (by decide)
  exact x_cons (x_ite_f (t_cmp c1 c2 q3) x_nil) x_nil
theorem law_ok (n : Nat) (is : List Int) (hl : is.length ≤ 63) : Q K (n+5) "law" [.list (is.map .int)] [] [] = some (.bool true, []) := by
  obtain ⟨H, hH, hs, hh⟩ := heads_ok (K := K) (n := n + 2) (is.take 9) (List.length_take_le ..)
  have hD : HOks (H.map du) := ⟨by rw [List.length_map]; exact hH.1, fun h m => by obtain ⟨g, hg, rfl⟩ := List.mem_map.mp m; exact du_ok (hH.2 g hg)⟩
  have c0 : Closed [] := rfl
  have cS : Closed (S3 [] (rows H)) := S3_closed rfl
  have d1 := due_ok (K := K) (n := n + 3) c0 hH
  have t1 := table_ok (K := K) (n := n + 1) c0 hH
  have b1 := bytes_ok (K := K) (n := n + 2) (σ := []) hH
  have l1 := lines_ok (K := K) (n := n + 2) cS hH hs
  have q1 := ne_self (σ := S3 [] (rows H)) (g := fv) (k := 4) (l := H.map du) (fun h m => fv_plain (hD.2 h m)) (by decide)
  have t2 := table_ok (K := K) (n := n + 1) cS hD
  have b2 := bytes_ok (K := K) (n := n + 2) (σ := S3 [] (rows H)) hD
  have i1 := (S3_tb (σ := []) (hs := rows H)).inst
  have i2 := (S3_tb (σ := S3 [] (rows H)) (hs := rows (H.map du))).inst
  have et : txt (H.map du) = txt H := by
    unfold txt
    rw [List.map_map]
    congr 2
    refine List.map_congr_left fun h _ => ?_
    show (du h).1 ++ [58, 32] ++ val (du h) = _
    rw [val_du]; rfl
  rw [et] at b2
  have q2 : cmpV (S3 (S3 [] (rows H)) (rows (H.map du))) .Eq (.bytes (txt H)) (.bytes (txt H)) = some (.bool true) := by
    show some (V.bool (txt H == txt H)) = _
    rw [beq_self_eq_true]
  have la : (is.map V.int).length ≤ 1000 := by rw [List.length_map]; omega
  have s1 : sliceV [] (.list (is.map .int)) none (some 9) = some (.list ((is.take 9).map .int)) := by
    show Option.or (if (is.map V.int).length ≤ 1000 then some (V.list (pickL (is.map V.int) none (some ((9 : Nat) : Int)))) else none) _ = _
    rw [if_pos la, pk_to, ← List.map_take]; rfl
  have l9 : ((is.take 9).map V.int).length ≤ 9 := by rw [List.length_map]; exact List.length_take_le ..
  have a1 : binV [] .Add (.list [.int 20]) (.list ((is.take 9).map .int)) = some (.list (V.int 20 :: (is.take 9).map .int)) := by
    show Option.or (if 1 + ((is.take 9).map V.int).length ≤ 1000 then some (V.list ([V.int 20] ++ (is.take 9).map V.int)) else none) _ = _
    rw [if_pos (by omega)]; rfl
  have e1 : execM K (Q K (n+4)) (laR (some (.list (is.map .int))) none none none none none none) [] (.assign (.one "drawn") (.call "_law_heads" (.cons (.bin .Add (.list false (.cons (.int 20) .nil)) (.slice (.var "script") .no (.yes (.int 9)))) .nil))) =
      some (.next, laR (some (.list (is.map .int))) (some (.list (H.map hv))) none none none none none, []) :=
    x_assign (e_call (es_cons (e_bin (e_list (es_cons e_int es_nil) (nl_not (by show 1 ≤ 1000; decide))) (e_slice (e_var rfl) o_no (o_yes e_int) rfl rfl s1) a1) es_nil) hh) rfl
  have e2 : execM K (Q K (n+4)) (laR (some (.list (is.map .int))) (some (.list (H.map hv))) none none none none none) [] (.assign (.one "forms") (.call "_law_due" (.cons (.var "drawn") .nil))) =
      some (.next, laR (some (.list (is.map .int))) (some (.list (H.map hv))) (some (.list ((H.map du).map fv))) none none none none, []) := x_assign (e_call (es_cons (e_var rfl) es_nil) d1) rfl
  have e3 : execM K (Q K (n+4)) (laR (some (.list (is.map .int))) (some (.list (H.map hv))) (some (.list ((H.map du).map fv))) none none none none) [] (.assign (.one "sent") (.call "_law_table" (.cons (.var "drawn") .nil))) =
      some (.next, laR (some (.list (is.map .int))) (some (.list (H.map hv))) (some (.list ((H.map du).map fv))) (some (.own 1)) none none none, S3 [] (rows H)) := x_assign (e_call (es_cons (e_var rfl) es_nil) t1) rfl
  have e4 : execM K (Q K (n+4)) (laR (some (.list (is.map .int))) (some (.list (H.map hv))) (some (.list ((H.map du).map fv))) (some (.own 1)) none none none) (S3 [] (rows H)) (.assign (.one "wire") (.conv false (.var "sent"))) =
      some (.next, laR (some (.list (is.map .int))) (some (.list (H.map hv))) (some (.list ((H.map du).map fv))) (some (.own 1)) (some (.bytes (txt H))) none none, S3 [] (rows H)) := x_assign (e_conv_f (e_var rfl) i1 b1) rfl
  have e5 : execM K (Q K (n+4)) (laR (some (.list (is.map .int))) (some (.list (H.map hv))) (some (.list ((H.map du).map fv))) (some (.own 1)) (some (.bytes (txt H))) none none) (S3 [] (rows H)) (.ite (.cmp .NotEq (.call "_law_lines" (.cons (.var "wire") .nil)) (.var "forms")) (.cons (.ret (.bool false)) .nil) .nil) =
      some (.next, laR (some (.list (is.map .int))) (some (.list (H.map hv))) (some (.list ((H.map du).map fv))) (some (.own 1)) (some (.bytes (txt H))) none none, S3 [] (rows H)) := x_ite_f (t_cmp (e_call (es_cons (e_var rfl) es_nil) l1) (e_var rfl) q1) x_nil
  obtain ⟨ρ', σ', e6, x, y, rfl, rfl⟩ := x_fold (K := K) (O := Q K (n+4)) (ρ := laR (some (.list (is.map .int))) (some (.list (H.map hv))) (some (.list ((H.map du).map fv))) (some (.own 1)) (some (.bytes (txt H))) none none) (σ₀ := S3 [] (rows H)) (σ := S3 [] (rows H)) (t := .tup ["asked", "spelled"]) (it := (.list false (.cons (.tuple (.cons (.str [65]) (.cons (.list false (.cons (.str [65]) (.cons (.str [97]) .nil))) .nil))) (.cons (.tuple (.cons (.str [97, 66]) (.cons (.list false (.cons (.str [65, 98]) .nil)) .nil))) (.cons (.tuple (.cons (.str [66, 58]) (.cons (.list false (.cons (.str [98, 58]) .nil)) .nil))) (.cons (.tuple (.cons (.str []) (.cons (.list false (.cons (.str []) .nil)) .nil))) .nil)))))) (ms := laB) (x := .list (asks.map av)) av (r := asks)
    (fun d ρ σ' => ∃ x y, ρ = laR (some (.list (is.map .int))) (some (.list (H.map hv))) (some (.list ((H.map du).map fv))) (some (.own 1)) (some (.bytes (txt H))) x y ∧ σ' = S3 [] (rows H)) rfl rfl (fun _ _ _ _ => rfl)
    (fun d p e hw ρ σ' ⟨x, y, q1, q2⟩ => by
      subst q1 q2
      exact ⟨laR (some (.list (is.map .int))) (some (.list (H.map hv))) (some (.list ((H.map du).map fv))) (some (.own 1)) (some (.bytes (txt H))) (some (.str p.1)) (some (.list (p.2.map .str))), _, _, rfl, la_turn (n := n + 1) hH (hw ▸ List.mem_append_right _ (.head _)), _, _, rfl, rfl⟩) ⟨none, none, rfl, rfl⟩
  have c1 : evalM K (Q K (n+4)) (laR (some (.list (is.map .int))) (some (.list (H.map hv))) (some (.list ((H.map du).map fv))) (some (.own 1)) (some (.bytes (txt H))) x y) (S3 [] (rows H)) (.comp (.tuple (.cons (.idx (.var "form") (.int 0)) (.cons (.idx (.idx (.var "form") (.int 1)) (.int 0)) (.cons (.idx (.idx (.var "form") (.int 1)) (.int 1)) .nil)))) (.one "form") (.var "forms") .nil) = some (.list ((H.map du).map hv), S3 [] (rows H)) := by
    refine e_comp1 (fun ρ => ∃ b, ρ = [(".0", none), ("form", b)] ++ laR (some (.list (is.map .int))) (some (.list (H.map hv))) (some (.list ((H.map du).map fv))) (some (.own 1)) (some (.bytes (txt H))) x y) fv (fun h => [hv h]) (vs := H.map du) (e_var rfl) rfl rfl (fun h hh ρ ⟨b, e⟩ => ?_) ⟨none, rfl⟩ (Nat.le_trans hD.1 (by decide)) (flat_one _ _)
    subst e
    exact tr_yes (w := hv h) (ρ₁ := [(".0", none), ("form", some (fv h))] ++ laR (some (.list (is.map .int))) (some (.list (H.map hv))) (some (.list ((H.map du).map fv))) (some (.own 1)) (some (.bytes (txt H))) x y) rfl ⟨_, rfl⟩ if_nil (e_tuple (es_cons (e_idx (e_var rfl) e_int rfl) (es_cons (e_idx (e_idx (e_var rfl) e_int rfl) e_int rfl) (es_cons (e_idx (e_idx (e_var rfl) e_int rfl) e_int rfl) es_nil))) (by show 3 ≤ 1000; decide)) rfl
  exact call_of (fn := fn_law K) (ρ := laR (some (.list (is.map .int))) none none none none none none) (τ := []) (v := .bool true) rfl (by rfl) ⟨_, x_cons e1 (x_cons e2 (x_cons e3 (x_cons e4 (x_cons e5 (x_cons e6 (x_stop (x_ret (e_cmp (e_conv_f (e_call (es_cons c1 es_nil) t2) i2 b2) (e_var rfl) q2))))))))⟩ (fin_cut (τ := []) (ρ := S3 (S3 [] (rows H)) (rows (H.map du))) rfl rfl rfl)
end

end Mine.Pl
set_option maxRecDepth 100000 in
set_option maxHeartbeats 8000000 in
theorem PySem.Challenge.cw_mq0497_04_holds : PySem.Challenge.rw_mq0497_04.Holds := by
  refine Mine.hd ?_
  k_fill
  intro w s₀ s₁ mg mb G y fa o pm cd doc dV kV ho hd hcd hD hmg hg args vals as L hpre hlay hrd hwl hlo
  have F := PySem.W.X.z_facts (by intro P; kernel_rfl) y
  have KX := InK.keeps w _ _ F.2.1 (Laid.keeps L)
  have ZT := F.2.2.2
  refine Ground.open G ?_
  intro T B D TE TW
  clear y D B TE TW G F
  have hfa : fa = 229 := by
    have e := mg_of KX T.g (n := Str.ofString "law") (v := .ref 229) (by kernel_rfl)
    have := hmg.symm.trans e
    cases this; rfl
  subst hfa
  wrow_args hpre hlay hrd hwl hlo
  have htk := PySem.W.X.script_toks L ZT
  refine enter_call ?_
  clear hd hcd hD hmg
  refine Mine.law_end (Γ := Mine.ctx) (cfg := Mine.cfg) (T := Mine.tab Mine.cfg) (n := 12) (Mine.base_of (ms := Mine.msl) (fs := Mine.fsl) (a := 182) KX T.g T.b T.nolimit (fun x hx => T.builtins x hx) rfl (by decide) ?_ ?_ ?_ ?_ (by decide) ?_ ?_ (by decide) ?_) (by decide) (PySem.W.X.script_obj L (by assumption)) (by assumption) hg (Nat.le_trans (by decide) htk) ?_ (by decide) (fun _ => rfl) ?_
  case refine_8 => exact Mine.Pl.law_ok 7 _ (by omega)
  case refine_9 => first | rfl | wrow_post
  case refine_1 => kernel_rfl
  case refine_2 => kernel_rfl
  case refine_3 => kernel_rfl
  case refine_4 => kernel_rfl
  case refine_5 => kernel_rfl
  case refine_6 => kernel_rfl
  case refine_7 => kernel_rfl
